import PyProof.Rows.All
import Wide.All
import OpenK.AllK
import Wide.FinOn
import PySem.Challenge.RW_in0015_01
open PySem PySem.W PySem.Spec PySem.Calls PyProof.Rows
set_option Elab.async false
set_option maxRecDepth 100000
set_option maxHeartbeats 8000000
set_option linter.unusedVariables false
set_option linter.unusedSectionVars false
set_option genInjectivity false
set_option genSizeOf false
namespace Mine
section
local macro_rules | `(tactic| o_head $_) => `(tactic| refine (fun (_ : True) (h : PySem.Challenge.rw_in0015_01.row.Holds) => h) ?hw ?hc)
local macro_rules | `(tactic| w_witness2) => `(tactic| trivial)
open_top hd for PySem.Challenge.rw_in0015_01.row
end
universe u0 u1 u2 u3 u4 u5 u6 u7 u8 u9 u10 u11 u12 u13
theorem xEE {t0 : Sort u0} {t1 : Sort u1} {P0 : t0 → t1 → Prop} {G : Prop} (e : ∃ x0 : t0, ∃ x1 : t1, P0 x0 x1) (k : ∀ x0, ∀ x1, (P0 x0 x1) → G) : G := Exists.elim e fun a0 h0 => Exists.elim h0 fun a1 h1 => k a0 a1 h1
theorem xEA {t0 : Sort u0} {P0 : t0 → Prop} {P1 : t0 → Prop} {G : Prop} (e : ∃ x0 : t0, P0 x0 ∧ P1 x0) (k : ∀ x0, (P0 x0) → (P1 x0) → G) : G := Exists.elim e fun a0 h0 => k a0 h0.1 h0.2
theorem xAE {t0 : Sort u0} {P0 : Prop} {P1 : t0 → Prop} {G : Prop} (e : P0 ∧ ∃ x0 : t0, P1 x0) (k : (P0) → ∀ x0, (P1 x0) → G) : G := Exists.elim e.2 fun a0 h0 => k e.1 a0 h0
theorem xAA {P0 : Prop} {P1 : Prop} {P2 : Prop} {G : Prop} (e : P0 ∧ P1 ∧ P2) (k : (P0) → (P1) → (P2) → G) : G := k e.1 e.2.1 e.2.2
theorem xEEE {t0 : Sort u0} {t1 : Sort u1} {t2 : Sort u2} {P0 : t0 → t1 → t2 → Prop} {G : Prop} (e : ∃ x0 : t0, ∃ x1 : t1, ∃ x2 : t2, P0 x0 x1 x2) (k : ∀ x0, ∀ x1, ∀ x2, (P0 x0 x1 x2) → G) : G := Exists.elim e fun a0 h0 => Exists.elim h0 fun a1 h1 => Exists.elim h1 fun a2 h2 => k a0 a1 a2 h2
theorem xEEA {t0 : Sort u0} {t1 : Sort u1} {P0 : t0 → t1 → Prop} {P1 : t0 → t1 → Prop} {G : Prop} (e : ∃ x0 : t0, ∃ x1 : t1, P0 x0 x1 ∧ P1 x0 x1) (k : ∀ x0, ∀ x1, (P0 x0 x1) → (P1 x0 x1) → G) : G := Exists.elim e fun a0 h0 => Exists.elim h0 fun a1 h1 => k a0 a1 h1.1 h1.2
theorem xEAE {t0 : Sort u0} {t1 : Sort u1} {P0 : t0 → Prop} {P1 : t0 → t1 → Prop} {G : Prop} (e : ∃ x0 : t0, P0 x0 ∧ ∃ x1 : t1, P1 x0 x1) (k : ∀ x0, (P0 x0) → ∀ x1, (P1 x0 x1) → G) : G := Exists.elim e fun a0 h0 => Exists.elim h0.2 fun a1 h1 => k a0 h0.1 a1 h1
theorem xEAA {t0 : Sort u0} {P0 : t0 → Prop} {P1 : t0 → Prop} {P2 : t0 → Prop} {G : Prop} (e : ∃ x0 : t0, P0 x0 ∧ P1 x0 ∧ P2 x0) (k : ∀ x0, (P0 x0) → (P1 x0) → (P2 x0) → G) : G := Exists.elim e fun a0 h0 => k a0 h0.1 h0.2.1 h0.2.2
theorem xAEA {t0 : Sort u0} {P0 : Prop} {P1 : t0 → Prop} {P2 : t0 → Prop} {G : Prop} (e : P0 ∧ ∃ x0 : t0, P1 x0 ∧ P2 x0) (k : (P0) → ∀ x0, (P1 x0) → (P2 x0) → G) : G := Exists.elim e.2 fun a0 h0 => k e.1 a0 h0.1 h0.2
theorem xAAA {P0 : Prop} {P1 : Prop} {P2 : Prop} {P3 : Prop} {G : Prop} (e : P0 ∧ P1 ∧ P2 ∧ P3) (k : (P0) → (P1) → (P2) → (P3) → G) : G := k e.1 e.2.1 e.2.2.1 e.2.2.2
theorem xEEEA {t0 : Sort u0} {t1 : Sort u1} {t2 : Sort u2} {P0 : t0 → t1 → t2 → Prop} {P1 : t0 → t1 → t2 → Prop} {G : Prop} (e : ∃ x0 : t0, ∃ x1 : t1, ∃ x2 : t2, P0 x0 x1 x2 ∧ P1 x0 x1 x2) (k : ∀ x0, ∀ x1, ∀ x2, (P0 x0 x1 x2) → (P1 x0 x1 x2) → G) : G := Exists.elim e fun a0 h0 => Exists.elim h0 fun a1 h1 => Exists.elim h1 fun a2 h2 => k a0 a1 a2 h2.1 h2.2
theorem xEEAA {t0 : Sort u0} {t1 : Sort u1} {P0 : t0 → t1 → Prop} {P1 : t0 → t1 → Prop} {P2 : t0 → t1 → Prop} {G : Prop} (e : ∃ x0 : t0, ∃ x1 : t1, P0 x0 x1 ∧ P1 x0 x1 ∧ P2 x0 x1) (k : ∀ x0, ∀ x1, (P0 x0 x1) → (P1 x0 x1) → (P2 x0 x1) → G) : G := Exists.elim e fun a0 h0 => Exists.elim h0 fun a1 h1 => k a0 a1 h1.1 h1.2.1 h1.2.2
theorem xEAEA {t0 : Sort u0} {t1 : Sort u1} {P0 : t0 → Prop} {P1 : t0 → t1 → Prop} {P2 : t0 → t1 → Prop} {G : Prop} (e : ∃ x0 : t0, P0 x0 ∧ ∃ x1 : t1, P1 x0 x1 ∧ P2 x0 x1) (k : ∀ x0, (P0 x0) → ∀ x1, (P1 x0 x1) → (P2 x0 x1) → G) : G := Exists.elim e fun a0 h0 => Exists.elim h0.2 fun a1 h1 => k a0 h0.1 a1 h1.1 h1.2
theorem xEAAE {t0 : Sort u0} {t1 : Sort u1} {P0 : t0 → Prop} {P1 : t0 → Prop} {P2 : t0 → t1 → Prop} {G : Prop} (e : ∃ x0 : t0, P0 x0 ∧ P1 x0 ∧ ∃ x1 : t1, P2 x0 x1) (k : ∀ x0, (P0 x0) → (P1 x0) → ∀ x1, (P2 x0 x1) → G) : G := Exists.elim e fun a0 h0 => Exists.elim h0.2.2 fun a1 h1 => k a0 h0.1 h0.2.1 a1 h1
theorem xEAAA {t0 : Sort u0} {P0 : t0 → Prop} {P1 : t0 → Prop} {P2 : t0 → Prop} {P3 : t0 → Prop} {G : Prop} (e : ∃ x0 : t0, P0 x0 ∧ P1 x0 ∧ P2 x0 ∧ P3 x0) (k : ∀ x0, (P0 x0) → (P1 x0) → (P2 x0) → (P3 x0) → G) : G := Exists.elim e fun a0 h0 => k a0 h0.1 h0.2.1 h0.2.2.1 h0.2.2.2
theorem xAEEA {t0 : Sort u0} {t1 : Sort u1} {P0 : Prop} {P1 : t0 → t1 → Prop} {P2 : t0 → t1 → Prop} {G : Prop} (e : P0 ∧ ∃ x0 : t0, ∃ x1 : t1, P1 x0 x1 ∧ P2 x0 x1) (k : (P0) → ∀ x0, ∀ x1, (P1 x0 x1) → (P2 x0 x1) → G) : G := Exists.elim e.2 fun a0 h0 => Exists.elim h0 fun a1 h1 => k e.1 a0 a1 h1.1 h1.2
theorem xAAAE {t0 : Sort u0} {P0 : Prop} {P1 : Prop} {P2 : Prop} {P3 : t0 → Prop} {G : Prop} (e : P0 ∧ P1 ∧ P2 ∧ ∃ x0 : t0, P3 x0) (k : (P0) → (P1) → (P2) → ∀ x0, (P3 x0) → G) : G := Exists.elim e.2.2.2 fun a0 h0 => k e.1 e.2.1 e.2.2.1 a0 h0
theorem xAAAA {P0 : Prop} {P1 : Prop} {P2 : Prop} {P3 : Prop} {P4 : Prop} {G : Prop} (e : P0 ∧ P1 ∧ P2 ∧ P3 ∧ P4) (k : (P0) → (P1) → (P2) → (P3) → (P4) → G) : G := k e.1 e.2.1 e.2.2.1 e.2.2.2.1 e.2.2.2.2
theorem xEAAAA {t0 : Sort u0} {P0 : t0 → Prop} {P1 : t0 → Prop} {P2 : t0 → Prop} {P3 : t0 → Prop} {P4 : t0 → Prop} {G : Prop} (e : ∃ x0 : t0, P0 x0 ∧ P1 x0 ∧ P2 x0 ∧ P3 x0 ∧ P4 x0) (k : ∀ x0, (P0 x0) → (P1 x0) → (P2 x0) → (P3 x0) → (P4 x0) → G) : G := Exists.elim e fun a0 h0 => k a0 h0.1 h0.2.1 h0.2.2.1 h0.2.2.2.1 h0.2.2.2.2
theorem xEEAAA {t0 : Sort u0} {t1 : Sort u1} {P0 : t0 → t1 → Prop} {P1 : t0 → t1 → Prop} {P2 : t0 → t1 → Prop} {P3 : t0 → t1 → Prop} {G : Prop} (e : ∃ x0 : t0, ∃ x1 : t1, P0 x0 x1 ∧ P1 x0 x1 ∧ P2 x0 x1 ∧ P3 x0 x1) (k : ∀ x0, ∀ x1, (P0 x0 x1) → (P1 x0 x1) → (P2 x0 x1) → (P3 x0 x1) → G) : G := Exists.elim e fun a0 h0 => Exists.elim h0 fun a1 h1 => k a0 a1 h1.1 h1.2.1 h1.2.2.1 h1.2.2.2
theorem xEEEAA {t0 : Sort u0} {t1 : Sort u1} {t2 : Sort u2} {P0 : t0 → t1 → t2 → Prop} {P1 : t0 → t1 → t2 → Prop} {P2 : t0 → t1 → t2 → Prop} {G : Prop} (e : ∃ x0 : t0, ∃ x1 : t1, ∃ x2 : t2, P0 x0 x1 x2 ∧ P1 x0 x1 x2 ∧ P2 x0 x1 x2) (k : ∀ x0, ∀ x1, ∀ x2, (P0 x0 x1 x2) → (P1 x0 x1 x2) → (P2 x0 x1 x2) → G) : G := Exists.elim e fun a0 h0 => Exists.elim h0 fun a1 h1 => Exists.elim h1 fun a2 h2 => k a0 a1 a2 h2.1 h2.2.1 h2.2.2
theorem xEEAAAA {t0 : Sort u0} {t1 : Sort u1} {P0 : t0 → t1 → Prop} {P1 : t0 → t1 → Prop} {P2 : t0 → t1 → Prop} {P3 : t0 → t1 → Prop} {P4 : t0 → t1 → Prop} {G : Prop} (e : ∃ x0 : t0, ∃ x1 : t1, P0 x0 x1 ∧ P1 x0 x1 ∧ P2 x0 x1 ∧ P3 x0 x1 ∧ P4 x0 x1) (k : ∀ x0, ∀ x1, (P0 x0 x1) → (P1 x0 x1) → (P2 x0 x1) → (P3 x0 x1) → (P4 x0 x1) → G) : G := Exists.elim e fun a0 h0 => Exists.elim h0 fun a1 h1 => k a0 a1 h1.1 h1.2.1 h1.2.2.1 h1.2.2.2.1 h1.2.2.2.2
theorem xEEEAAA {t0 : Sort u0} {t1 : Sort u1} {t2 : Sort u2} {P0 : t0 → t1 → t2 → Prop} {P1 : t0 → t1 → t2 → Prop} {P2 : t0 → t1 → t2 → Prop} {P3 : t0 → t1 → t2 → Prop} {G : Prop} (e : ∃ x0 : t0, ∃ x1 : t1, ∃ x2 : t2, P0 x0 x1 x2 ∧ P1 x0 x1 x2 ∧ P2 x0 x1 x2 ∧ P3 x0 x1 x2) (k : ∀ x0, ∀ x1, ∀ x2, (P0 x0 x1 x2) → (P1 x0 x1 x2) → (P2 x0 x1 x2) → (P3 x0 x1 x2) → G) : G := Exists.elim e fun a0 h0 => Exists.elim h0 fun a1 h1 => Exists.elim h1 fun a2 h2 => k a0 a1 a2 h2.1 h2.2.1 h2.2.2.1 h2.2.2.2
theorem xEEEEAA {t0 : Sort u0} {t1 : Sort u1} {t2 : Sort u2} {t3 : Sort u3} {P0 : t0 → t1 → t2 → t3 → Prop} {P1 : t0 → t1 → t2 → t3 → Prop} {P2 : t0 → t1 → t2 → t3 → Prop} {G : Prop} (e : ∃ x0 : t0, ∃ x1 : t1, ∃ x2 : t2, ∃ x3 : t3, P0 x0 x1 x2 x3 ∧ P1 x0 x1 x2 x3 ∧ P2 x0 x1 x2 x3) (k : ∀ x0, ∀ x1, ∀ x2, ∀ x3, (P0 x0 x1 x2 x3) → (P1 x0 x1 x2 x3) → (P2 x0 x1 x2 x3) → G) : G := Exists.elim e fun a0 h0 => Exists.elim h0 fun a1 h1 => Exists.elim h1 fun a2 h2 => Exists.elim h2 fun a3 h3 => k a0 a1 a2 a3 h3.1 h3.2.1 h3.2.2
theorem xEEEEEA {t0 : Sort u0} {t1 : Sort u1} {t2 : Sort u2} {t3 : Sort u3} {t4 : Sort u4} {P0 : t0 → t1 → t2 → t3 → t4 → Prop} {P1 : t0 → t1 → t2 → t3 → t4 → Prop} {G : Prop} (e : ∃ x0 : t0, ∃ x1 : t1, ∃ x2 : t2, ∃ x3 : t3, ∃ x4 : t4, P0 x0 x1 x2 x3 x4 ∧ P1 x0 x1 x2 x3 x4) (k : ∀ x0, ∀ x1, ∀ x2, ∀ x3, ∀ x4, (P0 x0 x1 x2 x3 x4) → (P1 x0 x1 x2 x3 x4) → G) : G := Exists.elim e fun a0 h0 => Exists.elim h0 fun a1 h1 => Exists.elim h1 fun a2 h2 => Exists.elim h2 fun a3 h3 => Exists.elim h3 fun a4 h4 => k a0 a1 a2 a3 a4 h4.1 h4.2
theorem mH {α : Type u0} {x : α} {l : List α} : x ∈ x :: l := List.Mem.head _
theorem mT {α : Type u0} {x y : α} {l : List α} (h : x ∈ l) : x ∈ y :: l := List.Mem.tail _ h
theorem xAEEEAA {t0 : Sort u0} {t1 : Sort u1} {t2 : Sort u2} {P0 : Prop} {P1 : t0 → t1 → t2 → Prop} {P2 : t0 → t1 → t2 → Prop} {P3 : t0 → t1 → t2 → Prop} {G : Prop} (e : P0 ∧ ∃ x0 : t0, ∃ x1 : t1, ∃ x2 : t2, P1 x0 x1 x2 ∧ P2 x0 x1 x2 ∧ P3 x0 x1 x2) (k : (P0) → ∀ x0, ∀ x1, ∀ x2, (P1 x0 x1 x2) → (P2 x0 x1 x2) → (P3 x0 x1 x2) → G) : G := by obtain ⟨z0, z1, z2, z3, z4, z5, z6⟩ := e; exact k z0 z1 z2 z3 z4 z5 z6
theorem xEAAAAEAAA {t0 : Sort u0} {t1 : Sort u1} {P0 : t0 → Prop} {P1 : t0 → Prop} {P2 : t0 → Prop} {P3 : t0 → Prop} {P4 : t0 → t1 → Prop} {P5 : t0 → t1 → Prop} {P6 : t0 → t1 → Prop} {P7 : t0 → t1 → Prop} {G : Prop} (e : ∃ x0 : t0, P0 x0 ∧ P1 x0 ∧ P2 x0 ∧ P3 x0 ∧ ∃ x1 : t1, P4 x0 x1 ∧ P5 x0 x1 ∧ P6 x0 x1 ∧ P7 x0 x1) (k : ∀ x0, (P0 x0) → (P1 x0) → (P2 x0) → (P3 x0) → ∀ x1, (P4 x0 x1) → (P5 x0 x1) → (P6 x0 x1) → (P7 x0 x1) → G) : G := by obtain ⟨z0, z1, z2, z3, z4, z5, z6, z7, z8, z9⟩ := e; exact k z0 z1 z2 z3 z4 z5 z6 z7 z8 z9
theorem xEAAAAEE {t0 : Sort u0} {t1 : Sort u1} {t2 : Sort u2} {P0 : t0 → Prop} {P1 : t0 → Prop} {P2 : t0 → Prop} {P3 : t0 → Prop} {P4 : t0 → t1 → t2 → Prop} {G : Prop} (e : ∃ x0 : t0, P0 x0 ∧ P1 x0 ∧ P2 x0 ∧ P3 x0 ∧ ∃ x1 : t1, ∃ x2 : t2, P4 x0 x1 x2) (k : ∀ x0, (P0 x0) → (P1 x0) → (P2 x0) → (P3 x0) → ∀ x1, ∀ x2, (P4 x0 x1 x2) → G) : G := by obtain ⟨z0, z1, z2, z3, z4, z5, z6, z7⟩ := e; exact k z0 z1 z2 z3 z4 z5 z6 z7
theorem xEAAAAEEA {t0 : Sort u0} {t1 : Sort u1} {t2 : Sort u2} {P0 : t0 → Prop} {P1 : t0 → Prop} {P2 : t0 → Prop} {P3 : t0 → Prop} {P4 : t0 → t1 → t2 → Prop} {P5 : t0 → t1 → t2 → Prop} {G : Prop} (e : ∃ x0 : t0, P0 x0 ∧ P1 x0 ∧ P2 x0 ∧ P3 x0 ∧ ∃ x1 : t1, ∃ x2 : t2, P4 x0 x1 x2 ∧ P5 x0 x1 x2) (k : ∀ x0, (P0 x0) → (P1 x0) → (P2 x0) → (P3 x0) → ∀ x1, ∀ x2, (P4 x0 x1 x2) → (P5 x0 x1 x2) → G) : G := by obtain ⟨z0, z1, z2, z3, z4, z5, z6, z7, z8⟩ := e; exact k z0 z1 z2 z3 z4 z5 z6 z7 z8
theorem xEAAAAEEAAA {t0 : Sort u0} {t1 : Sort u1} {t2 : Sort u2} {P0 : t0 → Prop} {P1 : t0 → Prop} {P2 : t0 → Prop} {P3 : t0 → Prop} {P4 : t0 → t1 → t2 → Prop} {P5 : t0 → t1 → t2 → Prop} {P6 : t0 → t1 → t2 → Prop} {P7 : t0 → t1 → t2 → Prop} {G : Prop} (e : ∃ x0 : t0, P0 x0 ∧ P1 x0 ∧ P2 x0 ∧ P3 x0 ∧ ∃ x1 : t1, ∃ x2 : t2, P4 x0 x1 x2 ∧ P5 x0 x1 x2 ∧ P6 x0 x1 x2 ∧ P7 x0 x1 x2) (k : ∀ x0, (P0 x0) → (P1 x0) → (P2 x0) → (P3 x0) → ∀ x1, ∀ x2, (P4 x0 x1 x2) → (P5 x0 x1 x2) → (P6 x0 x1 x2) → (P7 x0 x1 x2) → G) : G := by obtain ⟨z0, z1, z2, z3, z4, z5, z6, z7, z8, z9, z10⟩ := e; exact k z0 z1 z2 z3 z4 z5 z6 z7 z8 z9 z10
theorem xEAEAE {t0 : Sort u0} {t1 : Sort u1} {t2 : Sort u2} {P0 : t0 → Prop} {P1 : t0 → t1 → Prop} {P2 : t0 → t1 → t2 → Prop} {G : Prop} (e : ∃ x0 : t0, P0 x0 ∧ ∃ x1 : t1, P1 x0 x1 ∧ ∃ x2 : t2, P2 x0 x1 x2) (k : ∀ x0, (P0 x0) → ∀ x1, (P1 x0 x1) → ∀ x2, (P2 x0 x1 x2) → G) : G := by obtain ⟨z0, z1, z2, z3, z4, z5⟩ := e; exact k z0 z1 z2 z3 z4 z5
theorem xEAEEEEA {t0 : Sort u0} {t1 : Sort u1} {t2 : Sort u2} {t3 : Sort u3} {t4 : Sort u4} {P0 : t0 → Prop} {P1 : t0 → t1 → t2 → t3 → t4 → Prop} {P2 : t0 → t1 → t2 → t3 → t4 → Prop} {G : Prop} (e : ∃ x0 : t0, P0 x0 ∧ ∃ x1 : t1, ∃ x2 : t2, ∃ x3 : t3, ∃ x4 : t4, P1 x0 x1 x2 x3 x4 ∧ P2 x0 x1 x2 x3 x4) (k : ∀ x0, (P0 x0) → ∀ x1, ∀ x2, ∀ x3, ∀ x4, (P1 x0 x1 x2 x3 x4) → (P2 x0 x1 x2 x3 x4) → G) : G := by obtain ⟨z0, z1, z2, z3, z4, z5, z6, z7⟩ := e; exact k z0 z1 z2 z3 z4 z5 z6 z7
theorem xEEEAAAA {t0 : Sort u0} {t1 : Sort u1} {t2 : Sort u2} {P0 : t0 → t1 → t2 → Prop} {P1 : t0 → t1 → t2 → Prop} {P2 : t0 → t1 → t2 → Prop} {P3 : t0 → t1 → t2 → Prop} {P4 : t0 → t1 → t2 → Prop} {G : Prop} (e : ∃ x0 : t0, ∃ x1 : t1, ∃ x2 : t2, P0 x0 x1 x2 ∧ P1 x0 x1 x2 ∧ P2 x0 x1 x2 ∧ P3 x0 x1 x2 ∧ P4 x0 x1 x2) (k : ∀ x0, ∀ x1, ∀ x2, (P0 x0 x1 x2) → (P1 x0 x1 x2) → (P2 x0 x1 x2) → (P3 x0 x1 x2) → (P4 x0 x1 x2) → G) : G := by obtain ⟨z0, z1, z2, z3, z4, z5, z6, z7⟩ := e; exact k z0 z1 z2 z3 z4 z5 z6 z7
theorem xEEEEAAA {t0 : Sort u0} {t1 : Sort u1} {t2 : Sort u2} {t3 : Sort u3} {P0 : t0 → t1 → t2 → t3 → Prop} {P1 : t0 → t1 → t2 → t3 → Prop} {P2 : t0 → t1 → t2 → t3 → Prop} {P3 : t0 → t1 → t2 → t3 → Prop} {G : Prop} (e : ∃ x0 : t0, ∃ x1 : t1, ∃ x2 : t2, ∃ x3 : t3, P0 x0 x1 x2 x3 ∧ P1 x0 x1 x2 x3 ∧ P2 x0 x1 x2 x3 ∧ P3 x0 x1 x2 x3) (k : ∀ x0, ∀ x1, ∀ x2, ∀ x3, (P0 x0 x1 x2 x3) → (P1 x0 x1 x2 x3) → (P2 x0 x1 x2 x3) → (P3 x0 x1 x2 x3) → G) : G := by obtain ⟨z0, z1, z2, z3, z4, z5, z6, z7⟩ := e; exact k z0 z1 z2 z3 z4 z5 z6 z7
theorem xEEEEAAAA {t0 : Sort u0} {t1 : Sort u1} {t2 : Sort u2} {t3 : Sort u3} {P0 : t0 → t1 → t2 → t3 → Prop} {P1 : t0 → t1 → t2 → t3 → Prop} {P2 : t0 → t1 → t2 → t3 → Prop} {P3 : t0 → t1 → t2 → t3 → Prop} {P4 : t0 → t1 → t2 → t3 → Prop} {G : Prop} (e : ∃ x0 : t0, ∃ x1 : t1, ∃ x2 : t2, ∃ x3 : t3, P0 x0 x1 x2 x3 ∧ P1 x0 x1 x2 x3 ∧ P2 x0 x1 x2 x3 ∧ P3 x0 x1 x2 x3 ∧ P4 x0 x1 x2 x3) (k : ∀ x0, ∀ x1, ∀ x2, ∀ x3, (P0 x0 x1 x2 x3) → (P1 x0 x1 x2 x3) → (P2 x0 x1 x2 x3) → (P3 x0 x1 x2 x3) → (P4 x0 x1 x2 x3) → G) : G := by obtain ⟨z0, z1, z2, z3, z4, z5, z6, z7, z8⟩ := e; exact k z0 z1 z2 z3 z4 z5 z6 z7 z8
theorem xEEEEEEAAAA {t0 : Sort u0} {t1 : Sort u1} {t2 : Sort u2} {t3 : Sort u3} {t4 : Sort u4} {t5 : Sort u5} {P0 : t0 → t1 → t2 → t3 → t4 → t5 → Prop} {P1 : t0 → t1 → t2 → t3 → t4 → t5 → Prop} {P2 : t0 → t1 → t2 → t3 → t4 → t5 → Prop} {P3 : t0 → t1 → t2 → t3 → t4 → t5 → Prop} {P4 : t0 → t1 → t2 → t3 → t4 → t5 → Prop} {G : Prop} (e : ∃ x0 : t0, ∃ x1 : t1, ∃ x2 : t2, ∃ x3 : t3, ∃ x4 : t4, ∃ x5 : t5, P0 x0 x1 x2 x3 x4 x5 ∧ P1 x0 x1 x2 x3 x4 x5 ∧ P2 x0 x1 x2 x3 x4 x5 ∧ P3 x0 x1 x2 x3 x4 x5 ∧ P4 x0 x1 x2 x3 x4 x5) (k : ∀ x0, ∀ x1, ∀ x2, ∀ x3, ∀ x4, ∀ x5, (P0 x0 x1 x2 x3 x4 x5) → (P1 x0 x1 x2 x3 x4 x5) → (P2 x0 x1 x2 x3 x4 x5) → (P3 x0 x1 x2 x3 x4 x5) → (P4 x0 x1 x2 x3 x4 x5) → G) : G := by obtain ⟨z0, z1, z2, z3, z4, z5, z6, z7, z8, z9, z10⟩ := e; exact k z0 z1 z2 z3 z4 z5 z6 z7 z8 z9 z10
theorem xEEEEEEEEAAAAAAA {t0 : Sort u0} {t1 : Sort u1} {t2 : Sort u2} {t3 : Sort u3} {t4 : Sort u4} {t5 : Sort u5} {t6 : Sort u6} {t7 : Sort u7} {P0 : t0 → t1 → t2 → t3 → t4 → t5 → t6 → t7 → Prop} {P1 : t0 → t1 → t2 → t3 → t4 → t5 → t6 → t7 → Prop} {P2 : t0 → t1 → t2 → t3 → t4 → t5 → t6 → t7 → Prop} {P3 : t0 → t1 → t2 → t3 → t4 → t5 → t6 → t7 → Prop} {P4 : t0 → t1 → t2 → t3 → t4 → t5 → t6 → t7 → Prop} {P5 : t0 → t1 → t2 → t3 → t4 → t5 → t6 → t7 → Prop} {P6 : t0 → t1 → t2 → t3 → t4 → t5 → t6 → t7 → Prop} {P7 : t0 → t1 → t2 → t3 → t4 → t5 → t6 → t7 → Prop} {G : Prop} (e : ∃ x0 : t0, ∃ x1 : t1, ∃ x2 : t2, ∃ x3 : t3, ∃ x4 : t4, ∃ x5 : t5, ∃ x6 : t6, ∃ x7 : t7, P0 x0 x1 x2 x3 x4 x5 x6 x7 ∧ P1 x0 x1 x2 x3 x4 x5 x6 x7 ∧ P2 x0 x1 x2 x3 x4 x5 x6 x7 ∧ P3 x0 x1 x2 x3 x4 x5 x6 x7 ∧ P4 x0 x1 x2 x3 x4 x5 x6 x7 ∧ P5 x0 x1 x2 x3 x4 x5 x6 x7 ∧ P6 x0 x1 x2 x3 x4 x5 x6 x7 ∧ P7 x0 x1 x2 x3 x4 x5 x6 x7) (k : ∀ x0, ∀ x1, ∀ x2, ∀ x3, ∀ x4, ∀ x5, ∀ x6, ∀ x7, (P0 x0 x1 x2 x3 x4 x5 x6 x7) → (P1 x0 x1 x2 x3 x4 x5 x6 x7) → (P2 x0 x1 x2 x3 x4 x5 x6 x7) → (P3 x0 x1 x2 x3 x4 x5 x6 x7) → (P4 x0 x1 x2 x3 x4 x5 x6 x7) → (P5 x0 x1 x2 x3 x4 x5 x6 x7) → (P6 x0 x1 x2 x3 x4 x5 x6 x7) → (P7 x0 x1 x2 x3 x4 x5 x6 x7) → G) : G := by obtain ⟨z0, z1, z2, z3, z4, z5, z6, z7, z8, z9, z10, z11, z12, z13, z14, z15⟩ := e; exact k z0 z1 z2 z3 z4 z5 z6 z7 z8 z9 z10 z11 z12 z13 z14 z15
section
section
variable {M : Model} {A : Around} {E : Value → Shared → Prop} {s : Shared} {env : Env}
abbrev KqX (M : Model) (A : Around) (E : Value → Shared → Prop) (env : Env) (rest : List Stmt) (Q : Flow → Shared → Prop) : Flow → Shared → Prop := fun f s' => match f with
  | .next => wpAny M A (execs rest env) Q E s'
  | f => Q f s'
theorem k_execs_cons {st : Stmt} {rest : List Stmt} {Q : Flow → Shared → Prop} (h : wpAny M A (exec st env) (KqX M A E env rest Q) E s) : wpAny M A (execs (st :: rest) env) Q E s := wpAny_execs_cons h
abbrev KqV (v : Value) (Q : List Value → Shared → Prop) : List Value → Shared → Prop := fun vs s₂ => Q (v :: vs) s₂
abbrev KqI (M : Model) (A : Around) (E : Value → Shared → Prop) (env : Env) (pos : Pos) (rest : List PySem.Expr) (Q : List Value → Shared → Prop) : Value → Shared → Prop := fun v s₁ => wpAny M A (spliced (backTo pos (starEach rest env))) (KqV v Q) E s₁
theorem k_items_cons {pos : Pos} {e : PySem.Expr} {rest : List PySem.Expr} {Q : List Value → Shared → Prop} (h : wpAny M A (eval e env) (KqI M A E env pos rest Q) E s)
    (he : starEach (e :: rest) env = (false, eval e env) :: starEach rest env := by rfl) : wpAny M A (spliced (backTo pos (starEach (e :: rest) env))) Q E s := wpAny_items_cons h he
abbrev KqC (M : Model) (A : Around) (E : Value → Shared → Prop) (env : Env) (pos : Pos) (args : List PySem.Expr) (kws : List Keyword) (Q : Value → Shared → Prop) : Value → Shared → Prop := fun f s₁ => wpAny M A (callWith pos f [] (backTo pos (starEach args env)) (backToKw pos (keywordEach kws env))) Q E s₁
theorem k_Call_Name_kw {id : Str} {p pos : Pos} {args : List PySem.Expr} {keywords : List Keyword} {Q : Value → Shared → Prop} (h : wpAny M A (eval (.Name id p) env) (KqC M A E env pos args keywords Q) E s) :
    wpAny M A (eval (.Call (.Name id p) args keywords pos) env) Q E s := wpAny_Call_Name_kw h
abbrev KqN (Q : Flow → Shared → Prop) {α : Type} : α → Shared → Prop := fun _ => Q .next
abbrev KqA (M : Model) (A : Around) (E : Value → Shared → Prop) (env : Env) (x : Str) (Q : Flow → Shared → Prop) : Value → Shared → Prop := fun v s₁ => wpAny M A (storeName env x v) (KqN Q) E s₁
theorem k_Assign_Name {x : Str} {pos' : Pos} {value : PySem.Expr} {pos : Pos} {Q : Flow → Shared → Prop} (h : wpAny M A (eval value env) (KqA M A E env x Q) E s)
    (hs : swapsWith value (some (.Name x pos')) pos.line env = pure false := by rfl) : wpAny M A (exec (.Assign [.Name x pos'] value pos) env) Q E s := wpAny_Assign_Name h hs
abbrev KqW (M : Model) (A : Around) (E : Value → Shared → Prop) (env : Env) (pos : Pos) (args : List PySem.Expr) (Q : Value → Shared → Prop) : Value × List Value → Shared → Prop := fun fx s₂ => wpAny M A (callWith pos fx.1 fx.2 (backTo pos (starEach args env)) []) Q E s₂
abbrev KqM (M : Model) (A : Around) (E : Value → Shared → Prop) (env : Env) (name : Str) (pos : Pos) (args : List PySem.Expr) (pl : Sem Bool) (Q : Value → Shared → Prop) : Value → Shared → Prop := fun ov s₁ => wpAny M A (getMethod ov name pl) (KqW M A E env pos args Q) E s₁
theorem k_MethodCall {o : PySem.Expr} {name : Str} {apos pos : Pos} {args : List PySem.Expr} {pl : Sem Bool} {Q : Value → Shared → Prop} (h : wpAny M A (eval o env) (KqM M A E env name pos args pl Q) E s)
    (he : eval (.Call (.Attribute o name apos) args [] pos) env = (do
      let ov ← eval o env
      standAt apos.atName
      let (f, first) ← holding [ov] (getMethod ov name pl)
      callWith pos f first (backTo pos (starEach args env)) []) := by rfl) : wpAny M A (eval (.Call (.Attribute o name apos) args [] pos) env) Q E s := MethodCall_ h he
abbrev KqS (M : Model) (A : Around) (E : Value → Shared → Prop) (value slice : PySem.Expr) (o : Value) (Q : Value → Shared → Prop) : Value → Shared → Prop := fun i s₂ => wpAny M A (subscriptTail value slice o i) Q E s₂
abbrev KqT (M : Model) (A : Around) (E : Value → Shared → Prop) (env : Env) (value slice : PySem.Expr) (Q : Value → Shared → Prop) : Value → Shared → Prop := fun o s₁ => wpAny M A (eval slice env) (KqS M A E value slice o Q) E s₁
theorem k_Subscript {value slice : PySem.Expr} {pos : Pos} {Q : Value → Shared → Prop} (h : wpAny M A (eval value env) (KqT M A E env value slice Q) E s) : wpAny M A (eval (.Subscript value slice pos) env) Q E s := Subscript_ h
abbrev KqB (M : Model) (A : Around) (E : Value → Shared → Prop) (op : Operator) (a : Value) (Q : Value → Shared → Prop) : Value → Shared → Prop := fun b s₂ => wpAny M A (binaryOp op a b) Q E s₂
abbrev KqD (M : Model) (A : Around) (E : Value → Shared → Prop) (env : Env) (op : Operator) (r : PySem.Expr) (Q : Value → Shared → Prop) : Value → Shared → Prop := fun a s₁ => wpAny M A (eval r env) (KqB M A E op a Q) E s₁
theorem k_BinOp {l : PySem.Expr} {op : Operator} {r : PySem.Expr} {pos : Pos} {Q : Value → Shared → Prop} (h : wpAny M A (eval l env) (KqD M A E env op r Q) E s) : wpAny M A (eval (.BinOp l op r pos) env) Q E s := wpAny_BinOp h
abbrev KqF (M : Model) (A : Around) (E : Value → Shared → Prop) (env : Env) (body orelse : List Stmt) (Q : Flow → Shared → Prop) : Bool → Shared → Prop := fun b s₂ => if b then wpAny M A (execs body env) Q E s₂ else wpAny M A (execs orelse env) Q E s₂
theorem k_If {test : PySem.Expr} {body orelse : List Stmt} {pos : Pos} {Q : Flow → Shared → Prop} (h : wpAny M A (isTrue test env (eval test env)) (KqF M A E env body orelse Q) E s) : wpAny M A (exec (.If test body orelse pos) env) Q E s := wpAny_If h
abbrev KqG (M : Model) (A : Around) (E : Value → Shared → Prop) (Q : Bool → Shared → Prop) : Value → Shared → Prop := fun c s₃ => wpAny M A (truthy c) Q E s₃
abbrev KqH (M : Model) (A : Around) (E : Value → Shared → Prop) (op : CmpOp) (a : Value) (Q : Value → Shared → Prop) : Value → Shared → Prop := fun b s₂ => wpAny M A (compareOp op a b) Q E s₂
abbrev KqJ (M : Model) (A : Around) (E : Value → Shared → Prop) (env : Env) (op : CmpOp) (r : PySem.Expr) (Q : Value → Shared → Prop) : Value → Shared → Prop := fun a s₁ => wpAny M A (eval r env) (KqH M A E op a Q) E s₁
theorem k_isTrue_Compare1 {l : PySem.Expr} {op : CmpOp} {r : PySem.Expr} {pos : Pos} {whole : Sem Value} {Q : Bool → Shared → Prop} (h : wpAny M A (eval l env) (KqJ M A E env op r (KqG M A E Q)) E s)
    (hm : behindInMarks op r = false := by with_unfolding_all rfl) : wpAny M A (isTrue (.Compare l [op] [r] pos) env whole) Q E s := wpAny_isTrue_Compare1 h hm
theorem k_Compare1 {l : PySem.Expr} {op : CmpOp} {r : PySem.Expr} {pos : Pos} {Q : Value → Shared → Prop} (h : wpAny M A (eval l env) (KqJ M A E env op r Q) E s)
    (hm : behindInMarks op r = false := by with_unfolding_all rfl) : wpAny M A (eval (.Compare l [op] [r] pos) env) Q E s := wpAny_Compare1 h hm
abbrev KqU (M : Model) (A : Around) (E : Value → Shared → Prop) (Q : Value → Shared → Prop) : List Value → Shared → Prop := fun vs s₁ => wpAny M A (newTuple vs) Q E s₁
theorem k_Tuple {elts : List PySem.Expr} {k : Nat} {pos : Pos} {Q : Value → Shared → Prop} (h : wpAny M A (spliced (backTo pos (starEach elts env))) (KqU M A E Q) E s) : wpAny M A (eval (.Tuple elts k pos) env) Q E s := Tuple_ h
abbrev KqR (Q : Flow → Shared → Prop) : Value → Shared → Prop := fun v => Q (.ret v)
theorem k_Return_some {e : PySem.Expr} {pos : Pos} {Q : Flow → Shared → Prop} (h : wpAny M A (eval e env) (KqR Q) E s) : wpAny M A (exec (.Return (some e) pos) env) Q E s := wpAny_Return_some h
theorem k_Expr_any {prog : Program} {w : World} {e : PySem.Expr} {pos : Pos} {Q : Flow → Shared → Prop} (h : wpAny (model prog w) A (eval e env) (KqN Q) E s)
    (hi : interactive env = false := by rfl) (hs : swapsWith e none pos.line env = pure false := by rfl) : wpAny (model prog w) A (exec (.Expr e pos) env) Q E s := wpAny_Expr_any h hi hs
end
end
section
noncomputable abbrev Pr := Obj → Prop
noncomputable abbrev Led := List (Addr × Pr)
structure St (h₀ : Heap) (K : Led) (h : Heap) : Prop where
 keep : ∀ b o, h₀.get? b = some o → h.get? b = some o
 ent : ∀ p ∈ K, ∃ o, h.get? p.1 = some o ∧ p.2 o
 new : ∀ p ∈ K, h₀.get? p.1 = none
 nd : (K.map (·.1)).Nodup
noncomputable def nsP (l : List (Str × Value)) : Pr := fun o => ∃ es ep, ∃ m : Str → Option Value, o.data = .dict es ep ∧ StrKeys es ∧ (∀ name, nsFind es name = m name) ∧ (∀ p ∈ l, m p.1 = some p.2) ∧ (l.map (·.1)).Nodup
noncomputable def lsP (vs : List Value) : Pr := fun o => ∃ n, o = ({ cls := .type "list", data := .seq vs.toArray n } : Obj)
noncomputable def tpP (vs : List Value) : Pr := fun o => ∃ n, o = ({ cls := .type "tuple", data := .seq vs.toArray n } : Obj)
noncomputable def cellP (v : Option Value) : Pr := fun o => o.data = .cell v
noncomputable def itP (l : Addr) (i : Nat) : Pr := fun o => o.cls = .type "list_iterator" ∧ o.data = .fields #[.ref l, .int i 0]
noncomputable def exP (x : Obj) : Pr := fun o => o = x
inductive Up (a : Addr) (P P' : Pr) : Led → Led → Prop
 | head {r} : Up a P P' ((a, P) :: r) ((a, P') :: r)
 | tail {p r r'} : Up a P P' r r' → Up a P P' (p :: r) (p :: r')
inductive Pq (x : Str) (v : Value) : List (Str × Value) → List (Str × Value) → Prop
 | head {w r} : Pq x v ((x, w) :: r) ((x, v) :: r)
 | tail {p r r'} : Pq x v r r' → Pq x v (p :: r) (p :: r')
inductive Pt (x : Str) (v : Value) : List (Str × Value) → List (Str × Value) → Prop
 | old {l l'} : Pq x v l l' → Pt x v l l'
 | new {l} : (l.map (·.1)).contains x = false → Pt x v l ((x, v) :: l)
theorem Up.mem {a P P' K K'} (u : Up a P P' K K') : (a, P) ∈ K := by
 induction u with
 | head => exact .head _
 | tail _ ih => exact .tail _ ih
theorem Up.mem' {a P P' K K'} (u : Up a P P' K K') : (a, P') ∈ K' := by
 induction u with
 | head => exact .head _
 | tail _ ih => exact .tail _ ih
theorem Up.keys {a P P' K K'} (u : Up a P P' K K') : K'.map (·.1) = K.map (·.1) := by
 induction u with
 | head => rfl
 | tail _ ih => simp [ih]
theorem Up.split {a P P' K K'} (u : Up a P P' K K') : ∃ r s, K = r ++ (a, P) :: s ∧ K' = r ++ (a, P') :: s := by
 induction u with
 | head => exact ⟨[], _, rfl, rfl⟩
 | @tail p _ _ _ ih => (revert ih; intro zh; refine xEEA zh fun r s e e' => ?_; clear zh); exact ⟨p :: r, s, by rw [e]; rfl, by rw [e']; rfl⟩
section
variable {h₀ h h' : Heap} {K K' : Led} {a : Addr} {P P' : Pr}
theorem St.get (S : St h₀ K h) (m : (a, P) ∈ K) : ∃ o, h.get? a = some o ∧ P o := S.ent _ m
theorem St.lt (S : St h₀ K h) (m : (a, P) ∈ K) : a < h.objs.size := by refine xEA (S.ent _ m) fun zu0 e zu2 => ?_; exact Heap.lt_size e
theorem St.ext (S : St h₀ K h) (k : ∀ b o, h.get? b = some o → h'.get? b = some o) : St h₀ K h' :=
 ⟨fun b o e => k _ _ (S.keep b o e), fun p hp => by refine xEA (S.ent p hp) fun o e x => ?_; exact ⟨o, k _ _ e, x⟩, S.new, S.nd⟩
theorem St.sub (S : St h₀ K h) (s : K'.Sublist K) : St h₀ K' h :=
 ⟨S.keep, fun p hp => S.ent p (s.mem hp), fun p hp => S.new p (s.mem hp), S.nd.sublist (s.map _)⟩
theorem St.perm (S : St h₀ K h) (s : K'.Perm K) : St h₀ K' h :=
 ⟨S.keep, fun p hp => S.ent p (s.mem_iff.mp hp), fun p hp => S.new p (s.mem_iff.mp hp), (s.map _).nodup_iff.mpr S.nd⟩
theorem St.none_of_lt (S : St h₀ K h) (hl : h.objs.size ≤ a) : h₀.get? a = none := by
 cases e : h₀.get? a with
 | none => rfl
 | some o => exact absurd (Heap.lt_size (S.keep a o e)) (Nat.not_lt.mpr hl)
theorem St.add (S : St h₀ K h) {o : Obj} (e : h.get? a = some o) (x : P o) (n : h₀.get? a = none) (hk : ∀ p ∈ K, p.1 ≠ a) : St h₀ ((a, P) :: K) h :=
 ⟨S.keep, fun p hp => by rcases List.mem_cons.mp hp with rfl | hp; exact ⟨o, e, x⟩; exact S.ent p hp,
  fun p hp => by rcases List.mem_cons.mp hp with rfl | hp; exact n; exact S.new p hp,
  by rw [List.map_cons, List.nodup_cons]; exact ⟨fun hm => by refine xEA (List.mem_map.mp hm) fun p hp e' => ?_; exact hk p hp e', S.nd⟩⟩
theorem St.push (S : St h₀ K h) {o : Obj} (x : P o) (hf : o.isFreed = false) : St h₀ ((h.objs.size, P) :: K) (h.push o) :=
 (S.ext fun b o' e => Heap.get?_push_of_some _ e).add (Heap.get?_push_size _ hf) x (S.none_of_lt (Nat.le_refl _)) fun p hp e => by
  have := S.lt (a := p.1) (P := p.2) hp
  rw [e] at this; exact Nat.lt_irrefl _ this
theorem St.upd (S : St h₀ K h) (u : Up a P P' K K') (hs : Heap.ExtBut a h h') {o : Obj} (e : h'.get? a = some o) (x : P' o) : St h₀ K' h' := by
 have na : h₀.get? a = none := S.new _ u.mem
 refine ⟨fun b o e => hs b o (fun q => ?_) (S.keep b o e), ?_, fun p hp => ?_, by rw [u.keys]; exact S.nd⟩
 ·rw [q, na] at e; cases e
 ·(refine xEEA (u.split) fun r s zq2 zq3 => ?_; subst zq2; subst zq3)
  intro p hp
  have nd := S.nd
  rw [List.map_append, List.map_cons] at nd
  have off : ∀ p, p ∈ r ∨ p ∈ s → p.1 ≠ a := by
   intro p hp q
   have nd' := List.nodup_append.mp nd
   rcases hp with hp | hp
   ·exact nd'.2.2 p.1 (List.mem_map_of_mem hp) a (.head _) q
   ·refine (List.nodup_cons.mp nd'.2.1).1 ?_
    (refine (q) ▸ ?_); exact List.mem_map.mpr ⟨p, hp, rfl⟩
  rcases List.mem_append.mp hp with hp | hp
  ·refine xEA (S.ent p (List.mem_append_left _ hp)) fun o' e' x' => ?_
   exact ⟨o', hs _ _ (off p (.inl hp)) e', x'⟩
  ·rcases List.mem_cons.mp hp with rfl | hp
   ·exact ⟨o, e, x⟩
   ·refine xEA (S.ent p (List.mem_append_right _ (.tail _ hp))) fun o' e' x' => ?_
    exact ⟨o', hs _ _ (off p (.inr hp)) e', x'⟩
 ·have : p.1 ∈ K'.map (·.1) := List.mem_map_of_mem hp
  rw [u.keys] at this
  refine xEA (List.mem_map.mp this) fun q hq e' => ?_
  (refine (e') ▸ ?_); exact S.new q hq
theorem St.weak (S : St h₀ K h) (u : Up a P P' K K') (x : ∀ o, P o → P' o) : St h₀ K' h := by
 refine xEA (S.get u.mem) fun o e p => ?_
 exact S.upd u (Heap.ExtBut.refl _ _) e (x _ p)
end
section
variable {h₀ h : Heap} {K : Led} {a l : Addr} {vs : List Value} {v : Option Value} {i : Nat} {b : List (Str × Value)}
theorem St.isList (S : St h₀ K h) (m : (a, lsP vs) ∈ K) : h.IsList a vs.toArray := by refine xEAE (S.get m) fun o e n q => ?_; exact ⟨o, e, by rw [q], n, by rw [q]⟩
theorem St.isTup (S : St h₀ K h) (m : (a, tpP vs) ∈ K) : IsTup h a vs.toArray := by refine xEAE (S.get m) fun o e n q => ?_; exact ⟨o, e, by rw [q], n, by rw [q]⟩
theorem St.isCell (S : St h₀ K h) (m : (a, cellP v) ∈ K) : h.IsCell a v := by refine xEA (S.get m) fun o e d => ?_; exact ⟨o, e, d⟩
theorem St.isIter (S : St h₀ K h) (m : (a, itP l i) ∈ K) : h.IsListIter a l i := by refine xEAA (S.get m) fun o e c d => ?_; exact ⟨o, e, c, d⟩
theorem St.ns (S : St h₀ K h) (m : (a, nsP b) ∈ K) : ∃ f, h.Ns a f ∧ (∀ p ∈ b, f p.1 = some p.2) ∧ (b.map (·.1)).Nodup :=
 by obtain ⟨o, e, es, ep, f, d, k, hf, hb, nd⟩ := S.get m; exact ⟨f, ⟨o, es, ep, e, d, k, hf⟩, hb, nd⟩
theorem nsP_of {f : Str → Option Value} (n : h.Ns a f) (hb : ∀ p ∈ b, f p.1 = some p.2) (nd : (b.map (·.1)).Nodup) : ∃ o, h.get? a = some o ∧ nsP b o :=
 by (revert n; intro zh; refine xEEEAAA zh fun o es ep e d k hf => ?_; clear zh); exact ⟨o, e, es, ep, f, d, k, hf, hb, nd⟩
end
theorem Pq.keys {x : Str} {v : Value} {b b' : List (Str × Value)} (p : Pq x v b b') : b'.map (·.1) = b.map (·.1) ∧ x ∈ b.map (·.1) := by
 induction p with
 | head => exact ⟨rfl, by simp⟩
 | tail _ ih => exact ⟨by simp [ih.1], by rw [List.map_cons]; exact .tail _ ih.2⟩
theorem Pq.upd {x : Str} {v : Value} {b b' : List (Str × Value)} (p : Pq x v b b') : (b.map (·.1)).Nodup → ∀ q ∈ b', q = (x, v) ∨ (q ∈ b ∧ q.1 ≠ x) := by
 induction p with
 | @head w r =>
  intro nd q hq
  rw [List.map_cons, List.nodup_cons] at nd
  rcases List.mem_cons.mp hq with rfl | hq
  ·exact .inl rfl
  ·exact .inr ⟨.tail _ hq, fun e => nd.1 (by (refine (e) ▸ ?_); exact List.mem_map.mpr ⟨q, hq, rfl⟩)⟩
 | @tail p r r' t ih =>
  intro nd q hq
  rw [List.map_cons, List.nodup_cons] at nd
  rcases List.mem_cons.mp hq with rfl | hq
  ·exact .inr ⟨.head _, fun e => nd.1 (e ▸ t.keys.2)⟩
  ·exact (ih nd.2 q hq).imp id fun z => ⟨.tail _ z.1, z.2⟩
theorem Pt.upd {x : Str} {v : Value} {b b' : List (Str × Value)} (p : Pt x v b b') (nd : (b.map (·.1)).Nodup) : (b'.map (·.1)).Nodup ∧ ∀ q ∈ b', q = (x, v) ∨ (q ∈ b ∧ q.1 ≠ x) := by
 cases p with
 | old t => exact ⟨t.keys.1 ▸ nd, t.upd nd⟩
 | new hn =>
  have hn' : x ∉ b.map (·.1) := by simpa using hn
  refine ⟨by rw [List.map_cons, List.nodup_cons]; exact ⟨hn', nd⟩, fun q hq => ?_⟩
  rcases List.mem_cons.mp hq with rfl | hq
  ·exact .inl rfl
  ·exact .inr ⟨hq, fun e => hn' (by rw [← e]; exact List.mem_map.mpr ⟨q, hq, rfl⟩)⟩
section
variable {M : Model} {A : Around} {E : Value → Shared → Prop} {env : Env} {h₀ h : Heap} {g : Array GenState} {d : Drawn} {t : Nat} {os : OsState} {K K' : Led} {x : Str} {pos : Pos} {v : Value} {b b' : List (Str × Value)} {c : Addr} {v₀ : Option Value}
theorem name_L {L : Addr} {Q : Value → Shared → Prop} (S : St h₀ K h) (hL : env.locals = L) (m : (L, nsP b) ∈ K) (hb : (x, v) ∈ b) (q : Q v ⟨h, g, d, t, os⟩)
  (hk : env.scope.kind = .function := by rfl) (hx : env.kindOf x = some .local := by rfl) (hd : (x == ("__debug__" : Str)) = false := by decide) :
  wpAny M A (eval (.Name x pos) env) Q E ⟨h, g, d, t, os⟩ := by
 subst hL
 exact by refine xEAA (S.ns m) fun zu0 n hf zu3 => ?_; exact
 wpAny_Name (wpAny_loadName_local hk hx n (hf _ hb) q) hd
theorem name_C {Q : Value → Shared → Prop} (S : St h₀ K h) (hc : env.cells.lookup x = some c) (m : (c, cellP (some v)) ∈ K) (q : Q v ⟨h, g, d, t, os⟩)
  (hk : env.scope.kind = .function := by rfl) (hx : env.kindOf x = some .cell := by rfl) (hd : (x == ("__debug__" : Str)) = false := by decide) :
  wpAny M A (eval (.Name x pos) env) Q E ⟨h, g, d, t, os⟩ :=
 wpAny_Name (wpAny_loadName_cell hk hx hc (S.isCell m) q) hd
theorem name_F {Q : Value → Shared → Prop} (S : St h₀ K h) (hc : env.cells.lookup x = some c) (m : (c, cellP (some v)) ∈ K) (q : Q v ⟨h, g, d, t, os⟩)
  (hk : env.scope.kind = .function := by rfl) (hx : env.kindOf x = some .free := by rfl) (hd : (x == ("__debug__" : Str)) = false := by decide) (hn : (x == ("__classdict__" : Str)) = false := by decide) :
  wpAny M A (eval (.Name x pos) env) Q E ⟨h, g, d, t, os⟩ :=
 wpAny_Name (wpAny_loadName_free hk hx hc (S.isCell m) q hn) hd
theorem store_L {L : Addr} {Q : Unit → Shared → Prop} (S : St h₀ K h) (hL : env.locals = L) (u : Up L (nsP b) (nsP b') K K') (p : Pt x v b b') (q : ∀ h', St h₀ K' h' → Q () ⟨h', g, d, t + 1, os⟩)
  (hx : env.kindOf x = some .local := by rfl) (hp : (env.scope.kind == .class || (env.scope.kind == .module && env.locals != env.globals)) = false := by rfl) :
  wpAny M A (storeName env x v) Q E ⟨h, g, d, t, os⟩ := by
 subst hL
 refine xEAA (S.ns u.mem) fun f n hf nd => ?_
 refine wpAny_storeName_local hx n (fun h' n' hs => q h' ?_) hp
 obtain ⟨nd', hb⟩ := p.upd nd
 refine xEA (nsP_of n' (b := b') (fun p hp => by
  rcases hb p hp with rfl | ⟨hp, hne⟩
  ·simp
  ·rw [if_neg hne]; exact hf p hp) nd') fun o e x' => ?_
 exact S.upd u hs.extBut e x'
theorem store_C {Q : Unit → Shared → Prop} (S : St h₀ K h) (hc : env.cells.lookup x = some c) (u : Up c (cellP v₀) (cellP (some v)) K K') (q : ∀ h', St h₀ K' h' → Q () ⟨h', g, d, t, os⟩)
  (hk : env.scope.kind = .function := by rfl) (hx : env.kindOf x = some .cell := by rfl) :
  wpAny M A (storeName env x v) Q E ⟨h, g, d, t, os⟩ := by
 refine wpAny_storeName_cell hk hx hc (S.isCell u.mem) fun h' hc' hs => q h' ?_
 (revert hc'; intro zh; refine xEA zh fun o e x' => ?_; clear zh)
 exact S.upd u hs.extBut e x'
theorem asg_L {L : Addr} {Q : Unit → Shared → Prop} (S : St h₀ K h) (hL : env.locals = L) (u : Up L (nsP b) (nsP b') K K') (p : Pt x v b b') (q : ∀ h', St h₀ K' h' → Q () ⟨h', g, d, t + 1, os⟩)
  (hx : env.kindOf x = some .local := by rfl) (hp : (env.scope.kind == .class || (env.scope.kind == .module && env.locals != env.globals)) = false := by rfl) :
  wpAny M A (assign (.Name x pos) env v) Q E ⟨h, g, d, t, os⟩ := wpAny_assign_Name (store_L S hL u p q hx hp)
end
end
section
theorem szS {n : Nat} (h : n ≤ 4096) : n ≤ sizeLine := Nat.le_trans h (by decide)
section
variable {M : Model} {A : Around} {E : Value → Shared → Prop} {env : Env} {h₀ h : Heap} {g : Array GenState} {d : Drawn} {t : Nat} {os : OsState} {K K' : Led} {x : Str} {pos : Pos} {v : Value} {l : Addr} {vs : List Value}
theorem c_int {i : Int} {k : Nat} {Q : Value → Shared → Prop} (q : Q (.int i t) ⟨h, g, d, t + 1, os⟩) : wpAny M A (eval (.Constant (.int i) k pos) env) Q E ⟨h, g, d, t, os⟩ := fun _ _ _ => q
theorem c_str {i : Str} {k : Nat} {Q : Value → Shared → Prop} (q : Q (.str i t) ⟨h, g, d, t + 1, os⟩) : wpAny M A (eval (.Constant (.str i) k pos) env) Q E ⟨h, g, d, t, os⟩ := fun _ _ _ => q
theorem c_bool {i : Bool} {k : Nat} {Q : Value → Shared → Prop} (q : Q (.bool i) ⟨h, g, d, t, os⟩) : wpAny M A (eval (.Constant (.bool i) k pos) env) Q E ⟨h, g, d, t, os⟩ := fun _ _ _ => q
theorem c_none {k : Nat} {Q : Value → Shared → Prop} (q : Q .none ⟨h, g, d, t, os⟩) : wpAny M A (eval (.Constant .none k pos) env) Q E ⟨h, g, d, t, os⟩ := fun _ _ _ => q
theorem n_list {Q : Value → Shared → Prop} (S : St h₀ K h) (q : ∀ l h', St h₀ ((l, lsP vs) :: K) h' → Q (.ref l) ⟨h', g, d, t, os⟩) (hsz : vs.length ≤ sizeLine := by exact szS (Nat.le_of_ble_eq_true rfl)) : wpAny M A (newList vs) Q E ⟨h, g, d, t, os⟩ :=
 wpAny_newObj_type (q _ _ (S.push ⟨0, rfl⟩ rfl)) (by show vs.toArray.size ≤ sizeLine; rw [List.size_toArray]; exact hsz)
theorem n_tup {Q : Value → Shared → Prop} (S : St h₀ K h) (q : ∀ l h', St h₀ ((l, tpP vs) :: K) h' → Q (.ref l) ⟨h', g, d, t, os⟩) (hsz : vs.length ≤ sizeLine := by exact szS (Nat.le_of_ble_eq_true rfl)) : wpAny M A (newTuple vs) Q E ⟨h, g, d, t, os⟩ :=
 wpAny_newObj_type (q _ _ (S.push ⟨0, rfl⟩ rfl)) (by show vs.toArray.size ≤ sizeLine; rw [List.size_toArray]; exact hsz)
theorem ea_any {f : Value} : ∀ {args : List (Bool × Sem Value)} {Q : Args → Shared → Prop} {s : Shared}, args.any (·.1) = false →
  wpAny M A (spliced args) (fun vs s' => Q ⟨vs, []⟩ s') E s → wpAny M A (evalArgs f true args []) Q E s
 | [], Q, s, _, hh => by
  unfold evalArgs
  show wpAny M A (spliced [] >>= _) Q E s
  refine wpAny_bind (wpAny_mono hh (fun vs s' h' => ?_) fun _ _ x => x)
  refine wpAny_holding ?_
  exact wpAny_bind (wpAny_pure (wpAny_bind (wpAny_pure (wpAny_pure h'))))
 | (false, x) :: r, Q, s, _, hh => evalArgs_plain hh
 | (true, x) :: r, _, _, e, _ => by simp at e
theorem cw_B {id : String} {first : List Value} {args : List (Bool × Sem Value)} {Q : Value → Shared → Prop} {s : Shared}
  (hh : wpAny M A (spliced args) (fun vs s' => wpAny M A (call (.builtin id) (first ++ vs) []) Q E s') E s) (hp : args.any (·.1) = false := by rfl) :
  wpAny M A (callWith pos (.builtin id) first args []) Q E s := callWith_builtin hp (ea_any hp hh)
theorem cw_D {f : Addr} {o : Obj} {fd : FuncData} {first : List Value} {args : List (Bool × Sem Value)} {Q : Value → Shared → Prop} {s : Shared}
  (hh : wpAny M A (spliced args) (fun vs s' => (s'.heap.get? f = some o ∧ o.data = .func fd) ∧ wpAny M A (call (.ref f) (first ++ vs) []) Q E s') E s) (hp : args.any (·.1) = false := by rfl) :
  wpAny M A (callWith pos (.ref f) first args []) Q E s := callWith_function (ea_any hp hh)
end
section
variable {prog : Program} {w : World} {A : Around} {E : Value → Shared → Prop} {env : Env} {h₀ h : Heap} {g : Array GenState} {d : Drawn} {t : Nat} {os : OsState} {K K' : Led} {x : Str} {pos : Pos} {v : Value} {l : Addr} {vs : List Value} {a b : Int} {ta tb : Tok}
theorem add_ii {Q : Value → Shared → Prop} (q : Q (.int (a + b) t) ⟨h, g, d, t + 1, os⟩) : wpAny (model prog w) A (binaryOp .Add (.int a ta) (.int b tb)) Q E ⟨h, g, d, t, os⟩ := add_int q
theorem sub_ii {Q : Value → Shared → Prop} (q : Q (.int (a - b) t) ⟨h, g, d, t + 1, os⟩) : wpAny (model prog w) A (binaryOp .Sub (.int a ta) (.int b tb)) Q E ⟨h, g, d, t, os⟩ := sub_int q
theorem mod_ii {Q : Value → Shared → Prop} (q : Q (.int (a.fmod b) t) ⟨h, g, d, t + 1, os⟩) (hb : b ≠ 0 := by decide) : wpAny (model prog w) A (binaryOp .Mod (.int a ta) (.int b tb)) Q E ⟨h, g, d, t, os⟩ := mod_int' hb q
theorem lt_ii {Q : Value → Shared → Prop} (q : Q (.bool (decide (a < b))) ⟨h, g, d, t, os⟩) : wpAny (model prog w) A (compareOp .Lt (.int a ta) (.int b tb)) Q E ⟨h, g, d, t, os⟩ := lt_int q
theorem ge_ii {Q : Value → Shared → Prop} (q : Q (.bool (decide (a ≥ b))) ⟨h, g, d, t, os⟩) : wpAny (model prog w) A (compareOp .GtE (.int a ta) (.int b tb)) Q E ⟨h, g, d, t, os⟩ := ge_int q
theorem eq_ii {Q : Value → Shared → Prop} (q : Q (.bool (a == b)) ⟨h, g, d, t, os⟩) : wpAny (model prog w) A (compareOp .Eq (.int a ta) (.int b tb)) Q E ⟨h, g, d, t, os⟩ := eq_int q
theorem in_ss {x y : Str} {Q : Value → Shared → Prop} (q : Q (.bool !(Builtin.Str.occurrences x y 0 x.length 1).isEmpty) ⟨h, g, d, t, os⟩) : wpAny (model prog w) A (compareOp .In (.str y ta) (.str x tb)) Q E ⟨h, g, d, t, os⟩ := in_str q
theorem tr_b {M : Model} {b : Bool} {Q : Bool → Shared → Prop} {s : Shared} (q : Q b s) : wpAny M A (truthy (.bool b)) Q E s := wpAny_truthy_bool q
theorem ls_append {Q : Value → Shared → Prop} (S : St h₀ K h) (u : Up l (lsP vs) (lsP (vs ++ [v])) K K') (q : ∀ h', St h₀ K' h' → Q .none ⟨h', g, d, t, os⟩) (hsz : vs.length ≤ sizeLine) :
  wpAny (model prog w) A (call (.builtin "list.append") [.ref l, v] []) Q E ⟨h, g, d, t, os⟩ := by
 (refine xEAE (S.get u.mem) fun o e n zq3 => ?_; subst zq3)
 refine append_at (hsz := by rw [List.size_toArray]; exact hsz) e fun h' hs e' => q h' ?_
 exact S.upd u hs.extBut e' ⟨n + 1, by simp⟩
theorem ls_item {value slice : PySem.Expr} {k : Int} {u : Tok} {Q : Value → Shared → Prop} (S : St h₀ K h) (m : (l, lsP vs) ∈ K) (h0 : 0 ≤ k) (hhi : k < 2 ^ 63) (hx : vs[k.toNat]? = some v) (q : Q v ⟨h, g, d, t, os⟩)
  (hs : subscripted slice false (.ref l) (.int k u) = operate [.ref l, .int k u] (getItem (.ref l) (.int k u)) := by with_unfolding_all rfl) :
  wpAny (model prog w) A (subscriptTail value slice (.ref l) (.int k u)) Q E ⟨h, g, d, t, os⟩ := item_litK (S.isList m) h0 hhi hx q hs
theorem ls_len {Q : Value → Shared → Prop} (S : St h₀ K h) (m : (l, lsP vs) ∈ K) (q : Q (.int vs.length (t + 1)) ⟨h, g, d, t + 1 + 1, os⟩) (hfit : vs.length < 2 ^ 62) :
  wpAny (model prog w) A (call (.builtin "len") [.ref l] []) Q E ⟨h, g, d, t, os⟩ :=
 call_len_list (S.isList m) (by rw [List.size_toArray]; lia) (by rw [List.size_toArray]; exact q)
theorem lookup_nodup : ∀ {l : List (Str × Value)}, (l.map (·.1)).Nodup → ∀ p ∈ l, l.reverse.lookup p.1 = some p.2 := by
 intro l nd p hp
 have nd' : (l.reverse.map (·.1)).Nodup := by rw [List.map_reverse]; exact List.pairwise_reverse.mpr (nd.imp fun h => Ne.symm h)
 have hp' : p ∈ l.reverse := List.mem_reverse.mpr hp
 generalize l.reverse = r at nd' hp'
 induction r with
 | nil => cases hp'
 | cons q r ih =>
  rw [List.map_cons, List.nodup_cons] at nd'
  rw [List.lookup_cons]
  rcases List.mem_cons.mp hp' with rfl | hm
  ·simp
  ·have : (p.1 == q.1) = false := beq_eq_false_iff_ne.mpr fun e => nd'.1 (by rw [← e]; exact List.mem_map.mpr ⟨p, hm, rfl⟩)
   rw [this]; exact ih nd'.2 hm
theorem St.noLimit (S : St h₀ K h) (x : h₀.NoLimit) : h.NoLimit := x.keeps S.keep
noncomputable abbrev retV : Flow → Value
 | .ret v => v
 | _ => .none
theorem call_D {R : Result → Shared → Prop} {f : Addr} {fo : Obj} {fd : FuncData} {body : List Stmt} {args : Args} {binds : List (Str × Value)} (S : St h₀ K h) (lim : h₀.NoLimit)
  (hroom : A.depth < recursionLimit) (ho : h.get? f = some fo) (hdata : fo.data = .func fd) (hcd : h.CodeRec fd.code fd.qualname) (hbody : fd.body = .stmts body) (hbind : ∀ t, BindsTo ⟨h, g, d, t, os⟩ fd args binds)
  (k : ∀ L h₁, St h₀ ((L, nsP binds) :: K) h₁ → (∀ p ∈ K, p.1 < L) → wpAny (model prog w) (A.deeper (callEnv fd L f)) (execs body (callEnv fd L f)) (fun fl s' => R (.ok (.ret (retV fl))) s')
    (fun e s' => wpAny (model prog w) (A.deeper (callEnv fd L f)) (leaving (callEnv fd L f) e) (fun _ s'' => R (.error e) s'') (fun e' s'' => R (.error e') s'') s') ⟨h₁, g, d, t + binds.length, os⟩)
  (hcell : ∀ x ∈ fd.scope.names, x.2 ≠ .cell := by decide) (hloc : ∀ x ∈ binds, fd.scope.names.lookup x.1 = some .local := by exact locs rfl) (hnd : (binds.map (·.1)).Nodup := by decide)
  (hco : fd.scope.isCoroutine = false := by rfl) (hgen : fd.scope.isGenerator = false := by rfl) (hk : fd.scope.kind = .function := by rfl) :
  codeAny (model prog w) A (.call (.ref f) args) R ⟨h, g, d, t, os⟩ := by
 refine codeAny_call_def hroom ho hdata (S.noLimit lim) hcd hbody (hbind t) hcell hloc (fun h₁ hns hk₁ => ?_) hco hgen hk
 refine wpAny_mono (k _ h₁ ?_ fun p hp => S.lt (P := p.2) hp) (fun fl s' r => ?_) fun _ _ e => e
 ·refine xEA (nsP_of hns (b := binds) (fun p hp => lookup_nodup hnd p hp) hnd) fun o e x => ?_
  exact (S.ext hk₁).add e x (S.none_of_lt (Nat.le_refl _)) fun p hp q => Nat.lt_irrefl _ (by have := S.lt (a := p.1) (P := p.2) hp; rw [q] at this; exact this)
 ·cases fl <;> exact r
end
end
section
section
variable {prog : Program} {w : World} {A : Around} {env : Env}
theorem forLoop_T {R : Result → Shared → Prop} {target it body orelse} (I : Nat → Shared → Prop)
  (turn : ∀ n s, I n s → wpAny (model prog w) A (pyNext it) (fun r s₁ => match r with
   | none => wpAny (model prog w) A (execs orelse env) (fun f s₃ => R (.ok f) s₃) (notedBy (model prog w) A env fun e s' => R (.error e) s') s₁
   | some v => wpAny (model prog w) A (letOwnedTupleGo target it v) (fun _ s₁ => wpAny (model prog w) A (assign target env v) (fun _ s₂ => wpAny (model prog w) A (execs body env) (fun f s₃ => match f with
     | .next | .cont => ∃ m, m < n ∧ I m s₃
     | .brk => R (.ok .next) s₃
     | .ret v => R (.ok (.ret v)) s₃) (notedBy (model prog w) A env fun e s' => R (.error e) s') s₂) (notedBy (model prog w) A env fun e s' => R (.error e) s') s₁) (notedBy (model prog w) A env fun e s' => R (.error e) s') s₁) (notedBy (model prog w) A env fun e s' => R (.error e) s') s)
  (n : Nat) {s : Shared} (h : I n s) : codeAny (model prog w) A (.forLoop target it body orelse env) R s := by
 refine codeAny_loop' rfl I (fun n s hI => ?_) n h
 show wpAny _ _ ((forTurn target it body orelse env).onRaise (fun x => do noteFrame x env; theTreesLotGoes x)) _ _ s
 refine wpAny_noted ?_
 simp only [forTurn]
 refine wpAny_bind (wpAny_standAt (wpAny_bind (wpAny_onRaise (wpAny_mono (turn n s hI) (fun r s₁ h₁ => ?_) fun _ _ h' => wpAny_standAt h'))))
 cases r with
 | none => exact wpAny_pure (.inr ⟨rfl, codeAny_block h₁⟩)
 | some v =>
  refine wpAny_bind (wpAny_mono h₁ (fun _ s₁ h₁ => ?_) fun _ _ h' => h')
  refine wpAny_bind (wpAny_mono h₁ (fun _ s₂ h₂ => wpAny_bind (wpAny_mono h₂ (fun f s₃ h₃ => ?_) fun _ _ h' => h')) fun _ _ h' => h')
  cases f with
  | next => exact wpAny_pure (.inl ⟨rfl, h₃⟩)
  | cont => exact wpAny_pure (.inl ⟨rfl, h₃⟩)
  | brk => exact wpAny_pure h₃
  | ret v => exact wpAny_pure h₃
variable {h₀ h : Heap} {g : Array GenState} {d : Drawn} {t : Nat} {os : OsState} {K : Led}
theorem letOwned_list {E : Value → Shared → Prop} {l it : Addr} {i : Nat} {target : PySem.Expr} {v : Value} {Q : Unit → Shared → Prop} (hi : h.IsListIter it l i) (q : Q () ⟨h, g, d, t, os⟩) :
  wpAny (model prog w) A (letOwnedTupleGo target (.ref it) v) Q E ⟨h, g, d, t, os⟩ := by
 (revert hi; intro zh; refine xEAA zh fun o e c dd => ?_; clear zh)
 have main : wpAny (model prog w) A (do
   let (.ref r, .ref a) := ((Value.ref it), v) | return
   let o ← load r
   match o.cls, o.data with
   | .type n, .fields vs =>
    if ["enumerate", "zip", "dict_itemiterator", "dict_reverseitemiterator", "odict_iterator", "itertools.zip_longest", "itertools.pairwise"].contains n && vs[0]? == some (rawInt a) then
     rule "for.unpacks-the-owned-tuple"
     updateField r 0 .none
   | _, _ => pure ()) Q E ⟨h, g, d, t, os⟩ := by
  cases v with
  | ref a =>
   show wpAny _ _ (load it >>= _) _ _ _
   refine wpAny_bind (wpAny_load e ?_)
   (refine (Eq.symm (c)) ▸ ?_; refine (Eq.symm (dd)) ▸ ?_)
   exact wpAny_pure q
  | _ => exact wpAny_pure q
 unfold letOwnedTupleGo
 split
 ·exact main
 ·exact main
 ·exact wpAny_pure q
noncomputable def LoopP (I : Nat → Led → Prop) (h₀ : Heap) (g : Array GenState) (d : Drawn) (os : OsState) (Q : Flow → Shared → Prop) (it l : Addr) (i : Nat) (f : Flow) (s : Shared) : Prop := match f with
 | .ret v => Q (.ret v) s
 | .brk => Q .next s
 | _ => ∃ K h t, s = ⟨h, g, d, t, os⟩ ∧ I i K ∧ St h₀ ((it, itP l i) :: K) h
theorem LoopP.next {I : Nat → Led → Prop} {Q : Flow → Shared → Prop} {it l : Addr} {i : Nat} (hI : I i K) (S : St h₀ ((it, itP l i) :: K) h) : LoopP I h₀ g d os Q it l i .next ⟨h, g, d, t, os⟩ := ⟨K, h, t, rfl, hI, S⟩
theorem For_ {E : Value → Shared → Prop} {target iter body pos} {Q : Flow → Shared → Prop} {s : Shared}
  (hh : wpAny (model prog w) A (eval iter env) (fun x s₁ => wpAny (model prog w) A (pyIter x) (fun it s₂ =>
   codeAny (model prog w) A (.forLoop target it body [] env) (fun r s' => match r with | .ok f => Q f s' | .error e => cameBackBy (model prog w) A env E e s') s₂) E s₁) E s)
  (hs : ∀ x, foldedSetIterable iter env x = pure x := by intro _; rfl) : wpAny (model prog w) A (exec (.For target iter body [] pos) env) Q E s := wpAny_For hh hs
end
end
section
structure Src (prog : Program) (w : World) (A : Around) (g : Array GenState) (d : Drawn) (os : OsState) (h₀ : Heap) (it : Addr) (n : Nat) (val : Nat → Value → Prop) (sP : Nat → Pr) (ok : Led → Prop) : Prop where
 item : ∀ {i K h t} {Q : Option Value → Shared → Prop} {E : Value → Shared → Prop}, i < n → ok K → St h₀ ((it, sP i) :: K) h → (∀ v h' t', val i v → St h₀ ((it, sP (i + 1)) :: K) h' → Q (some v) ⟨h', g, d, t', os⟩) →
  wpAny (model prog w) A (pyNext (.ref it)) Q E ⟨h, g, d, t, os⟩
 stop : ∀ {K h t} {Q : Option Value → Shared → Prop} {E : Value → Shared → Prop}, ok K → St h₀ ((it, sP n) :: K) h → (∀ h' t', St h₀ K h' → Q none ⟨h', g, d, t', os⟩) →
  wpAny (model prog w) A (pyNext (.ref it)) Q E ⟨h, g, d, t, os⟩
 self : ∀ {i K h t} {Q : Value → Shared → Prop} {E : Value → Shared → Prop}, St h₀ ((it, sP i) :: K) h → Q (.ref it) ⟨h, g, d, t, os⟩ → wpAny (model prog w) A (pyIter (.ref it)) Q E ⟨h, g, d, t, os⟩
 own : ∀ {i K h t} {Q : Unit → Shared → Prop} {E : Value → Shared → Prop} {target : PySem.Expr} {v : Value}, St h₀ ((it, sP i) :: K) h → Q () ⟨h, g, d, t, os⟩ → wpAny (model prog w) A (letOwnedTupleGo target (.ref it) v) Q E ⟨h, g, d, t, os⟩
section
variable {prog : Program} {w : World} {A : Around} {env : Env} {h₀ h : Heap} {g : Array GenState} {d : Drawn} {t : Nat} {os : OsState} {K : Led} {it : Addr} {n : Nat} {val : Nat → Value → Prop} {sP : Nat → Pr} {ok : Led → Prop}
theorem St.dropHead {p} (S : St h₀ (p :: K) h) : St h₀ K h := S.sub (List.sublist_cons_self _ _)
theorem St.swap {p q} (S : St h₀ (p :: q :: K) h) : St h₀ (q :: p :: K) h := S.perm (List.Perm.swap ..)
theorem it_list {E : Value → Shared → Prop} {l : Addr} {vs : List Value} {Q : Value → Shared → Prop} (S : St h₀ K h) (hl : h.IsList l vs.toArray)
  (q : ∀ it h', St h₀ ((it, itP l 0) :: K) h' → Q (.ref it) ⟨h', g, d, t, os⟩) : wpAny (model prog w) A (pyIter (.ref l)) Q E ⟨h, g, d, t, os⟩ :=
 wpAny_pyIter_list hl (q _ _ (S.push (o := { cls := .type "list_iterator", data := .fields #[.ref l, .int 0 0] }) (P := itP l 0) ⟨rfl, rfl⟩ rfl))
theorem for_src {E : Value → Shared → Prop} {target body} {Q : Flow → Shared → Prop} (X : Src prog w A g d os h₀ it n val sP ok) (I : Nat → Led → Prop) (S : St h₀ ((it, sP 0) :: K) h) (i0 : I 0 K) (hok : ∀ i K, I i K → ok K)
  (turn : ∀ i v K h t, i < n → val i v → I i K → St h₀ ((it, sP (i + 1)) :: K) h →
   wpAny (model prog w) A (assign target env v) (fun _ s₂ => wpAny (model prog w) A (execs body env) (fun f s => match f with
    | .ret v => Q (.ret v) s
    | .brk => Q .next s
    | _ => ∃ K h t, s = ⟨h, g, d, t, os⟩ ∧ I (i + 1) K ∧ St h₀ ((it, sP (i + 1)) :: K) h) (notedBy (model prog w) A env fun e s' => cameBackBy (model prog w) A env E e s') s₂) (notedBy (model prog w) A env fun e s' => cameBackBy (model prog w) A env E e s') ⟨h, g, d, t, os⟩)
  (done : ∀ K h t, I n K → St h₀ K h → Q .next ⟨h, g, d, t, os⟩) :
  codeAny (model prog w) A (.forLoop target (.ref it) body [] env) (fun r s' => match r with | .ok f => Q f s' | .error e => cameBackBy (model prog w) A env E e s') ⟨h, g, d, t, os⟩ := by
 refine forLoop_T (fun k s' => ∃ i K h' t, s' = ⟨h', g, d, t, os⟩ ∧ I i K ∧ St h₀ ((it, sP i) :: K) h' ∧ i ≤ n ∧ k = n + 1 - i) ?_ (n + 1) ⟨0, K, _, t, rfl, i0, S, Nat.zero_le _, rfl⟩
 intro k s' zr; (revert zr; intro zh; refine xEEEEAAAA zh fun i K' h' t' zq4 hI S' hi zq8 => ?_; clear zh; subst zq4; subst zq8)
 by_cases hlt : i < n
 ·refine X.item hlt (hok _ _ hI) S' fun v h₁ t₁ hv S₁ => ?_
  refine X.own S₁ ?_
  refine wpAny_mono (turn i v K' h₁ t₁ hlt hv hI S₁) (fun _ s₂ h₂ => wpAny_mono h₂ (fun f s₃ h₃ => ?_) fun _ _ e => e) fun _ _ e => e
  cases f with
  | ret v => exact h₃
  | brk => exact h₃
  | next =>
   (revert h₃; intro zh; refine xEEEAA zh fun K₃ h₄ t₄ zq3 hI₃ S₃ => ?_; clear zh; subst zq3)
   exact ⟨n + 1 - (i + 1), by lia, i + 1, K₃, h₄, t₄, rfl, hI₃, S₃, hlt, rfl⟩
  | cont =>
   (revert h₃; intro zh; refine xEEEAA zh fun K₃ h₄ t₄ zq3 hI₃ S₃ => ?_; clear zh; subst zq3)
   exact ⟨n + 1 - (i + 1), by lia, i + 1, K₃, h₄, t₄, rfl, hI₃, S₃, hlt, rfl⟩
 ·have hin : i = n := by lia
  subst hin
  exact X.stop (hok _ _ hI) S' fun h₁ t₁ S₁ => wpAny_execs_nil (done K' h₁ t₁ hI S₁)
theorem compLoop_T {R : Result → Shared → Prop} {elt target iter : PySem.Expr} {ifs : List PySem.Expr} {scope : Scope} {pos : Pos} {it acc : Value} {env : Env} {s : Shared} (I : Nat → Shared → Prop)
  (turn : ∀ n s, I n s → wpAny (model prog w) A (pyNext it) (fun r s₁ => match r with
   | none => R (.ok .next) s₁
   | some v => wpAny (model prog w) A (letOwnedTupleGo target it v) (fun _ s₁ => wpAny (model prog w) A (assign target env v) (fun _ s₂ =>
     wpAny (model prog w) A (forIn ifs true fun c r => if r = true then do let ok ← isTrue c env (eval c env); pure (ForInStep.yield ok) else pure (ForInStep.yield r)) (fun ok s₃ =>
      if ok = true then wpAny (model prog w) A (eval elt env) (fun x s₄ =>
       wpAny (model prog w) A (call (.builtin "list.append") [acc, x]) (fun _ s₅ => ∃ m, m < n ∧ I m s₅) (notedBy (model prog w) A env fun e s' => R (.error e) s') s₄) (notedBy (model prog w) A env fun e s' => R (.error e) s') s₃
      else ∃ m, m < n ∧ I m s₃) (notedBy (model prog w) A env fun e s' => R (.error e) s') s₂) (notedBy (model prog w) A env fun e s' => R (.error e) s') s₁) (notedBy (model prog w) A env fun e s' => R (.error e) s') s₁) (notedBy (model prog w) A env fun e s' => R (.error e) s') s)
  (n : Nat) (h : I n s) :
  codeAny (model prog w) A (.compLoop (.ListComp elt [⟨target, iter, ifs, 0⟩] scope pos) 0 it acc env) R s := by
 refine codeAny_loop rfl I (fun n s hI => ?_) n h
 show wpAny _ A ((compTurn (.ListComp elt [⟨target, iter, ifs, 0⟩] scope pos) 0 it acc env).onRaise (fun x => do noteFrame x env; theTreesLotGoes x)) _ _ s
 refine wpAny_noted ?_
 rw [compTurn_list]
 refine wpAny_bind (wpAny_standAt (wpAny_bind (wpAny_mono (turn n s hI) (fun r s₁ h₁ => ?_) fun _ _ h' => h')))
 cases r with
 | none => exact wpAny_pure h₁
 | some v =>
  refine wpAny_bind (wpAny_mono h₁ (fun _ s₁ h₁ => ?_) fun _ _ h' => h')
  refine wpAny_bind (wpAny_mono h₁ (fun _ s₂ h₂ => wpAny_bind (wpAny_mono h₂ (fun ok s₃ h₃ => ?_) fun _ _ h' => h')) fun _ _ h' => h')
  cases ok with
  | false => exact wpAny_pure ⟨rfl, h₃⟩
  | true =>
   exact wpAny_bind (wpAny_bind (wpAny_mono h₃ (fun x s₄ h₄ => wpAny_bind (wpAny_mono h₄ (fun _ s₅ h₅ => wpAny_pure (wpAny_pure ⟨rfl, h₅⟩)) fun _ _ h' => h')) fun _ _ h' => h'))
noncomputable def CE (I : Nat → List Value → Led → Prop) (h₀ : Heap) (g : Array GenState) (d : Drawn) (os : OsState) (C D it : Addr) (P : Pr) (i : Nat) (old : List Value) (y : Value) (s : Shared) : Prop :=
 ∃ K h t b, s = ⟨h, g, d, t, os⟩ ∧ I i (old ++ [y]) K ∧ St h₀ ((C, nsP b) :: (D, lsP old) :: (it, P) :: K) h
theorem CE_in {I : Nat → List Value → Led → Prop} {h₀ : Heap} {g : Array GenState} {d : Drawn} {os : OsState} {C D it : Addr} {P : Pr} {i : Nat} {old : List Value} {y : Value} {s : Shared} (K : Led) (h : Heap) (t : Nat) (b : List (Str × Value)) (e : s = ⟨h, g, d, t, os⟩) (x : I i (old ++ [y]) K) (S : St h₀ ((C, nsP b) :: (D, lsP old) :: (it, P) :: K) h) : CE I h₀ g d os C D it P i old y s := ⟨K, h, t, b, e, x, S⟩
noncomputable def CN (I : Nat → List Value → Led → Prop) (h₀ : Heap) (g : Array GenState) (d : Drawn) (os : OsState) (C D it : Addr) (P : Pr) (i : Nat) (old : List Value) (s : Shared) : Prop :=
 ∃ K h t b, s = ⟨h, g, d, t, os⟩ ∧ I i old K ∧ St h₀ ((C, nsP b) :: (D, lsP old) :: (it, P) :: K) h
theorem CN_in {I : Nat → List Value → Led → Prop} {h₀ : Heap} {g : Array GenState} {d : Drawn} {os : OsState} {C D it : Addr} {P : Pr} {i : Nat} {old : List Value} {s : Shared} (K : Led) (h : Heap) (t : Nat) (b : List (Str × Value)) (e : s = ⟨h, g, d, t, os⟩) (x : I i old K) (S : St h₀ ((C, nsP b) :: (D, lsP old) :: (it, P) :: K) h) : CN I h₀ g d os C D it P i old s := ⟨K, h, t, b, e, x, S⟩
theorem nsP_nil {b : List (Str × Value)} : ∀ o, nsP b o → nsP [] o := fun o zr => by (refine xEEEAAAA zr fun es ep m a c e zu6 zu7 => ?_; clear zr); exact ⟨es, ep, m, a, c, e, (fun _ h => nomatch h), List.nodup_nil⟩
theorem comp_src {elt target iter : PySem.Expr} {ifs : List PySem.Expr} {scope : Scope} {cl : List (Str × Addr)} {pos : Pos} {use : Option (Value → Sem Unit)} {Q : Value → Shared → Prop} {E : Value → Shared → Prop}
  (hcell : ∀ y ∈ scope.names, y.2 ≠ .cell) (hkind : scope.kind = .function)
  (X : Src prog w A g d os h₀ it n val sP ok) (I : Nat → List Value → Led → Prop) (S : St h₀ ((it, sP 0) :: K) h) (i0 : I 0 [] K) (hok : ∀ i ys K, I i ys K → ok K)
  (hokC : ∀ K p q, ok K → ok (p :: q :: K)) (hsz : ∀ i ys K, I i ys K → ys.length ≤ sizeLine)
  (turn : ∀ i v ys K h t C D, i < n → val i v → I i ys K → St h₀ ((C, nsP []) :: (D, lsP ys) :: (it, sP (i + 1)) :: K) h → ∀ E' : Value → Shared → Prop,
   wpAny (model prog w) A (assign target (compEnvC scope cl C env) v) (fun _ s₂ =>
    wpAny (model prog w) A (forIn ifs true fun c r => if r = true then do let ok ← isTrue c (compEnvC scope cl C env) (eval c (compEnvC scope cl C env)); pure (ForInStep.yield ok) else pure (ForInStep.yield r)) (fun ok s₃ =>
      if ok = true then wpAny (model prog w) A (eval elt (compEnvC scope cl C env)) (CE I h₀ g d os C D it (sP (i + 1)) (i + 1) ys) E' s₃
      else CN I h₀ g d os C D it (sP (i + 1)) (i + 1) ys s₃) E' s₂) E' ⟨h, g, d, t, os⟩)
  (done : ∀ ys K h t C D, I n ys K → St h₀ ((C, nsP []) :: (D, lsP ys) :: K) h → match use with
   | none => Q (.ref D) ⟨h, g, d, t, os⟩
   | some u => wpAny (model prog w) A (u (.ref D)) (fun _ s => ∃ K' h' t', s = ⟨h', g, d, t', os⟩ ∧ St h₀ ((C, nsP []) :: K') h' ∧ ∀ h'', St h₀ K' h'' → Q .none ⟨h'', g, d, t', os⟩) E ⟨h, g, d, t, os⟩)
  (stab : use = none → ∀ ys K h t D, I n ys K → St h₀ ((D, lsP ys) :: K) h → Q (.ref D) ⟨h, g, d, t, os⟩) :
  wpAny (model prog w) A (newList []) (fun acc s₃ => wpAny (model prog w) A (newFunctionEnv scope env.globals cl [] env.qual none .none (some env)) (fun cenv s₄ =>
   codeAny (model prog w) A (.compStart (.ListComp elt [⟨target, iter, ifs, 0⟩] scope pos) 0 (.ref it) acc { cenv with scope := relabel scope env }) (compPost (model prog w) A E use Q acc cenv.locals) s₄) E s₃) E ⟨h, g, d, t, os⟩ := by
 refine n_list S fun D h₁ S₁ => wpAny_newFunctionEnv hcell (by intro y hy; simp at hy) (fun h₂ hns₂ hsb₂ => ?_) hkind
 dsimp only at hns₂ hsb₂ ⊢
 have S₂ : St h₀ ((h₁.objs.size, nsP []) :: (D, lsP []) :: (it, sP 0) :: K) h₂ := by
  have ext : ∀ b o, h₁.get? b = some o → h₂.get? b = some o := fun b o e => hsb₂.extBut b o (Nat.ne_of_lt (Heap.lt_size e)) (Heap.get?_push_of_some _ e)
  refine xEA (nsP_of hns₂ (b := []) (fun _ hp => nomatch hp) List.nodup_nil) fun o e x => ?_
  exact (S₁.ext ext).add e x (S₁.none_of_lt (Nat.le_refl _)) fun p hp q => Nat.lt_irrefl _ (by have := S₁.lt (a := p.1) (P := p.2) hp; rw [q] at this; exact this)
 generalize h₁.objs.size = C at *
 show codeAny _ _ (.compStart _ 0 (.ref it) (.ref D) (compEnvC scope cl C env)) (compPost (model prog w) A E use Q (.ref D) C) _
 have loop : codeAny (model prog w) A (.compLoop (.ListComp elt [⟨target, iter, ifs, 0⟩] scope pos) 0 (.ref it) (.ref D) (compEnvC scope cl C env)) (compPost (model prog w) A E use Q (.ref D) C) ⟨h₂, g, d, t + ([] : List (Str × Value)).length, os⟩ := by
  refine compLoop_T (fun k s' => ∃ i ys K b h' t, s' = ⟨h', g, d, t, os⟩ ∧ I i ys K ∧ St h₀ ((C, nsP b) :: (D, lsP ys) :: (it, sP i) :: K) h' ∧ i ≤ n ∧ k = n + 1 - i) ?_ (n + 1) ⟨0, [], K, [], _, _, rfl, i0, S₂, Nat.zero_le _, rfl⟩
  intro k s' zr; (revert zr; intro zh; refine xEEEEEEAAAA zh fun i ys K' b h' t' zq6 hI S' hi zq10 => ?_; clear zh; subst zq6; subst zq10)
  have Sr : ∀ {P Q R : Addr × Pr} {K : Led} {h : Heap}, St h₀ (P :: Q :: R :: K) h → St h₀ (R :: P :: Q :: K) h := fun S =>
   S.perm (((List.Perm.swap _ _ _).trans (List.Perm.cons _ (List.Perm.swap _ _ _))))
  have Sl : ∀ {P Q R : Addr × Pr} {K : Led} {h : Heap}, St h₀ (R :: P :: Q :: K) h → St h₀ (P :: Q :: R :: K) h := fun S =>
   S.perm (((List.Perm.cons _ (List.Perm.swap _ _ _)).trans (List.Perm.swap _ _ _)))
  by_cases hlt : i < n
  ·refine X.item hlt (hokC _ _ _ (hok _ _ _ hI)) (Sr S') fun v h₁ t₁ hv S₁ => ?_
   refine X.own S₁ ?_
   have S₁' := (Sl S₁).weak (Up.head (P' := nsP [])) nsP_nil
   refine wpAny_mono (turn i v ys K' h₁ t₁ C D hlt hv hI S₁' _) (fun _ s₂ h₂ => wpAny_mono h₂ (fun ok s₃ h₃ => ?_) fun _ _ e => e) fun _ _ e => e
   cases ok with
   | false =>
    (revert h₃; intro zh; refine xEEEEAA zh fun K₃ h₄ t₄ b₄ zq4 hI₃ S₃ => ?_; clear zh; subst zq4)
    exact ⟨n + 1 - (i + 1), by lia, i + 1, ys, K₃, b₄, h₄, t₄, rfl, hI₃, S₃, hlt, rfl⟩
   | true =>
    refine wpAny_mono h₃ (fun y s₄ h₄ => ?_) fun _ _ e => e
    (revert h₄; intro zh; refine xEEEEAA zh fun K₃ h₄ t₄ b₄ zq4 hI₃ S₃ => ?_; clear zh; subst zq4)
    have hle : ys.length ≤ sizeLine := hsz i ys K' hI
    refine ls_append S₃ (.tail .head) (fun h₅ S₅ => ?_) hle
    exact ⟨n + 1 - (i + 1), by lia, i + 1, ys ++ [y], K₃, b₄, h₅, t₄, rfl, hI₃, S₅, hlt, rfl⟩
  ·have hin : i = n := by lia
   subst hin
   refine X.stop (hokC _ _ _ (hok _ _ _ hI)) (Sr S') fun h₁ t₁ S₁ => ?_
   have S₁' := S₁.weak (Up.head (P' := nsP [])) nsP_nil
   have D₁ := done ys K' h₁ t₁ C D hI S₁'
   cases use with
   | none =>
    refine xEAA (S₁'.ns (List.Mem.head _)) fun f hn zu2 zu3 => ?_
    refine ⟨f, hn, fun h'' hs => stab rfl ys K' h'' t₁ D hI ?_⟩
    have nC : ∀ p ∈ (D, lsP ys) :: K', p.1 ≠ C := fun p hp q => by
     have nd := S₁'.nd
     rw [List.map_cons, List.nodup_cons] at nd
     exact nd.1 (by (refine (q) ▸ ?_); exact List.mem_map.mpr ⟨p, hp, rfl⟩)
    have S3 := S₁'.dropHead
    refine ⟨fun b o e => hs.extBut b o (fun q => ?_) (S3.keep b o e), fun p hp => ?_, S3.new, S3.nd⟩
    ·have := S₁'.new _ (List.Mem.head _); rw [← q, e] at this; cases this
    ·refine xEA (S3.ent p hp) fun o e x => ?_
     exact ⟨o, hs.extBut _ _ (nC p hp) e, x⟩
   | some u =>
    refine wpAny_mono D₁ (fun _ s'' hq => ?_) fun _ _ e => e
    (revert hq; intro zh; refine xEEEAA zh fun K₂ h₃ t₃ zq3 S₃ hq => ?_; clear zh; subst zq3)
    refine xEAA (S₃.ns (List.Mem.head _)) fun f hn zu2 zu3 => ?_
    refine ⟨f, hn, fun h'' hs => hq h'' ?_⟩
    have nC : ∀ p ∈ K₂, p.1 ≠ C := fun p hp q => by
     have nd := S₃.nd
     rw [List.map_cons, List.nodup_cons] at nd
     exact nd.1 (by (refine (q) ▸ ?_); exact List.mem_map.mpr ⟨p, hp, rfl⟩)
    have S4 := S₃.dropHead
    refine ⟨fun b o e => hs.extBut b o (fun q => ?_) (S4.keep b o e), fun p hp => ?_, S4.new, S4.nd⟩
    ·have := S₃.new _ (List.Mem.head _); rw [← q, e] at this; cases this
    ·refine xEA (S4.ent p hp) fun o e x => ?_
     exact ⟨o, hs.extBut _ _ (nC p hp) e, x⟩
 exact codeAny_compStart_list loop (X.self (S₂.perm (((List.Perm.swap _ _ _).trans (List.Perm.cons _ (List.Perm.swap _ _ _))))) loop)
end
end
section
section
variable {prog : Program} {w : World} {A : Around} {E : Value → Shared → Prop} {env : Env} {h₀ h : Heap} {g : Array GenState} {d : Drawn} {t : Nat} {os : OsState} {K : Led}
theorem call_X {R : Result → Shared → Prop} {f : Addr} {fo : Obj} {name qual : Str} {params : Arguments} {body : List Stmt} {scope : Scope} {cl : List (Str × Addr)} {dV kV doc pm cdv ct : Value} {an : Option Addr} {args : Args} {binds : List (Str × Value)}
  (S : St h₀ K h) (lim : h₀.NoLimit) (hroom : A.depth < recursionLimit) (ho : h.get? f = some fo) (hdata : fo.data = .func (fnX name qual params body scope cl dV kV doc pm an cdv ct)) (hcd : h.CodeRec cdv qual)
  (hbind : ∀ t, BindsTo ⟨h, g, d, t, os⟩ (fnX name qual params body scope cl dV kV doc pm an cdv ct) args binds)
  (hcell : ∀ x ∈ scope.names, x.2 ≠ .cell) (hloc : ∀ x ∈ binds, scope.names.lookup x.1 = some .local) (hnd : (binds.map (·.1)).Nodup)
  (hco : scope.isCoroutine = false) (hgen : scope.isGenerator = false) (hk : scope.kind = .function)
  (k : ∀ L h₁, St h₀ ((L, nsP binds) :: K) h₁ → (∀ p ∈ K, p.1 < L) → wpAny (model prog w) (A.deeper (envX qual scope L f cdv cl)) (execs body (envX qual scope L f cdv cl)) (fun fl s' => R (.ok (.ret (retV fl))) s')
    (fun e s' => wpAny (model prog w) (A.deeper (envX qual scope L f cdv cl)) (leaving (envX qual scope L f cdv cl) e) (fun _ s'' => R (.error e) s'') (fun e' s'' => R (.error e') s'') s') ⟨h₁, g, d, t + binds.length, os⟩) :
  codeAny (model prog w) A (.call (.ref f) args) R ⟨h, g, d, t, os⟩ :=
 call_D (fd := fnX name qual params body scope cl dV kV doc pm an cdv ct) S lim hroom ho hdata hcd rfl hbind k hcell hloc hnd hco hgen hk
theorem e_comp {elt target iter : PySem.Expr} {ifs : List PySem.Expr} {scope : Scope} {cl : List (Str × Addr)} {pos : Pos} {Q : Value → Shared → Prop} {s : Shared}
  (hclos : closureFor scope env = pure cl) (hkind : scope.kind = .function) (hnames : ∀ x ∈ scope.names, x.2 = .local → scope.names.lookup x.1 = some .local)
  (hh : wpAny (model prog w) A (eval iter env) (fun x s₁ => wpAny (model prog w) A (pyIter x) (fun it s₂ => wpAny (model prog w) A (newList []) (fun acc s₃ =>
   wpAny (model prog w) A (newFunctionEnv scope env.globals cl [] env.qual none .none (some env)) (fun cenv s₄ =>
    codeAny (model prog w) A (.compStart (.ListComp elt [⟨target, iter, ifs, 0⟩] scope pos) 0 it acc { cenv with scope := relabel scope env }) (compPost (model prog w) A E none Q acc cenv.locals) s₄) E s₃) E s₂) E s₁) E s)
  (hs : ∀ x, foldedSetIterable iter env x = pure x := by intro _; rfl) :
  wpAny (model prog w) A (eval (.ListComp elt [⟨target, iter, ifs, 0⟩] scope pos) env) Q E s := by
 rw [eval_ListComp]
 exact wpAny_comprehension_free (use := none) rfl hs hclos hkind hnames hh
theorem s_comp {elt target iter : PySem.Expr} {ifs : List PySem.Expr} {scope : Scope} {cl : List (Str × Addr)} {pos spos py : Pos} {y : Str} {Q : Flow → Shared → Prop} {s : Shared}
  (hsw : swapsWith (.ListComp elt [⟨target, iter, ifs, 0⟩] scope pos) (some (.Name y py)) spos.line env = pure true)
  (hclos : closureFor scope env = pure cl) (hkind : scope.kind = .function) (hnames : ∀ x ∈ scope.names, x.2 = .local → scope.names.lookup x.1 = some .local)
  (hh : wpAny (model prog w) A (eval iter env) (fun x s₁ => wpAny (model prog w) A (pyIter x) (fun it s₂ => wpAny (model prog w) A (newList []) (fun acc s₃ =>
   wpAny (model prog w) A (newFunctionEnv scope env.globals cl [] env.qual none .none (some env)) (fun cenv s₄ =>
    codeAny (model prog w) A (.compStart (.ListComp elt [⟨target, iter, ifs, 0⟩] scope pos) 0 it acc { cenv with scope := relabel scope env }) (compPost (model prog w) A E (some (assign (.Name y py) env)) (fun _ s => Q .next s) acc cenv.locals) s₄) E s₃) E s₂) E s₁) E s)
  (hs : ∀ x, foldedSetIterable iter env x = pure x := by intro _; rfl) :
  wpAny (model prog w) A (exec (.Assign [.Name y py] (.ListComp elt [⟨target, iter, ifs, 0⟩] scope pos) spos) env) Q E s := by
 rw [exec_Assign_Name_used _ _ _ _ hsw]
 refine wpAny_bind (wpAny_standAt (wpAny_bind ?_))
 show wpAny _ A (do let _ ← comprehension (.ListComp elt [⟨target, iter, ifs, 0⟩] scope pos) scope env _ (newList []) false (eval iter env) (some (assign (.Name y py) env))) _ _ s
 exact wpAny_bind (wpAny_mono (wpAny_comprehension_free (use := some (assign (.Name y py) env)) (Q := fun _ s' => Q .next s') rfl hs hclos hkind hnames hh)
  (fun _ s' hq => wpAny_pure (wpAny_pure hq)) fun _ _ e => e)
end
end
section
inductive All2 {α β : Type} (R : α → β → Prop) : List α → List β → Prop
 | nil : All2 R [] []
 | cons {a b as bs} : R a b → All2 R as bs → All2 R (a :: as) (b :: bs)
namespace All2
variable {α β : Type} {R : α → β → Prop}
theorem length {as : List α} {bs : List β} (h : All2 R as bs) : as.length = bs.length := by
 induction h with
 | nil => rfl
 | cons _ _ ih => exact congrArg Nat.succ ih
theorem append {as as' : List α} {bs bs' : List β} (h : All2 R as bs) (h' : All2 R as' bs') : All2 R (as ++ as') (bs ++ bs') := by
 induction h with
 | nil => exact h'
 | cons r _ ih => exact .cons r ih
theorem snoc {as : List α} {bs : List β} {a : α} {b : β} (h : All2 R as bs) (r : R a b) : All2 R (as ++ [a]) (bs ++ [b]) := h.append (.cons r .nil)
theorem get {as : List α} {bs : List β} (h : All2 R as bs) : ∀ {i : Nat} {b : β}, bs[i]? = some b → ∃ a, as[i]? = some a ∧ R a b := by
 induction h with
 | nil => intro i b e; simp at e
 | cons r _ ih =>
  intro i b e
  cases i with
  | zero => cases e; exact ⟨_, rfl, r⟩
  | succ i => exact ih (i := i) e
theorem get' {as : List α} {bs : List β} (h : All2 R as bs) : ∀ {i : Nat} {a : α}, as[i]? = some a → ∃ b, bs[i]? = some b ∧ R a b := by
 induction h with
 | nil => intro i b e; simp at e
 | cons r _ ih =>
  intro i b e
  cases i with
  | zero => cases e; exact ⟨_, rfl, r⟩
  | succ i => exact ih (i := i) e
theorem imp {S : α → β → Prop} (f : ∀ a b, R a b → S a b) {as : List α} {bs : List β} (h : All2 R as bs) : All2 S as bs := by
 induction h with
 | nil => exact .nil
 | cons r _ ih => exact .cons (f _ _ r) ih
end All2
noncomputable def isI (v : Value) (n : Int) : Prop := ∃ t, v = .int n t
noncomputable def isS (v : Value) (s : Str) : Prop := ∃ t, v = .str s t
noncomputable def lsR {α : Type} (R : Value → α → Prop) (xs : List α) : Pr := fun o => ∃ vs, All2 R vs xs ∧ lsP vs o
theorem ints_of {vs : List Value} {ns : List Int} (h : All2 isI vs ns) : IntsAre vs ns := by
 induction h with
 | nil => exact .nil
 | cons r _ ih => obtain ⟨t, rfl⟩ := r; exact .cons _ t ih
theorem of_ints {vs : List Value} {ns : List Int} (h : IntsAre vs ns) : All2 isI vs ns := by
 induction h with
 | nil => exact .nil
 | cons _ t _ ih => exact .cons ⟨t, rfl⟩ ih
section
variable {h₀ h : Heap} {K K' : Led} {l : Addr} {α : Type} {R : Value → α → Prop} {xs : List α} {vs : List Value}
theorem St.openR (S : St h₀ K h) (m : (l, lsR R xs) ∈ K) : ∃ vs, All2 R vs xs ∧ h.IsList l vs.toArray ∧ ∃ n, h.get? l = some ({ cls := .type "list", data := .seq vs.toArray n } : Obj) := by
 (refine xEAEAE (S.get m) fun o e vs a n zq5 => ?_; subst zq5)
 exact ⟨vs, a, ⟨_, e, rfl, n, rfl⟩, n, e⟩
theorem St.closeR (S : St h₀ ((l, lsP vs) :: K) h) (a : All2 R vs xs) : St h₀ ((l, lsR R xs) :: K) h := S.weak .head fun o p => ⟨vs, a, p⟩
end
section
variable {prog : Program} {w : World} {A : Around} {E : Value → Shared → Prop} {env : Env} {h₀ h : Heap} {g : Array GenState} {d : Drawn} {t : Nat} {os : OsState} {K K' : Led} {x : Str} {pos : Pos} {v : Value} {l b : Addr} {vs ws : List Value} {α : Type} {R : Value → α → Prop} {xs ys : List α}
theorem gm_listR {name : Str} {id : String} {pl : Sem Bool} {Q : Value × List Value → Shared → Prop} (slot : Slot "list" name id) (hty : typeOf (.builtin id) = pure (.type "method_descriptor")) (S : St h₀ K h) (m : (l, lsR R xs) ∈ K)
  (q : Q (.builtin id, [.ref l]) ⟨h, g, d, t, os⟩) : wpAny (model prog w) A (getMethod (.ref l) name pl) Q E ⟨h, g, d, t, os⟩ := by
 refine xEAAE (S.openR m) fun vs a zu2 n e => ?_
 exact getMethod_builtin ⟨_, e, rfl⟩ PySem.F.plainAttrs_list slot hty (fun a e' => by cases e'; exact ⟨_, e, rfl⟩) q
theorem lr_append {Q : Value → Shared → Prop} {y : α} (S : St h₀ K h) (u : Up l (lsR R xs) (lsR R (xs ++ [y])) K K') (r : R v y) (q : ∀ h', St h₀ K' h' → Q .none ⟨h', g, d, t, os⟩) (hsz : xs.length ≤ sizeLine) :
  wpAny (model prog w) A (call (.builtin "list.append") [.ref l, v] []) Q E ⟨h, g, d, t, os⟩ := by
 (refine xEAEAE (S.get u.mem) fun o e vs a n zq5 => ?_; subst zq5)
 refine append_at (hsz := by rw [List.size_toArray, a.length]; exact hsz) e fun h' hs e' => q h' ?_
 exact S.upd u hs.extBut e' ⟨vs ++ [v], a.snoc r, n + 1, by simp⟩
theorem lr_len {Q : Value → Shared → Prop} (S : St h₀ K h) (m : (l, lsR R xs) ∈ K) (q : Q (.int xs.length (t + 1)) ⟨h, g, d, t + 1 + 1, os⟩) (hfit : xs.length < 2 ^ 62) :
  wpAny (model prog w) A (call (.builtin "len") [.ref l] []) Q E ⟨h, g, d, t, os⟩ := by
 refine xEAA (S.openR m) fun vs a hl zu3 => ?_
 exact call_len_list hl (by rw [List.size_toArray, a.length]; lia) (by (refine (Eq.symm (List.size_toArray)) ▸ ?_; refine (Eq.symm (a.length)) ▸ ?_); exact q)
theorem lr_item {value slice : PySem.Expr} {k : Int} {u : Tok} {y : α} {Q : Value → Shared → Prop} (S : St h₀ K h) (m : (l, lsR R xs) ∈ K) (h0 : 0 ≤ k) (hhi : k < 2 ^ 63) (hx : xs[k.toNat]? = some y) (q : ∀ v, R v y → Q v ⟨h, g, d, t, os⟩)
  (hs : subscripted slice false (.ref l) (.int k u) = operate [.ref l, .int k u] (getItem (.ref l) (.int k u)) := by with_unfolding_all rfl) :
  wpAny (model prog w) A (subscriptTail value slice (.ref l) (.int k u)) Q E ⟨h, g, d, t, os⟩ := by
 refine xEAA (S.openR m) fun vs a hl zu3 => ?_
 refine xEA (a.get hx) fun v e r => ?_
 exact item_litK hl h0 hhi e (q v r) hs
theorem add_ll {Q : Value → Shared → Prop} (S : St h₀ K h) (hl : h.IsList l vs.toArray) (hb : h.IsList b ws.toArray) (q : ∀ c h', St h₀ ((c, lsP (vs ++ ws)) :: K) h' → Q (.ref c) ⟨h', g, d, t, os⟩) (hsz : vs.length + ws.length ≤ sizeLine) :
  wpAny (model prog w) A (binaryOp .Add (.ref l) (.ref b)) Q E ⟨h, g, d, t, os⟩ := by
 obtain ⟨⟨cls, dd, data, sl⟩, ho, hc, n, hd⟩ := id hl
 obtain ⟨⟨cls2, dd2, data2, sl2⟩, ho2, hc2, n2, hd2⟩ := id hb
 simp only at hc hd hc2 hd2
 subst hc hd hc2 hd2
 have e : vs.toArray ++ ws.toArray = (vs ++ ws).toArray := by simp
 refine concat_meets ⟨_, ho, rfl⟩ ⟨_, ho2, rfl⟩ noFill_list_add seq_list_add PySem.F.slot_list_add PySem.F.entry_list_add (PySem.F.args_list_add_2 _ _) (list_addW l b vs.toArray ws.toArray n n2 dd dd2 sl sl2 (by simpa using hsz)) ⟨ho, ho2, ?_⟩
 (refine (Eq.symm (e)) ▸ ?_)
 exact q _ _ (S.push ⟨0, rfl⟩ rfl)
theorem add_lr {Q : Value → Shared → Prop} (S : St h₀ K h) (hl : (l, lsR R xs) ∈ K) (hb : (b, lsR R ys) ∈ K) (q : ∀ c h', St h₀ ((c, lsR R (xs ++ ys)) :: K) h' → Q (.ref c) ⟨h', g, d, t, os⟩) (hsz : xs.length + ys.length ≤ sizeLine) :
  wpAny (model prog w) A (binaryOp .Add (.ref l) (.ref b)) Q E ⟨h, g, d, t, os⟩ := by
 refine xEAA (S.openR hl) fun vs a hl zu3 => ?_
 refine xEAA (S.openR hb) fun ws a' hb zu3 => ?_
 exact add_ll S hl hb (fun c h' S' => q c h' (S'.closeR (a.append a'))) (by (refine (Eq.symm (a.length)) ▸ ?_; refine (Eq.symm (a'.length)) ▸ ?_); exact hsz)
theorem fdiv_ii {a b : Int} {ta tb : Tok} {Q : Value → Shared → Prop} (q : Q (.int (a.fdiv b) t) ⟨h, g, d, t + 1, os⟩) (hb : b ≠ 0 := by decide) (hs : b.natAbs < 1073741824 := by decide) : wpAny (model prog w) A (binaryOp .FloorDiv (.int a ta) (.int b tb)) Q E ⟨h, g, d, t, os⟩ :=
 floordiv_int hb q (.inl (PyProof.noPylong_small hs))
theorem asg_T {elts : List PySem.Expr} {k : Nat} {Q : Unit → Shared → Prop} (hh : A.handled = none) (S : St h₀ K h) (m : (l, tpP vs) ∈ K) (hn : (assignEach elts env).length = vs.length) (hstar : (assignEach elts env).findIdx? (·.1) = none)
  (q : ∀ h', St h₀ K h' → wpAny (model prog w) A (assignInOrder ((assignEach elts env).map (·.2)) vs) Q E ⟨h', g, d, t, os⟩) :
  wpAny (model prog w) A (assign (.Tuple elts k pos) env (.ref l)) Q E ⟨h, g, d, t, os⟩ := by
 refine assign_Tuple_tuple hh (S.isTup m) (by simpa using hn) hstar fun h' he => ?_
 have : wpAny (model prog w) A (assignInOrder ((assignEach elts env).map (·.2)) vs) Q E ⟨h', g, d, t, os⟩ := q h' (S.ext fun b o e => he b o (Nat.ne_of_lt (Heap.lt_size e)) e)
 simpa using this
theorem str_item {value slice : PySem.Expr} {tx : Tok} {i : Int} {u : Tok} {Q : Value → Shared → Prop} (hr : fitsSsize i = true) (h1 : -(x.length : Int) ≤ i) (h2 : i < x.length) (q : Q (.str (Txt.item x i) t) ⟨h, g, d, t + 1, os⟩)
  (hs : subscripted slice false (.str x tx) (.int i u) = operate [.str x tx, .int i u] (getItem (.str x tx) (.int i u)) := by with_unfolding_all rfl)
  (ht : ∀ r, letTemporaryGo value (.str x tx) r = pure () := by intro _; with_unfolding_all rfl) :
  wpAny (model prog w) A (subscriptTail value slice (.str x tx) (.int i u)) Q E ⟨h, g, d, t, os⟩ := item_str hr h1 h2 (fun _ => q) hs ht
end
end
section
theorem nsP_sub {b b' : List (Str × Value)} (s : b'.Sublist b) : ∀ o, nsP b o → nsP b' o := fun o zr => by (refine xEEEAAAA zr fun es ep m a c e f nd => ?_; clear zr); exact ⟨es, ep, m, a, c, e, fun p hp => f p (s.mem hp), nd.sublist (s.map _)⟩
section
variable {prog : Program} {w : World} {A : Around} {env : Env} {h₀ h : Heap} {g : Array GenState} {d : Drawn} {t : Nat} {os : OsState} {K : Led} {l : Addr} {α : Type} {R : Value → α → Prop} {xs : List α}
theorem St.gone {h₁ : Heap} {p : Addr × Pr} (S : St h₀ (p :: K) h) (he : Heap.ExtBut p.1 h h₁) : St h₀ K h₁ := by
 refine ⟨fun b o e => he b o (fun q => ?_) (S.keep b o e), fun q hq => ?_, S.dropHead.new, S.dropHead.nd⟩
 ·have := S.new _ (List.Mem.head _)
  rw [← q, e] at this; cases this
 ·refine xEA (S.dropHead.ent q hq) fun o e x => ?_
  refine ⟨o, he _ _ (fun z => ?_) e, x⟩
  have nd := S.nd
  rw [List.map_cons, List.nodup_cons] at nd
  exact nd.1 (by rw [← z]; exact List.mem_map.mpr ⟨q, hq, rfl⟩)
theorem srcR (hh : A.handled = none) (it : Addr) : Src prog w A g d os h₀ it xs.length (fun i v => ∃ y, xs[i]? = some y ∧ R v y) (itP l) (fun K => (l, lsR R xs) ∈ K) where
 item := fun {i K h t Q E} hlt hk S q => by
  refine xEAA (S.openR (.tail _ hk)) fun vs a hl zu3 => ?_
  refine xEA (a.get (i := i) (b := xs[i]) (by simp [hlt])) fun v hv r => ?_
  refine wpAny_pyNext_list_item (S.isIter (List.Mem.head _)) hl (x := v) (by simpa using hv) fun h₁ hit₁ hs₁ => q v h₁ t ⟨xs[i], by simp [hlt], r⟩ ?_
  (revert hit₁; intro zh; refine xEAA zh fun o e c dd => ?_; clear zh)
  exact S.upd .head hs₁.extBut e ⟨c, dd⟩
 stop := fun {K h t Q E} hk S q => by
  refine xEAA (S.openR (.tail _ hk)) fun vs a hl zu3 => ?_
  refine wpAny_pyNext_list_end hh (S.isIter (List.Mem.head _)) hl (by simp [a.length]) fun h₁ he₁ => q h₁ t (S.gone he₁)
 self := fun {i K h t Q E} S q => wpAny_pyIter_listiter (S.isIter (List.Mem.head _)) q
 own := fun {i K h t Q E target v} S q => letOwned_list (S.isIter (List.Mem.head _)) q
theorem it_lr {E : Value → Shared → Prop} {Q : Value → Shared → Prop} (S : St h₀ K h) (m : (l, lsR R xs) ∈ K)
  (q : ∀ it h', St h₀ ((it, itP l 0) :: K) h' → Q (.ref it) ⟨h', g, d, t, os⟩) : wpAny (model prog w) A (pyIter (.ref l)) Q E ⟨h, g, d, t, os⟩ := by
 refine xEAA (S.openR m) fun vs a hl zu3 => ?_
 exact it_list S hl q
theorem for_lr {E : Value → Shared → Prop} {target body} {Q : Flow → Shared → Prop} (I : Nat → Led → Prop) (hh : A.handled = none) (S : St h₀ K h) (i0 : I 0 K) (hok : ∀ i K, I i K → (l, lsR R xs) ∈ K)
  (turn : ∀ i v y K h it t, xs[i]? = some y → R v y → I i K → St h₀ ((it, itP l (i + 1)) :: K) h →
   wpAny (model prog w) A (assign target env v) (fun _ s₂ => wpAny (model prog w) A (execs body env) (LoopP I h₀ g d os Q it l (i + 1)) (notedBy (model prog w) A env fun e s' => cameBackBy (model prog w) A env E e s') s₂) (notedBy (model prog w) A env fun e s' => cameBackBy (model prog w) A env E e s') ⟨h, g, d, t, os⟩)
  (done : ∀ K h t, I xs.length K → St h₀ K h → Q .next ⟨h, g, d, t, os⟩) :
  wpAny (model prog w) A (pyIter (.ref l)) (fun it s₂ => codeAny (model prog w) A (.forLoop target it body [] env) (fun r s' => match r with | .ok f => Q f s' | .error e => cameBackBy (model prog w) A env E e s') s₂) E ⟨h, g, d, t, os⟩ := by
 refine it_lr S (hok 0 K i0) fun it h' S' => for_src (srcR hh it) I S' i0 hok (fun i v K h t hi hv hI S => ?_) done
 (revert hv; intro zh; refine xEA zh fun y hy r => ?_; clear zh)
 exact wpAny_mono (turn i v y K h it t hy r hI S) (fun _ s₂ z => wpAny_mono z (fun f s z => by cases f <;> exact z) fun _ _ e => e) fun _ _ e => e
theorem comp_lr {elt target iter : PySem.Expr} {ifs : List PySem.Expr} {scope : Scope} {cl : List (Str × Addr)} {pos : Pos} {Q : Value → Shared → Prop} {E : Value → Shared → Prop}
  (hcell : ∀ y ∈ scope.names, y.2 ≠ .cell) (hkind : scope.kind = .function) (hh : A.handled = none)
  (I : Nat → List Value → Led → Prop) (S : St h₀ K h) (i0 : I 0 [] K) (hok : ∀ i ys K, I i ys K → (l, lsR R xs) ∈ K) (hsz : ∀ i ys K, I i ys K → ys.length ≤ sizeLine)
  (turn : ∀ i v y ys K h t C D it, xs[i]? = some y → R v y → I i ys K → St h₀ ((C, nsP []) :: (D, lsP ys) :: (it, itP l (i + 1)) :: K) h → ∀ E' : Value → Shared → Prop,
   wpAny (model prog w) A (assign target (compEnvC scope cl C env) v) (fun _ s₂ =>
    wpAny (model prog w) A (forIn ifs true fun c r => if r = true then do let ok ← isTrue c (compEnvC scope cl C env) (eval c (compEnvC scope cl C env)); pure (ForInStep.yield ok) else pure (ForInStep.yield r)) (fun ok s₃ =>
      if ok = true then wpAny (model prog w) A (eval elt (compEnvC scope cl C env)) (CE I h₀ g d os C D it (itP l (i + 1)) (i + 1) ys) E' s₃
      else CN I h₀ g d os C D it (itP l (i + 1)) (i + 1) ys s₃) E' s₂) E' ⟨h, g, d, t, os⟩)
  (done : ∀ ys K h t D, I xs.length ys K → St h₀ ((D, lsP ys) :: K) h → Q (.ref D) ⟨h, g, d, t, os⟩) :
  wpAny (model prog w) A (pyIter (.ref l)) (fun it s₂ => wpAny (model prog w) A (newList []) (fun acc s₃ => wpAny (model prog w) A (newFunctionEnv scope env.globals cl [] env.qual none .none (some env)) (fun cenv s₄ =>
   codeAny (model prog w) A (.compStart (.ListComp elt [⟨target, iter, ifs, 0⟩] scope pos) 0 it acc { cenv with scope := relabel scope env }) (compPost (model prog w) A E none Q acc cenv.locals) s₄) E s₃) E s₂) E ⟨h, g, d, t, os⟩ := by
 refine it_lr S (hok _ _ _ i0) fun it h' S' => ?_
 exact comp_src hcell hkind (srcR hh it) I S' i0 hok (fun K p q x => .tail _ (.tail _ x)) hsz
  (fun i v ys K h t C D hi ⟨y, hy, r⟩ hI S E' => turn i v y ys K h t C D it hy r hI S E') (fun ys K h t C D hI S => done ys K h t D hI S.dropHead) fun _ ys K h t D hI S => done ys K h t D hI S
theorem comp_lrS {elt target iter : PySem.Expr} {ifs : List PySem.Expr} {scope : Scope} {cl : List (Str × Addr)} {pos py : Pos} {y : Str} {L : Addr} {Q : Flow → Shared → Prop} {E : Value → Shared → Prop}
  (hcell : ∀ y ∈ scope.names, y.2 ≠ .cell) (hkind : scope.kind = .function) (hh : A.handled = none)
  (I : Nat → List Value → Led → Prop) (S : St h₀ K h) (i0 : I 0 [] K) (hok : ∀ i ys K, I i ys K → (l, lsR R xs) ∈ K) (hsz : ∀ i ys K, I i ys K → ys.length ≤ sizeLine)
  (turn : ∀ i v y ys K h t C D it, xs[i]? = some y → R v y → I i ys K → St h₀ ((C, nsP []) :: (D, lsP ys) :: (it, itP l (i + 1)) :: K) h → ∀ E' : Value → Shared → Prop,
   wpAny (model prog w) A (assign target (compEnvC scope cl C env) v) (fun _ s₂ =>
    wpAny (model prog w) A (forIn ifs true fun c r => if r = true then do let ok ← isTrue c (compEnvC scope cl C env) (eval c (compEnvC scope cl C env)); pure (ForInStep.yield ok) else pure (ForInStep.yield r)) (fun ok s₃ =>
      if ok = true then wpAny (model prog w) A (eval elt (compEnvC scope cl C env)) (CE I h₀ g d os C D it (itP l (i + 1)) (i + 1) ys) E' s₃
      else CN I h₀ g d os C D it (itP l (i + 1)) (i + 1) ys s₃) E' s₂) E' ⟨h, g, d, t, os⟩)
  (hL : env.locals = L) (hy : env.kindOf y = some .local) (hp : (env.scope.kind == .class || (env.scope.kind == .module && env.locals != env.globals)) = false)
  (up : ∀ ys K D, I xs.length ys K → ∃ b b' K', Up L (nsP b) (nsP b') K K' ∧ Pt y (.ref D) b b' ∧ ∀ h t, St h₀ ((D, lsP ys) :: K') h → Q .next ⟨h, g, d, t, os⟩) :
  wpAny (model prog w) A (pyIter (.ref l)) (fun it s₂ => wpAny (model prog w) A (newList []) (fun acc s₃ => wpAny (model prog w) A (newFunctionEnv scope env.globals cl [] env.qual none .none (some env)) (fun cenv s₄ =>
   codeAny (model prog w) A (.compStart (.ListComp elt [⟨target, iter, ifs, 0⟩] scope pos) 0 it acc { cenv with scope := relabel scope env }) (compPost (model prog w) A E (some (assign (.Name y py) env)) (fun _ s => Q .next s) acc cenv.locals) s₄) E s₃) E s₂) E ⟨h, g, d, t, os⟩ := by
 refine it_lr S (hok _ _ _ i0) fun it h' S' => ?_
 refine comp_src hcell hkind (srcR hh it) I S' i0 hok (fun K p q x => .tail _ (.tail _ x)) hsz
  (fun i v ys K h t C D hi ⟨y, hy, r⟩ hI S E' => turn i v y ys K h t C D it hy r hI S E') (fun ys K h t C D hI S => ?_) fun e => nomatch e
 refine xEEEAA (up ys K D hI) fun b b' K' u p q => ?_
 exact asg_L S hL (.tail (.tail u)) p (fun h' S' => ⟨_, h', _, rfl, S', fun h'' S'' => q h'' _ S''⟩) hy hp
end
inductive Wk : Led → Led → Prop
 | refl {K} : Wk K K
 | keep {a P P' K K'} : (∀ o, P o → P' o) → Wk K K' → Wk ((a, P) :: K) ((a, P') :: K')
 | drop {p K K'} : Wk K K' → Wk (p :: K) K'
theorem Wk.keys {K K' : Led} (w : Wk K K') : (K'.map (·.1)).Sublist (K.map (·.1)) := by
 induction w with
 | refl => exact List.Sublist.refl _
 | keep _ _ ih => exact ih.cons_cons _
 | drop _ ih => exact ih.cons _
theorem Wk.at {K K' : Led} (w : Wk K K') : ∀ p ∈ K', ∃ P, (p.1, P) ∈ K ∧ ∀ o, P o → p.2 o := by
 induction w with
 | refl => exact fun p hp => ⟨p.2, hp, fun _ x => x⟩
 | keep f _ ih =>
  intro p hp
  rcases List.mem_cons.mp hp with rfl | hp
  ·exact ⟨_, .head _, f⟩
  ·refine xEA (ih p hp) fun P m x => ?_; exact ⟨P, .tail _ m, x⟩
 | drop _ ih => exact fun p hp => by refine xEA (ih p hp) fun P m x => ?_; exact ⟨P, .tail _ m, x⟩
theorem St.wk {h₀ h : Heap} {K K' : Led} (S : St h₀ K h) (w : Wk K K') : St h₀ K' h :=
 ⟨S.keep, fun p hp => by refine xEA (w.at p hp) fun P m x => ?_; exact by refine xEA (S.ent _ m) fun o e y => ?_; exact ⟨o, e, x o y⟩, fun p hp => by refine xEA (w.at p hp) fun P m x => ?_; exact S.new (p.1, P) m, S.nd.sublist w.keys⟩
theorem lsR_nil {α : Type} {R : Value → α → Prop} : ∀ o, lsP [] o → lsR R [] o := fun o p => ⟨[], .nil, p⟩
theorem lsR_of {α : Type} {R : Value → α → Prop} {vs : List Value} {xs : List α} (a : All2 R vs xs) : ∀ o, lsP vs o → lsR R xs o := fun o p => ⟨vs, a, p⟩
end
section
section
variable {prog : Program} {w : World} {A : Around} {E : Value → Shared → Prop} {env : Env} {h₀ h : Heap} {g : Array GenState} {d : Drawn} {t : Nat} {os : OsState} {K K' : Led} {x : Str} {pos : Pos} {v : Value} {l b : Addr} {vs ws : List Value}
theorem up_T {n : Nat} {Q : List Value → Shared → Prop} (hh : A.handled = none) (S : St h₀ K h) (m : (l, tpP vs) ∈ K) (hn : vs.length = n) (q : ∀ h', St h₀ K h' → Q vs ⟨h', g, d, t, os⟩) :
  wpAny (model prog w) A (unpackItems (.ref l) n none) Q E ⟨h, g, d, t, os⟩ := by
 have := unpackItems_tuple (E := E) (prog := prog) (w := w) (s := ⟨h, g, d, t, os⟩) (Q := Q) hh (S.isTup m) fun h' he => by
  have : Q vs ⟨h', g, d, t, os⟩ := q h' (S.ext fun b o e => he b o (Nat.ne_of_lt (Heap.lt_size e)) e)
  simpa using this
 have e : vs.toArray.size = n := by simpa using hn
 rwa [e] at this
theorem bn_L {L : Addr} {b b' : List (Str × Value)} {Q : Unit → Shared → Prop} (S : St h₀ K h) (hL : env.locals = L) (u : Up L (nsP b) (nsP b') K K') (p : Pt x v b b') (q : ∀ h', St h₀ K' h' → Q () ⟨h', g, d, t + 1, os⟩)
  (hx : env.kindOf x = some .local := by rfl) (hp : (env.scope.kind == .class || (env.scope.kind == .module && env.locals != env.globals)) = false := by rfl) :
  wpAny (model prog w) A (bindName env x v) Q E ⟨h, g, d, t, os⟩ := wpAny_bindName (store_L S hL u p q hx hp)
end
end
section
theorem fm_snoc {α β : Type} {f : α → Option β} {xs : List α} {i : Nat} {y : α} (h : xs[i]? = some y) : (xs.take (i + 1)).filterMap f = (xs.take i).filterMap f ++ (match f y with | some z => [z] | none => []) := by
 (refine (Eq.symm (List.take_add_one)) ▸ ?_; refine (Eq.symm (h)) ▸ ?_; refine (Eq.symm (List.filterMap_append)) ▸ ?_)
 show _ ++ List.filterMap f [y] = _
 congr 1
 simp only [List.filterMap_cons, List.filterMap_nil]
 cases f y <;> rfl
section
variable {prog : Program} {w : World} {A : Around} {env : Env} {h₀ h : Heap} {g : Array GenState} {d : Drawn} {t : Nat} {os : OsState} {K : Led} {l : Addr} {α β : Type} {R : Value → α → Prop} {R' : Value → β → Prop} {xs : List α} {f : α → Option β}
noncomputable def FE (h₀ : Heap) (g : Array GenState) (d : Drawn) (os : OsState) (C D it : Addr) (P : Pr) (K : Led) (R' : Value → β → Prop) (z? : Option β) (old : List Value) (r : Value) (s : Shared) : Prop :=
 ∃ h t b z, s = ⟨h, g, d, t, os⟩ ∧ z? = some z ∧ R' r z ∧ St h₀ ((C, nsP b) :: (D, lsP old) :: (it, P) :: K) h
theorem FE_in {h₀ : Heap} {g : Array GenState} {d : Drawn} {os : OsState} {C D it : Addr} {P : Pr} {K : Led} {R' : Value → β → Prop} {z? : Option β} {old : List Value} {r : Value} {s : Shared} (h : Heap) (t : Nat) (b : List (Str × Value)) (z : β) (e : s = ⟨h, g, d, t, os⟩) (x : z? = some z) (y : R' r z) (S : St h₀ ((C, nsP b) :: (D, lsP old) :: (it, P) :: K) h) : FE h₀ g d os C D it P K R' z? old r s := ⟨h, t, b, z, e, x, y, S⟩
noncomputable def FN (h₀ : Heap) (g : Array GenState) (d : Drawn) (os : OsState) (C D it : Addr) (P : Pr) (K : Led) (z? : Option β) (old : List Value) (s : Shared) : Prop :=
 ∃ h t b, s = ⟨h, g, d, t, os⟩ ∧ z? = none ∧ St h₀ ((C, nsP b) :: (D, lsP old) :: (it, P) :: K) h
theorem FE.mk {C D it : Addr} {P : Pr} {old : List Value} {r : Value} {z? : Option β} (z : β) {b : List (Str × Value)} (e : z? = some z) (x : R' r z) (S : St h₀ ((C, nsP b) :: (D, lsP old) :: (it, P) :: K) h) : FE h₀ g d os C D it P K R' z? old r ⟨h, g, d, t, os⟩ := (FE_in h t b z rfl e x S)
theorem FN.mk {C D it : Addr} {P : Pr} {old : List Value} {z? : Option β} {b : List (Str × Value)} (e : z? = none) (S : St h₀ ((C, nsP b) :: (D, lsP old) :: (it, P) :: K) h) : FN h₀ g d os C D it P K z? old ⟨h, g, d, t, os⟩ := ⟨h, t, b, rfl, e, S⟩
theorem comp_fm {elt target iter : PySem.Expr} {ifs : List PySem.Expr} {scope : Scope} {cl : List (Str × Addr)} {pos : Pos} {Q : Value → Shared → Prop} {E : Value → Shared → Prop} (f : α → Option β)
  (hcell : ∀ y ∈ scope.names, y.2 ≠ .cell) (hkind : scope.kind = .function) (hh : A.handled = none) (S : St h₀ K h) (m : (l, lsR R xs) ∈ K) (hsz : xs.length ≤ sizeLine)
  (turn : ∀ i v y h t C D it ys, xs[i]? = some y → R v y → St h₀ ((C, nsP []) :: (D, lsP ys) :: (it, itP l (i + 1)) :: K) h → ∀ E' : Value → Shared → Prop,
   wpAny (model prog w) A (assign target (compEnvC scope cl C env) v) (fun _ s₂ =>
    wpAny (model prog w) A (forIn ifs true fun c r => if r = true then do let ok ← isTrue c (compEnvC scope cl C env) (eval c (compEnvC scope cl C env)); pure (ForInStep.yield ok) else pure (ForInStep.yield r)) (fun ok s₃ =>
      if ok = true then wpAny (model prog w) A (eval elt (compEnvC scope cl C env)) (FE h₀ g d os C D it (itP l (i + 1)) K R' (f y) ys) E' s₃
      else FN h₀ g d os C D it (itP l (i + 1)) K (f y) ys s₃) E' s₂) E' ⟨h, g, d, t, os⟩)
  (done : ∀ h t D, St h₀ ((D, lsR R' (xs.filterMap f)) :: K) h → Q (.ref D) ⟨h, g, d, t, os⟩) :
  wpAny (model prog w) A (pyIter (.ref l)) (fun it s₂ => wpAny (model prog w) A (newList []) (fun acc s₃ => wpAny (model prog w) A (newFunctionEnv scope env.globals cl [] env.qual none .none (some env)) (fun cenv s₄ =>
   codeAny (model prog w) A (.compStart (.ListComp elt [⟨target, iter, ifs, 0⟩] scope pos) 0 it acc { cenv with scope := relabel scope env }) (compPost (model prog w) A E none Q acc cenv.locals) s₄) E s₃) E s₂) E ⟨h, g, d, t, os⟩ := by
 refine comp_lr (R := R) (xs := xs) hcell hkind hh (fun i ys K' => K' = K ∧ All2 R' ys ((xs.take i).filterMap f)) S ⟨rfl, by simp; exact .nil⟩ (fun i ys K' ⟨e, _⟩ => e ▸ m)
  (fun i ys K' ⟨_, a⟩ => by
   have h1 := a.length
   have h2 := List.length_filterMap_le f (xs.take i)
   have h3 := List.length_take_le' i xs
   lia) ?_ ?_
 ·intro i v y ys K' h t C D it hx r zr S' E'; obtain ⟨rfl, a⟩ := zr
  refine wpAny_mono (turn i v y h t C D it ys hx r S' E') (fun _ s₂ z => wpAny_mono z (fun ok s₃ z => ?_) fun _ _ e => e) fun _ _ e => e
  have sn := fm_snoc (f := f) hx
  cases ok with
  | true =>
   rw [if_pos rfl] at z ⊢
   refine wpAny_mono z (fun r s ⟨h, t, b, z, e, fz, x, S⟩ => (CE_in _ h t b e (⟨rfl, ?_⟩) S)) fun _ _ e => e
   (refine (Eq.symm (sn)) ▸ ?_; refine (Eq.symm (fz)) ▸ ?_)
   exact a.snoc x
  | false =>
   rw [if_neg (by decide)] at z ⊢
   (revert z; intro zh; refine xEEEAA zh fun h t b e fz S => ?_; clear zh)
   refine (CN_in _ h t b e (⟨rfl, ?_⟩) S)
   (refine (Eq.symm (sn)) ▸ ?_; refine (Eq.symm (fz)) ▸ ?_)
   simpa using a
 ·intro ys K' h t D zr S'; obtain ⟨rfl, a⟩ := zr
  rw [List.take_length] at a
  exact done h t D (S'.closeR a)
theorem comp_fmS {elt target iter : PySem.Expr} {ifs : List PySem.Expr} {scope : Scope} {cl : List (Str × Addr)} {pos py : Pos} {y : Str} {L : Addr} {b b' : List (Str × Value)} {Q : Flow → Shared → Prop} {E : Value → Shared → Prop} (f : α → Option β)
  (hcell : ∀ y ∈ scope.names, y.2 ≠ .cell) (hkind : scope.kind = .function) (hh : A.handled = none) (S : St h₀ K h) (m : (l, lsR R xs) ∈ K) (hsz : xs.length ≤ sizeLine)
  (hL : env.locals = L) {K' : Addr → Led} {b' : Addr → List (Str × Value)} (u : ∀ D, Up L (nsP b) (nsP (b' D)) K (K' D)) (p : ∀ D, Pt y (.ref D) b (b' D))
  (turn : ∀ i v y h t C D it ys, xs[i]? = some y → R v y → St h₀ ((C, nsP []) :: (D, lsP ys) :: (it, itP l (i + 1)) :: K) h → ∀ E' : Value → Shared → Prop,
   wpAny (model prog w) A (assign target (compEnvC scope cl C env) v) (fun _ s₂ =>
    wpAny (model prog w) A (forIn ifs true fun c r => if r = true then do let ok ← isTrue c (compEnvC scope cl C env) (eval c (compEnvC scope cl C env)); pure (ForInStep.yield ok) else pure (ForInStep.yield r)) (fun ok s₃ =>
      if ok = true then wpAny (model prog w) A (eval elt (compEnvC scope cl C env)) (FE h₀ g d os C D it (itP l (i + 1)) K R' (f y) ys) E' s₃
      else FN h₀ g d os C D it (itP l (i + 1)) K (f y) ys s₃) E' s₂) E' ⟨h, g, d, t, os⟩)
  (done : ∀ h t D, St h₀ ((D, lsR R' (xs.filterMap f)) :: K' D) h → Q .next ⟨h, g, d, t, os⟩)
  (hy : env.kindOf y = some .local := by rfl) (hp : (env.scope.kind == .class || (env.scope.kind == .module && env.locals != env.globals)) = false := by rfl) :
  wpAny (model prog w) A (pyIter (.ref l)) (fun it s₂ => wpAny (model prog w) A (newList []) (fun acc s₃ => wpAny (model prog w) A (newFunctionEnv scope env.globals cl [] env.qual none .none (some env)) (fun cenv s₄ =>
   codeAny (model prog w) A (.compStart (.ListComp elt [⟨target, iter, ifs, 0⟩] scope pos) 0 it acc { cenv with scope := relabel scope env }) (compPost (model prog w) A E (some (assign (.Name y py) env)) (fun _ s => Q .next s) acc cenv.locals) s₄) E s₃) E s₂) E ⟨h, g, d, t, os⟩ := by
 refine comp_lrS (R := R) (xs := xs) hcell hkind hh (fun i ys K' => K' = K ∧ All2 R' ys ((xs.take i).filterMap f)) S ⟨rfl, by simp; exact .nil⟩ (fun i ys K' ⟨e, _⟩ => e ▸ m)
  (fun i ys K' ⟨_, a⟩ => by
   have h1 := a.length
   have h2 := List.length_filterMap_le f (xs.take i)
   have h3 := List.length_take_le' i xs
   lia) ?_ hL hy hp ?_
 ·intro i v y ys K' h t C D it hx r zr S' E'; obtain ⟨rfl, a⟩ := zr
  refine wpAny_mono (turn i v y h t C D it ys hx r S' E') (fun _ s₂ z => wpAny_mono z (fun ok s₃ z => ?_) fun _ _ e => e) fun _ _ e => e
  have sn := fm_snoc (f := f) hx
  cases ok with
  | true =>
   rw [if_pos rfl] at z ⊢
   refine wpAny_mono z (fun r s ⟨h, t, b, z, e, fz, x, S⟩ => (CE_in _ h t b e (⟨rfl, ?_⟩) S)) fun _ _ e => e
   (refine (Eq.symm (sn)) ▸ ?_; refine (Eq.symm (fz)) ▸ ?_)
   exact a.snoc x
  | false =>
   rw [if_neg (by decide)] at z ⊢
   (revert z; intro zh; refine xEEEAA zh fun h t b e fz S => ?_; clear zh)
   refine (CN_in _ h t b e (⟨rfl, ?_⟩) S)
   (refine (Eq.symm (sn)) ▸ ?_; refine (Eq.symm (fz)) ▸ ?_)
   simpa using a
 ·intro ys K₁ D zr; obtain ⟨rfl, a⟩ := zr
  rw [List.take_length] at a
  exact ⟨b, b' D, K' D, u D, p D, fun h t S' => done h t D (S'.closeR a)⟩
end
end
section
noncomputable def inS (x y : Str) : Bool := !(Builtin.Str.occurrences x y 0 x.length 1).isEmpty
noncomputable def upd {α : Type} (W : Nat → α) (i : Nat) (v : α) : Nat → α := fun k => if k = i then v else W k
noncomputable def abc : Str := "ABCDE"
noncomputable def nameCount (ws : List Str) : Nat := (ws.filter (inS abc)).length
noncomputable def rowsStep (menu : List Str) (W : Nat → List Str) (x : Int) : Nat → List Str :=
 if (x.fdiv 5).fmod 8 < 5 then upd W (x.fmod 5).toNat (W (x.fmod 5).toNat ++ [menu.getD ((x.fdiv 40).fmod 52).toNat Str.empty])
 else if x.fmod 5 < 4 ∧ ((nameCount (W (x.fmod 5).toNat) : Nat) : Int) < 2 then upd W (x.fmod 5).toNat (W (x.fmod 5).toNat ++ [Txt.item abc (x.fmod 5 + 1 + (x.fdiv 40).fmod (4 - x.fmod 5))])
 else W
noncomputable def tens : List Int := [25, 1880, 145, 800, 26, 881, 26, 27, 2, 1164]
theorem upd_lsR {α : Type} {R : Value → α → Prop} (W : Nat → List α) (j : Nat) (v : List α) : upd (fun k => lsR R (W k)) j (lsR R v) = fun k => lsR R (upd W j v k) := by
 funext k
 unfold upd
 split <;> rfl
theorem row_up {r0 r1 r2 r3 r4 : Addr} : ∀ {j : Nat}, j < 5 → ∃ rl, ([.ref r0, .ref r1, .ref r2, .ref r3, .ref r4] : List Value)[j]? = some (.ref rl) ∧ ∀ (P : Nat → Pr) (P' : Pr) (post : Led),
  Up rl (P j) P' ((r4, P 4) :: (r3, P 3) :: (r2, P 2) :: (r1, P 1) :: (r0, P 0) :: post) ((r4, upd P j P' 4) :: (r3, upd P j P' 3) :: (r2, upd P j P' 2) :: (r1, upd P j P' 1) :: (r0, upd P j P' 0) :: post)
 | 0, _ => ⟨r0, rfl, fun P P' post => .tail (.tail (.tail (.tail .head)))⟩
 | 1, _ => ⟨r1, rfl, fun P P' post => .tail (.tail (.tail .head))⟩
 | 2, _ => ⟨r2, rfl, fun P P' post => .tail (.tail .head)⟩
 | 3, _ => ⟨r3, rfl, fun P P' post => .tail .head⟩
 | 4, _ => ⟨r4, rfl, fun P P' post => .head⟩
 | n + 5, h => absurd h (by lia)
theorem ite_dec {p : Prop} [Decidable p] {a b : Prop} (h1 : p → a) (h2 : ¬ p → b) : if decide p = true then a else b := by
 by_cases h : p
 ·rw [if_pos (decide_eq_true h)]; exact h1 h
 ·rw [if_neg (by simp [h])]; exact h2 h
theorem ite_b {c : Bool} {a b : Prop} (h1 : c = true → a) (h2 : c = false → b) : if c = true then a else b := by
 cases c
 ·rw [if_neg (by decide)]; exact h2 rfl
 ·rw [if_pos rfl]; exact h1 rfl
theorem getD_some {α : Type} {l : List α} {k : Nat} {d : α} (h : k < l.length) : l[k]? = some (l.getD k d) := by
 (refine (Eq.symm (List.getD_eq_getElem?_getD)) ▸ ?_; refine (Eq.symm (List.getElem?_eq_getElem h)) ▸ ?_); rfl
theorem if_f {a b : Prop} (h : b) : if false = true then a else b := by rw [if_neg (by decide)]; exact h
theorem if_t {a b : Prop} (h : a) : if true = true then a else b := by rw [if_pos rfl]; exact h
theorem filterMap_if {α : Type} (p : α → Bool) : ∀ xs : List α, xs.filterMap (fun y => if p y then some y else none) = xs.filter p
 | [] => rfl
 | x :: xs => by
  (refine (Eq.symm (List.filterMap_cons)) ▸ ?_; refine (Eq.symm (List.filter_cons)) ▸ ?_; refine (Eq.symm (filterMap_if p xs)) ▸ ?_)
  cases p x <;> rfl
theorem fmod_ge (a : Int) {n : Int} (h : 0 < n) : 0 ≤ a.fmod n := fmod_lo a h
theorem fmod_lt (a : Int) {n : Int} (h : 0 < n) : a.fmod n < n := fmod_hi a h
end
theorem fillAll : (fun (_ : OpenLaw) (_ : Params → Frag) => True) PySem.Challenge.rw_in0015_01 hd.heap_1 := by k_fill; trivial
section
noncomputable abbrev PP : Program := PySem.Challenge.rw_in0015_01.row.prog
structure Cx (w : World) (mg mb : Str → Option Value) (h₀ : Heap) : Prop where
 T : ∃ (p : Program) (loose : List Str) (mean : ExcName → Option Value), Top p loose mean mg mb h₀
 H1 : CodeHd h₀ 251 247
 H2 : CodeHd h₀ 104 100
 H3 : CodeHd h₀ 244 242
 X : (hd.heap_1 w.params).In h₀
 G : h₀.Ns mainGlobals mg
 B : h₀.Ns builtinsNs mb
 lim : h₀.NoLimit
 b_len : mg "len" = none ∧ mb "len" = some (.builtin "len")
 b_list : mg "list" = none ∧ mb "list" = some (.type "list")
 b_str : mg "str" = none ∧ mb "str" = some (.type "str")
 b_range : mg "range" = none ∧ mb "range" = some (.type "range")
 b_map : mg "map" = none ∧ mb "map" = some (.type "map")
 b_getattr : mg "getattr" = none ∧ mb "getattr" = some (.builtin "getattr")
 b_super : mg "super" = none ∧ mb "super" = some (.type "super")
 b_tuple : mg "tuple" = none ∧ mb "tuple" = some (.type "tuple")
 b_type : mg "type" = none ∧ mb "type" = some (.type "type")
 b_issubclass : mg "issubclass" = none ∧ mb "issubclass" = some (.builtin "issubclass")
 b_valueError : mg "ValueError" = none ∧ mb "ValueError" = some (.type "ValueError")
 g_rows : mg "_law_rows" = some (.ref 228)
 g_due : mg "_law_due" = some (.ref 233)
 g_number : mg "_law_number" = some (.ref 240)
 g_read : mg "_law_read" = some (.ref 245)
 g_grown : mg "_law_grown" = some (.ref 252)
 g_plain : mg "_law_plain" = some (.ref 259)
 g_pair : mg "Pair" = some (.ref 203)
 g_fdd : mg "FreezableDefaultDict" = some (.ref 108)
 g_ett : mg "EXACT_TOKEN_TYPES" = some (.ref 207)
 g_ist : mg "ISTERMINAL" = some (.ref 216)
 g_isn : mg "ISNONTERMINAL" = some (.ref 223)
theorem Cx.of {w : World} {mg mb : Str → Option Value} {h₀ : Heap} {p : Program} {loose : List Str} {mean : ExcName → Option Value} (X : (hd.heap_1 w.params).In h₀) (T : Top p loose mean mg mb h₀) (H1 : CodeHd h₀ 251 247) (H2 : CodeHd h₀ 104 100) (H3 : CodeHd h₀ 244 242) : Cx w mg mb h₀ where
 T := ⟨_, _, _, T⟩
 H1 := H1
 H2 := H2
 H3 := H3
 X := X
 G := T.g
 B := T.b
 lim := T.nolimit
 b_len := ⟨mg_none_of X T.g (by k_is), (T.builtins _ (by decide)).trans (by boot_by_name)⟩
 b_list := ⟨mg_none_of X T.g (by k_is), (T.builtins _ (by decide)).trans (by boot_by_name)⟩
 b_str := ⟨mg_none_of X T.g (by k_is), (T.builtins _ (by decide)).trans (by boot_by_name)⟩
 b_range := ⟨mg_none_of X T.g (by k_is), (T.builtins _ (by decide)).trans (by boot_by_name)⟩
 b_map := ⟨mg_none_of X T.g (by k_is), (T.builtins _ (by decide)).trans (by boot_by_name)⟩
 b_getattr := ⟨mg_none_of X T.g (by k_is), (T.builtins _ (by decide)).trans (by boot_by_name)⟩
 b_super := ⟨mg_none_of X T.g (by k_is), (T.builtins _ (by decide)).trans (by boot_by_name)⟩
 b_tuple := ⟨mg_none_of X T.g (by k_is), (T.builtins _ (by decide)).trans (by boot_by_name)⟩
 b_type := ⟨mg_none_of X T.g (by k_is), (T.builtins _ (by decide)).trans (by boot_by_name)⟩
 b_issubclass := ⟨mg_none_of X T.g (by k_is), (T.builtins _ (by decide)).trans (by boot_by_name)⟩
 b_valueError := ⟨mg_none_of X T.g (by k_is), (T.builtins _ (by decide)).trans (by boot_by_name)⟩
 g_rows := mg_of X T.g (by k_is)
 g_due := mg_of X T.g (by k_is)
 g_number := mg_of X T.g (by k_is)
 g_read := mg_of X T.g (by k_is)
 g_grown := mg_of X T.g (by k_is)
 g_plain := mg_of X T.g (by k_is)
 g_pair := mg_of X T.g (by k_is)
 g_fdd := mg_of X T.g (by k_is)
 g_ett := mg_of X T.g (by k_is)
 g_ist := mg_of X T.g (by k_is)
 g_isn := mg_of X T.g (by k_is)
section
variable {M : Model} {A : Around} {E : Value → Shared → Prop} {env : Env} {h₀ h : Heap} {g : Array GenState} {d : Drawn} {t : Nat} {os : OsState} {K : Led} {x : Str} {pos : Pos} {v : Value} {w : World} {mg mb : Str → Option Value}
theorem name_G {Q : Value → Shared → Prop} (C : Cx w mg mb h₀) (S : St h₀ K h) (hv : mg x = some v) (q : Q v ⟨h, g, d, t, os⟩) (hg : env.globals = mainGlobals := by rfl)
  (hk : env.scope.kind = .function := by rfl) (hx : env.kindOf x = some .globalImplicit := by rfl) (hd : (x == ("__debug__" : Str)) = false := by decide) :
  wpAny M A (eval (.Name x pos) env) Q E ⟨h, g, d, t, os⟩ :=
 Name_function_global hk hx (loadGlobal_global (env := env) (show h.Ns env.globals mg from hg ▸ C.G.keeps S.keep) hv q) hd
theorem name_B {Q : Value → Shared → Prop} (C : Cx w mg mb h₀) (S : St h₀ K h) (hv : mg x = none ∧ mb x = some v) (q : Q v ⟨h, g, d, t, os⟩) (hg : env.globals = mainGlobals := by rfl) (hb : env.builtins = builtinsNs := by rfl)
  (hk : env.scope.kind = .function := by rfl) (hx : env.kindOf x = some .globalImplicit := by rfl) (hd : (x == ("__debug__" : Str)) = false := by decide) :
  wpAny M A (eval (.Name x pos) env) Q E ⟨h, g, d, t, os⟩ :=
 Name_function_global hk hx (loadGlobal_builtin (env := env) (show h.Ns env.globals mg from hg ▸ C.G.keeps S.keep) hv.1 (show h.Ns env.builtins mb from hb ▸ C.B.keeps S.keep) hv.2 q) hd
end
section
variable {w : World} {A : Around} {E : Value → Shared → Prop} {h₀ h : Heap} {g : Array GenState} {d : Drawn} {t : Nat} {os : OsState} {K : Led} {mg mb : Str → Option Value}
theorem call_T {R : Result → Shared → Prop} {f : Addr} {name qual : Str} {params : Arguments} {body : List Stmt} {scope : Scope} {cl : List (Str × Addr)} {dV kV doc pm cdv ct oc : Value} {an od : Option Addr} {osl : Array (Option Value)} {args : Args} {binds : List (Str × Value)}
  (C : Cx w mg mb h₀) (S : St h₀ K h) (hroom : A.depth < recursionLimit) (ho : (hd.heap_1 w.params).lookup f = some ⟨oc, od, .func (fnX name qual params body scope cl dV kV doc pm an cdv ct), osl⟩) (hcd : codeIn (hd.heap_1 w.params) cdv qual = true)
  (hbind : ∀ t, BindsTo ⟨h, g, d, t, os⟩ (fnX name qual params body scope cl dV kV doc pm an cdv ct) args binds)
  (hcell : ∀ x ∈ scope.names, x.2 ≠ .cell) (hloc : (binds.all fun x => decide (scope.names.lookup x.1 = some .local)) = true) (hnd : (binds.map (·.1)).Nodup)
  (hco : scope.isCoroutine = false) (hgen : scope.isGenerator = false) (hk : scope.kind = .function)
  (k : ∀ L h₁, St h₀ ((L, nsP binds) :: K) h₁ → wpAny (model PP w) (A.deeper (envX qual scope L f cdv cl)) (execs body (envX qual scope L f cdv cl)) (fun fl s' => R (.ok (.ret (retV fl))) s')
    (fun e s' => wpAny (model PP w) (A.deeper (envX qual scope L f cdv cl)) (leaving (envX qual scope L f cdv cl) e) (fun _ s'' => R (.error e) s'') (fun e' s'' => R (.error e') s'') s') ⟨h₁, g, d, t + binds.length, os⟩) :
  codeAny (model PP w) A (.call (.ref f) args) R ⟨h, g, d, t, os⟩ :=
 have X := C.X.keeps S.keep
 call_X S C.lim hroom (X _ _ ho) rfl (codeRec_of X hcd) hbind hcell (locs hloc) hnd hco hgen hk fun L h₁ S₁ _ => k L h₁ S₁
end
end
section
variable {w : World} {A : Around} {E : Value → Shared → Prop} {env : Env} {h₀ h : Heap} {g : Array GenState} {d : Drawn} {t : Nat} {os : OsState} {K : Led} {mg mb : Str → Option Value}
theorem rows_call {dr mn : Addr} {ns : List Int} {menu : List Str} {R : Result → Shared → Prop} (C : Cx w mg mb h₀) (S : St h₀ K h) (hd : A.depth + 2 < recursionLimit) (hh : A.handled = none)
  (md : (dr, lsR isI ns) ∈ K) (mm : (mn, lsR isS menu) ∈ K) (hn : ns.length ≤ 16) (hm : menu.length = 52)
  (q : ∀ rs r0 r1 r2 r3 r4 h t, St h₀ ((rs, lsP [.ref r0, .ref r1, .ref r2, .ref r3, .ref r4]) :: (r4, lsR isS ((ns ++ tens).foldl (rowsStep menu) (fun _ => []) 4)) :: (r3, lsR isS ((ns ++ tens).foldl (rowsStep menu) (fun _ => []) 3)) :: (r2, lsR isS ((ns ++ tens).foldl (rowsStep menu) (fun _ => []) 2)) :: (r1, lsR isS ((ns ++ tens).foldl (rowsStep menu) (fun _ => []) 1)) :: (r0, lsR isS ((ns ++ tens).foldl (rowsStep menu) (fun _ => []) 0)) :: K) h → R (.ok (.ret (.ref rs))) ⟨h, g, d, t, os⟩) :
  codeAny (model PP w) A (.call (.ref 228) ⟨[.ref dr, .ref mn], []⟩) R ⟨h, g, d, t, os⟩ := by
 refine' call_T (binds := [("drawn", .ref dr), ("menu", .ref mn)]) C S ?hroom ?ho ?hcd (fun t => BindsTo.of_eq ?hbind) ?hcell ?hloc ?hnd ?h1 ?h2 ?h3 ?k
 case ho => k_is
 case hcd => k_is
 case hbind => exact rfl
 case hroom => (exact Nat.lt_of_le_of_lt (Nat.le_add_right _ _) (by assumption))
 case hcell => decide
 case hloc => exact rfl
 case hnd => simp only [List.map_cons, List.map_nil]; decide
 case h1 => rfl
 case h2 => rfl
 case h3 => rfl
 intro L h₁ S₁
 dsimp only [List.length_cons, List.length_nil]
 refine k_execs_cons ?_
 refine k_Assign_Name ?_
 refine List_ ?_
 refine k_items_cons ?_; refine List_ ?_; refine wpAny_items_nil ?_; refine n_list (by assumption) fun r0 h₁ S₁ => ?_
 refine k_items_cons ?_; refine List_ ?_; refine wpAny_items_nil ?_; refine n_list (by assumption) fun r1 h₁ S₁ => ?_
 refine k_items_cons ?_; refine List_ ?_; refine wpAny_items_nil ?_; refine n_list (by assumption) fun r2 h₁ S₁ => ?_
 refine k_items_cons ?_; refine List_ ?_; refine wpAny_items_nil ?_; refine n_list (by assumption) fun r3 h₁ S₁ => ?_
 refine k_items_cons ?_; refine List_ ?_; refine wpAny_items_nil ?_; refine n_list (by assumption) fun r4 h₁ S₁ => ?_
 refine wpAny_items_nil ?_
 refine n_list (by assumption) fun rs h₁ S₁ => ?_
 refine store_L (by assumption) (by exact rfl) (.tail (.tail (.tail (.tail (.tail (.tail .head)))))) (.new (by simp only [List.map_cons, List.map_nil]; decide)) ?_
 intro h₂ S₂
 refine k_execs_cons ?_
 refine For_ ?_
 (with_reducible refine k_BinOp ?_); refine name_L (by assumption) (by exact rfl) (mT (mT (mT (mT (mT (mT mH)))))) (mT mH) ?_; (with_reducible refine List_ ?_); refine k_items_cons ?_; (with_reducible refine c_int ?_); refine k_items_cons ?_; (with_reducible refine c_int ?_); refine k_items_cons ?_; (with_reducible refine c_int ?_); refine k_items_cons ?_; (with_reducible refine c_int ?_); refine k_items_cons ?_; (with_reducible refine c_int ?_); refine k_items_cons ?_; (with_reducible refine c_int ?_); refine k_items_cons ?_; (with_reducible refine c_int ?_); refine k_items_cons ?_; (with_reducible refine c_int ?_); refine k_items_cons ?_; (with_reducible refine c_int ?_); refine k_items_cons ?_; (with_reducible refine c_int ?_); (with_reducible refine wpAny_items_nil ?_)
 refine n_list (by assumption) (fun tl h₃ S₃ => ?_)
 have S₃' := S₃.closeR (R := isI) (xs := tens) (by
  unfold tens
  repeat (refine' All2.cons ⟨_, rfl⟩ ?_)
  exact All2.nil)
 refine add_lr (R := isI) (xs := ns) (ys := tens) S₃' (mT (mT (mT (mT (mT (mT (mT (mT (by assumption))))))))) (mH) (fun c h₄ S₄ => ?_) (szS (by simp [tens]; (exact Nat.le_trans (by assumption) (by decide))))
 have S₅ : St h₀ ((c, lsR isI (ns ++ tens)) :: (rs, lsP [.ref r0, .ref r1, .ref r2, .ref r3, .ref r4]) :: (r4, lsR isS []) :: (r3, lsR isS []) :: (r2, lsR isS []) :: (r1, lsR isS []) :: (r0, lsR isS []) ::
   (L, nsP [("rows", .ref rs), ("menu", .ref mn)]) :: K) h₄ := S₄.wk (.keep (fun _ h => h) (.drop (.keep (fun _ h => h) (.keep (lsR_nil) (.keep (lsR_nil) (.keep (lsR_nil) (.keep (lsR_nil) (.keep (lsR_nil) (.keep (nsP_sub (.cons_cons _ (.cons _ (List.Sublist.refl _)))) (.refl))))))))))
 let W : Nat → Nat → List Str := fun i => ((ns ++ tens).take i).foldl (rowsStep menu) (fun _ => [])
 refine for_lr (R := isI) (xs := ns ++ tens) (I := fun i K' => K' = (c, lsR isI (ns ++ tens)) :: (rs, lsP [.ref r0, .ref r1, .ref r2, .ref r3, .ref r4]) :: (r4, lsR isS (W i 4)) :: (r3, lsR isS (W i 3)) :: (r2, lsR isS (W i 2)) :: (r1, lsR isS (W i 1)) :: (r0, lsR isS (W i 0)) ::
   (L, nsP [("rows", .ref rs), ("menu", .ref mn)]) :: K ∧ ∀ k, (W i k).length ≤ i) hh S₅ ?i0 ?hok ?turn ?done
 case i0 => exact ⟨rfl, fun k => by simp [W]⟩
 case hok => intro i K' zr; obtain ⟨rfl, _⟩ := zr; exact mH
 case done =>
  intro K' h₅ t₅ zr S₅; obtain ⟨rfl, _⟩ := zr
  try dsimp only
  (with_reducible refine k_execs_cons ?_); (with_reducible refine k_Return_some ?_); refine name_L (by assumption) (by exact rfl) (mT (mT (mT (mT (mT (mT (mT mH))))))) (mH) ?_
  dsimp only [retV]
  have hW : W (ns ++ tens).length = (ns ++ tens).foldl (rowsStep menu) (fun _ => []) := by show ((ns ++ tens).take _).foldl _ _ = _; rw [List.take_length]
  rw [hW] at S₅
  exact q rs r0 r1 r2 r3 r4 h₅ t₅ (S₅.wk (.drop (.keep (fun _ h => h) (.keep (fun _ h => h) (.keep (fun _ h => h) (.keep (fun _ h => h) (.keep (fun _ h => h) (.keep (fun _ h => h) (.drop (.refl))))))))))
 case turn =>
  rintro i v x K' h₅ it t₅ hx ⟨tx, rfl⟩ ⟨rfl, hl⟩ S₅
  have h0 := fmod_ge x (n := 5) (by decide)
  have h5 := fmod_lt x (n := 5) (by decide)
  refine xEA (row_up (r0 := r0) (r1 := r1) (r2 := r2) (r3 := r3) (r4 := r4) (j := (x.fmod 5).toNat) (by lia)) fun rl hrl hup => ?_
  have hW : W (i + 1) = rowsStep menu (W i) x := by
   show ((ns ++ tens).take (i + 1)).foldl (rowsStep menu) (fun _ => []) = _
   (refine (Eq.symm (List.take_add_one)) ▸ ?_; refine (Eq.symm (hx)) ▸ ?_; refine (Eq.symm (List.foldl_append)) ▸ ?_); rfl
  have hlen : i < 27 := by
   have := (List.getElem?_eq_some_iff.mp hx).1
   simp [tens] at this; lia
  have U : ∀ (v : List Str) (post : Led), Up rl (lsR isS (W i (x.fmod 5).toNat)) (lsR isS v) ((r4, lsR isS (W i 4)) :: (r3, lsR isS (W i 3)) :: (r2, lsR isS (W i 2)) :: (r1, lsR isS (W i 1)) :: (r0, lsR isS (W i 0)) :: post)
    ((r4, lsR isS (upd (W i) (x.fmod 5).toNat v 4)) :: (r3, lsR isS (upd (W i) (x.fmod 5).toNat v 3)) :: (r2, lsR isS (upd (W i) (x.fmod 5).toNat v 2)) :: (r1, lsR isS (upd (W i) (x.fmod 5).toNat v 1)) :: (r0, lsR isS (upd (W i) (x.fmod 5).toNat v 0)) :: post) := fun v post => by
   simpa only [upd_lsR] using hup (fun k => lsR isS (W i k)) (lsR isS v) post
  have hcl : W i (x.fmod 5).toNat = W i (x.fmod 5).toNat := rfl
  have hl' := hl (x.fmod 5).toNat
  have m52 := fmod_ge (x.fdiv 40) (n := 52) (by decide)
  have m52' := fmod_lt (x.fdiv 40) (n := 52) (by decide)
  have lenUp : ∀ y k, (upd (W i) (x.fmod 5).toNat (W i (x.fmod 5).toNat ++ [y]) k).length ≤ i + 1 := by
   intro y k
   unfold upd
   split
   ·rw [List.length_append, List.length_singleton]; (exact Nat.succ_le_succ (by assumption))
   ·have := hl k; (exact Nat.le_succ_of_le (by assumption))
  clear S₁ S₂ S₃ S₃' S₄
  refine asg_L (by assumption) (by exact rfl) (.tail (.tail (.tail (.tail (.tail (.tail (.tail (.tail .head)))))))) (.new (by simp only [List.map_cons, List.map_nil]; decide)) ?_
  intro h₆ S₆
  refine k_execs_cons ?_
  refine Assign_Tuple_swapped ?_
  (with_reducible refine k_Tuple ?_); refine k_items_cons ?_; (with_reducible refine k_BinOp ?_); refine name_L (by assumption) (by exact rfl) (mT (mT (mT (mT (mT (mT (mT (mT mH)))))))) (mH) ?_; (with_reducible refine c_int ?_); refine mod_ii ?_; refine k_items_cons ?_; (with_reducible refine k_BinOp ?_); (with_reducible refine k_BinOp ?_); refine name_L (by assumption) (by exact rfl) (mT (mT (mT (mT (mT (mT (mT (mT mH)))))))) (mH) ?_; (with_reducible refine c_int ?_); refine fdiv_ii ?_; (with_reducible refine c_int ?_); refine mod_ii ?_; refine k_items_cons ?_; (with_reducible refine k_BinOp ?_); refine name_L (by assumption) (by exact rfl) (mT (mT (mT (mT (mT (mT (mT (mT mH)))))))) (mH) ?_; (with_reducible refine c_int ?_); refine fdiv_ii ?_; (with_reducible refine wpAny_items_nil ?_)
  refine n_tup (by assumption) fun tp h₇ S₇ => ?_
  refine up_T hh S₇ (mH) rfl fun h₈ S₈ => ?_
  refine assignInOrder_cons ?_
  refine bn_L (by assumption) (by exact rfl) (.tail (.tail (.tail (.tail (.tail (.tail (.tail (.tail (.tail .head))))))))) (.new (by simp only [List.map_cons, List.map_nil]; decide)) ?_; intro h₉ S₉
  refine assignInOrder_cons ?_
  refine bn_L (by assumption) (by exact rfl) (.tail (.tail (.tail (.tail (.tail (.tail (.tail (.tail (.tail .head))))))))) (.new (by simp only [List.map_cons, List.map_nil]; decide)) ?_; intro h₁₀ S₁₀
  refine assignInOrder_cons ?_
  refine bn_L (by assumption) (by exact rfl) (.tail (.tail (.tail (.tail (.tail (.tail (.tail (.tail (.tail .head))))))))) (.new (by simp only [List.map_cons, List.map_nil]; decide)) ?_; intro h₁₁ S₁₁
  refine assignInOrder_nil ?_
  (with_reducible refine k_execs_cons ?_); (with_reducible refine k_If ?_); refine k_isTrue_Compare1 ?_; refine name_L (by assumption) (by exact rfl) (mT (mT (mT (mT (mT (mT (mT (mT (mT mH))))))))) (mT mH) ?_; (with_reducible refine c_int ?_); (with_reducible refine lt_ii ?_); (with_reducible refine tr_b ?_)
  refine ite_dec (fun hp => ?_) fun hp => ?_
  ·(with_reducible refine k_execs_cons ?_); refine k_Expr_any ?_; refine k_MethodCall ?_; (with_reducible refine k_Subscript ?_); refine name_L (by assumption) (by exact rfl) (mT (mT (mT (mT (mT (mT (mT (mT (mT mH))))))))) (mT (mT (mT (mT mH)))) ?_; refine name_L (by assumption) (by exact rfl) (mT (mT (mT (mT (mT (mT (mT (mT (mT mH))))))))) (mH) ?_
   refine ls_item S₁₁ (mT (mT (mT mH))) h0 (by (exact Int.lt_of_lt_of_le (by assumption) (by decide))) hrl ?_
   refine gm_listR PySem.F.slot_list_append PySem.F.type_list_append S₁₁ (U [] _).tail.tail.tail.tail.mem ?_
   refine cw_B ?_
   refine k_items_cons ?_; (with_reducible refine k_Subscript ?_); refine name_L (by assumption) (by exact rfl) (mT (mT (mT (mT (mT (mT (mT (mT (mT mH))))))))) (mT (mT (mT (mT (mT mH))))) ?_; (with_reducible refine k_BinOp ?_); refine name_L (by assumption) (by exact rfl) (mT (mT (mT (mT (mT (mT (mT (mT (mT mH))))))))) (mT (mT mH)) ?_; (with_reducible refine c_int ?_); refine mod_ii ?_
   refine lr_item S₁₁ (xs := menu) (y := menu.getD ((x.fdiv 40).fmod 52).toNat Str.empty) (mT (mT (mT (mT (mT (mT (mT (mT (mT (mT (by assumption))))))))))) (by assumption) (by (exact Int.lt_of_lt_of_le (by assumption) (by decide))) (getD_some (by lia)) (fun v hv => ?_)
   refine wpAny_items_nil ?_
   refine lr_append S₁₁ (U _ _).tail.tail.tail.tail hv (fun h₁₂ S₁₂ => ?_) (szS (by lia))
   try dsimp only
   (with_reducible refine wpAny_execs_nil ?_); (with_reducible refine wpAny_execs_nil ?_)
   have fin : W (i + 1) = upd (W i) (x.fmod 5).toNat (W i (x.fmod 5).toNat ++ [menu.getD ((x.fdiv 40).fmod 52).toNat Str.empty]) := by rw [hW, rowsStep, if_pos hp]
   refine LoopP.next (K := (c, lsR isI (ns ++ tens)) :: (rs, lsP [.ref r0, .ref r1, .ref r2, .ref r3, .ref r4]) :: (r4, lsR isS (W (i + 1) 4)) :: (r3, lsR isS (W (i + 1) 3)) :: (r2, lsR isS (W (i + 1) 2)) :: (r1, lsR isS (W (i + 1) 1)) :: (r0, lsR isS (W (i + 1) 0)) ::
     (L, nsP [("rows", .ref rs), ("menu", .ref mn)]) :: K) ⟨rfl, ?_⟩ ?_
   ·rw [fin]; exact lenUp _
   ·(refine (Eq.symm (fin)) ▸ ?_); exact S₁₂.wk (.drop (.keep (fun _ h => h) (.keep (fun _ h => h) (.keep (fun _ h => h) (.keep (fun _ h => h) (.keep (fun _ h => h) (.keep (fun _ h => h) (.keep (fun _ h => h) (.keep (fun _ h => h) (.keep (nsP_sub (.cons _ (.cons _ (.cons _ (.cons _ (List.Sublist.refl _)))))) (.refl)))))))))))
  ·(with_reducible refine k_execs_cons ?_); (with_reducible refine k_If ?_); (with_reducible refine wpAny_isTrue_BoolOp ?_); (with_reducible refine wpAny_allTrue_And_cons ?_); refine k_isTrue_Compare1 ?_; refine name_L (by assumption) (by exact rfl) (mT (mT (mT (mT (mT (mT (mT (mT (mT mH))))))))) (mH) ?_; (with_reducible refine c_int ?_); (with_reducible refine lt_ii ?_); (with_reducible refine tr_b ?_)
   refine ite_dec (fun hp2 => ?_) fun hp2 => ?_
   ·(with_reducible refine wpAny_allTrue_And_cons ?_); refine k_isTrue_Compare1 ?_; refine k_Call_Name_kw ?_
    refine name_B C S₁₁ C.b_len ?_
    refine cw_B ?_
    refine k_items_cons ?_
    refine e_comp rfl rfl (by decide) ?_
    (with_reducible refine k_Subscript ?_); refine name_L (by assumption) (by exact rfl) (mT (mT (mT (mT (mT (mT (mT (mT (mT mH))))))))) (mT (mT (mT (mT mH)))) ?_; refine name_L (by assumption) (by exact rfl) (mT (mT (mT (mT (mT (mT (mT (mT (mT mH))))))))) (mH) ?_
    refine ls_item S₁₁ (mT (mT (mT mH))) h0 (by (exact Int.lt_of_lt_of_le (by assumption) (by decide))) hrl ?_
    refine comp_fm (R := isS) (R' := isS) (xs := W i (x.fmod 5).toNat) (fun y => if inS abc y then some y else none) (by decide) rfl hh S₁₁ (U [] _).tail.tail.tail.tail.mem (szS (by lia)) ?_ ?_
    ·intro i' v y h₁₂ t₁₂ Cn D it' ys hy zr S₁₂ E'; obtain ⟨tv, rfl⟩ := zr
     refine asg_L (by assumption) (by exact rfl) (.head) (.new (by simp only [List.map_cons, List.map_nil]; decide)) ?_; intro h₁₃ S₁₃
     refine wpAny_tests_one ?_
     refine k_isTrue_Compare1 ?_; refine name_L (by assumption) (by exact rfl) (mH) (mH) ?_; (with_reducible refine c_str ?_); (with_reducible refine in_ss ?_); (with_reducible refine tr_b ?_)
     refine ite_b (fun e => ?_) fun e => ?_
     ·refine name_L (by assumption) (by exact rfl) (mH) (mH) ?_
      exact FE.mk y (by rw [inS, abc, e]; rfl) ⟨_, rfl⟩ S₁₃
     ·exact FN.mk (by rw [inS, abc, e]; rfl) S₁₃
    ·intro h₁₂ t₁₂ D S₁₂
     refine wpAny_items_nil ?_
     refine lr_len S₁₂ (mH) ?_ ?_
     ·rw [filterMap_if]
      (with_reducible refine c_int ?_); (with_reducible refine lt_ii ?_); (with_reducible refine tr_b ?_)
      refine ite_dec (fun hp3 => ?_) fun hp3 => ?_
      ·(with_reducible refine wpAny_allTrue_And_nil ?_); (with_reducible refine if_t ?_); (with_reducible refine k_execs_cons ?_); refine k_Expr_any ?_; refine k_MethodCall ?_; (with_reducible refine k_Subscript ?_); refine name_L (by assumption) (by exact rfl) (mT (mT (mT (mT (mT (mT (mT (mT (mT (mT mH)))))))))) (mT (mT (mT (mT mH)))) ?_; refine name_L (by assumption) (by exact rfl) (mT (mT (mT (mT (mT (mT (mT (mT (mT (mT mH)))))))))) (mH) ?_
       refine ls_item S₁₂ (mT (mT (mT (mT mH)))) h0 (by (exact Int.lt_of_lt_of_le (by assumption) (by decide))) hrl ?_
       refine gm_listR PySem.F.slot_list_append PySem.F.type_list_append S₁₂ (U [] _).tail.tail.tail.tail.tail.mem ?_
       refine cw_B ?_
       refine k_items_cons ?_; (with_reducible refine k_Subscript ?_); (with_reducible refine c_str ?_); (with_reducible refine k_BinOp ?_); (with_reducible refine k_BinOp ?_); refine name_L (by assumption) (by exact rfl) (mT (mT (mT (mT (mT (mT (mT (mT (mT (mT mH)))))))))) (mH) ?_; (with_reducible refine c_int ?_); (with_reducible refine add_ii ?_); (with_reducible refine k_BinOp ?_); refine name_L (by assumption) (by exact rfl) (mT (mT (mT (mT (mT (mT (mT (mT (mT (mT mH)))))))))) (mT (mT mH)) ?_; (with_reducible refine k_BinOp ?_); (with_reducible refine c_int ?_); refine name_L (by assumption) (by exact rfl) (mT (mT (mT (mT (mT (mT (mT (mT (mT (mT mH)))))))))) (mH) ?_; (with_reducible refine sub_ii ?_)
       have z0 := fmod_ge (x.fdiv 40) (n := 4 - x.fmod 5) (by lia)
       have z1 := fmod_lt (x.fdiv 40) (n := 4 - x.fmod 5) (by lia)
       refine mod_ii ?_ (by lia)
       (with_reducible refine add_ii ?_)
       refine str_item (fitsSsize_of (N := 100) (by omega) (by omega) (by decide)) ?_ ?_ ?_
       ·show -((5 : Nat) : Int) ≤ _; omega
       ·show _ < ((5 : Nat) : Int); omega
       refine wpAny_items_nil ?_
       refine lr_append S₁₂ (U _ _).tail.tail.tail.tail.tail ⟨_, rfl⟩ (fun h₁₃ S₁₃ => ?_) (szS (by lia))
       try dsimp only
       (with_reducible refine wpAny_execs_nil ?_); (with_reducible refine wpAny_execs_nil ?_); (with_reducible refine wpAny_execs_nil ?_)
       have fin : W (i + 1) = upd (W i) (x.fmod 5).toNat (W i (x.fmod 5).toNat ++ [Txt.item abc (x.fmod 5 + 1 + (x.fdiv 40).fmod (4 - x.fmod 5))]) := by rw [hW, rowsStep, if_neg hp, if_pos ⟨hp2, hp3⟩]
       refine LoopP.next (K := (c, lsR isI (ns ++ tens)) :: (rs, lsP [.ref r0, .ref r1, .ref r2, .ref r3, .ref r4]) :: (r4, lsR isS (W (i + 1) 4)) :: (r3, lsR isS (W (i + 1) 3)) :: (r2, lsR isS (W (i + 1) 2)) :: (r1, lsR isS (W (i + 1) 1)) :: (r0, lsR isS (W (i + 1) 0)) ::
         (L, nsP [("rows", .ref rs), ("menu", .ref mn)]) :: K) ⟨rfl, ?_⟩ ?_
       ·rw [fin]; exact lenUp _
       ·(refine (Eq.symm (fin)) ▸ ?_); exact S₁₃.wk (.drop (.drop (.keep (fun _ h => h) (.keep (fun _ h => h) (.keep (fun _ h => h) (.keep (fun _ h => h) (.keep (fun _ h => h) (.keep (fun _ h => h) (.keep (fun _ h => h) (.keep (fun _ h => h) (.keep (nsP_sub (.cons _ (.cons _ (.cons _ (.cons _ (List.Sublist.refl _)))))) (.refl))))))))))))
      ·(with_reducible refine if_f ?_); (with_reducible refine wpAny_execs_nil ?_); (with_reducible refine wpAny_execs_nil ?_); (with_reducible refine wpAny_execs_nil ?_)
       have fin : W (i + 1) = W i := by rw [hW, rowsStep, if_neg hp, if_neg (fun h => hp3 h.2)]
       refine LoopP.next (K := (c, lsR isI (ns ++ tens)) :: (rs, lsP [.ref r0, .ref r1, .ref r2, .ref r3, .ref r4]) :: (r4, lsR isS (W (i + 1) 4)) :: (r3, lsR isS (W (i + 1) 3)) :: (r2, lsR isS (W (i + 1) 2)) :: (r1, lsR isS (W (i + 1) 1)) :: (r0, lsR isS (W (i + 1) 0)) ::
         (L, nsP [("rows", .ref rs), ("menu", .ref mn)]) :: K) ⟨rfl, ?_⟩ ?_
       ·rw [fin]; exact fun k => Nat.le_succ_of_le (hl k)
       ·(refine (Eq.symm (fin)) ▸ ?_); exact S₁₂.wk (.drop (.drop (.keep (fun _ h => h) (.keep (fun _ h => h) (.keep (fun _ h => h) (.keep (fun _ h => h) (.keep (fun _ h => h) (.keep (fun _ h => h) (.keep (fun _ h => h) (.keep (fun _ h => h) (.keep (nsP_sub (.cons _ (.cons _ (.cons _ (.cons _ (List.Sublist.refl _)))))) (.refl))))))))))))
     ·have := List.length_filterMap_le (fun y => if inS abc y then some y else none) (W i (x.fmod 5).toNat); omega
   ·(with_reducible refine if_f ?_); (with_reducible refine wpAny_execs_nil ?_); (with_reducible refine wpAny_execs_nil ?_); (with_reducible refine wpAny_execs_nil ?_)
    have fin : W (i + 1) = W i := by rw [hW, rowsStep, if_neg hp, if_neg (by omega)]
    refine LoopP.next (K := (c, lsR isI (ns ++ tens)) :: (rs, lsP [.ref r0, .ref r1, .ref r2, .ref r3, .ref r4]) :: (r4, lsR isS (W (i + 1) 4)) :: (r3, lsR isS (W (i + 1) 3)) :: (r2, lsR isS (W (i + 1) 2)) :: (r1, lsR isS (W (i + 1) 1)) :: (r0, lsR isS (W (i + 1) 0)) ::
      (L, nsP [("rows", .ref rs), ("menu", .ref mn)]) :: K) ⟨rfl, ?_⟩ ?_
    ·rw [fin]; exact fun k => Nat.le_succ_of_le (hl k)
    ·(refine (Eq.symm (fin)) ▸ ?_); exact S₁₁.wk (.drop (.keep (fun _ h => h) (.keep (fun _ h => h) (.keep (fun _ h => h) (.keep (fun _ h => h) (.keep (fun _ h => h) (.keep (fun _ h => h) (.keep (fun _ h => h) (.keep (fun _ h => h) (.keep (nsP_sub (.cons _ (.cons _ (.cons _ (.cons _ (List.Sublist.refl _)))))) (.refl)))))))))))
end
section
noncomputable def dP {prog : Program} {w : World} {Kt : Type} [DecidableEq Kt] (knd : KeyKind prog w Kt) (c : Value) (od : Option Addr) (sl : Array (Option Value)) (kvs : List (Kt × Value)) : Pr :=
  fun o => o.cls = c ∧ o.dict = od ∧ o.slots = sl ∧ ∃ es ep, o.data = .dict es ep ∧ KeysOf knd es ∧ Pairs knd es.toList kvs ∧ (kvs.map (·.1)).Nodup
section
variable {prog : Program} {w : World} {A : Around} {E : Value → Shared → Prop} {h₀ h : Heap} {g : Array GenState} {d : Drawn} {t : Nat} {os : OsState} {K K' : Led} {Kt : Type} [DecidableEq Kt] {knd : KeyKind prog w Kt}
  {c : Value} {od : Option Addr} {sl : Array (Option Value)} {kvs : List (Kt × Value)} {a : Addr} {k : Kt} {key v : Value}
theorem mapDictKeys_parts {o : Obj} (f) : (o.mapDictKeys f).cls = o.cls ∧ (o.mapDictKeys f).dict = o.dict ∧ (o.mapDictKeys f).slots = o.slots := by
  obtain ⟨c, d, dt, sl⟩ := o; cases dt <;> exact ⟨rfl, rfl, rfl⟩
theorem find_val {es : Array DictEntry} (hp : Pairs knd es.toList kvs) (k : Kt) : ((es.findIdx? fun e => knd.is k e.key).bind fun i => es[i]?.map (·.val)) = valueAt kvs k := by
  have := findBy_of_findIdx? knd.is es k
  (refine (hp.find k) ▸ ?_)
  obtain ⟨l⟩ := es
  rw [show (List.toArray l).toList = l from rfl]
  have e2 : findBy knd.is (List.toArray l) k = (l.find? fun e => knd.is k e.key).map (·.val) := by simp [findBy]
  (refine (e2) ▸ ?_; refine (Eq.symm (this)) ▸ ?_)
  cases Array.findIdx? (fun e => knd.is k e.key) ({ toList := l } : Array DictEntry) <;> rfl
theorem d_get {Q : Option Value → Shared → Prop} (S : St h₀ K h) (m : (a, dP knd c od sl kvs) ∈ K) (hkey : knd.is k key = true) (q : Q (valueAt kvs k) ⟨h, g, d, t + 1, os⟩) :
    wpAny (model prog w) A (dictGet a key) Q E ⟨h, g, d, t, os⟩ := by
  refine xEAAAAEEAAA (S.get m) fun o ho zu2 zu3 zu4 es ep hd hk hp hn => ?_
  unfold dictGet
  try with_reducible refine wpAny_holding ?_
  refine wpAny_bind (knd.pyHash hkey (wpAny_bind (wpAny_dictFind_of (s := ⟨h, g, d, t + 1, os⟩) hkey ho hd hk ?_)))
  have fv := find_val hp k
  cases hi : es.findIdx? fun e => knd.is k e.key with
  | none => rw [hi] at fv; rw [← fv] at q; exact wpAny_pure q
  | some i => rw [hi] at fv; rw [← fv] at q; exact wpAny_bind (wpAny_dictEntries (s := ⟨h, g, d, t + 1, os⟩) ho hd (wpAny_pure q))
theorem d_take {Q : Option DictEntry → Shared → Prop} (S : St h₀ K h) (u : Up a (dP knd c od sl kvs) (dP knd c od sl (without kvs k)) K K') (hkey : knd.is k key = true)
    (hnone : valueAt kvs k = none → Q none ⟨h, g, d, t + 1, os⟩)
    (hsome : ∀ e, knd.is k e.key = true → valueAt kvs k = some e.val → ∀ h', St h₀ K' h' → Q (some e) ⟨h', g, d, t + 1, os⟩) (hsz : kvs.length ≤ sizeLine) :
    wpAny (model prog w) A (Builtin.Dict.takeOut a key) Q E ⟨h, g, d, t, os⟩ := by
  refine xEAAAAEEAAA (S.get u.mem) fun o ho hc hod hsl es ep hd hk hp hn => ?_
  have hes : es.size ≤ sizeLine := by have e1 := hp.length; have e2 : es.toList.length = es.size := by simp
                                      lia
  unfold Builtin.Dict.takeOut
  try with_reducible refine wpAny_holding ?_
  refine wpAny_bind (knd.pyHash hkey ?_)
  refine wpAny_bind (wpAny_dictFind_of (s := ⟨h, g, d, t + 1, os⟩) hkey ho hd hk ?_)
  cases hi : es.findIdx? fun e => knd.is k e.key with
  | none =>
    refine wpAny_pure (hnone ?_)
    rw [← hp.find k]
    have : (es.toList.find? fun e => knd.is k e.key) = none := by
      rw [List.find?_eq_none]
      intro e he
      have := Array.findIdx?_eq_none_iff.mp hi e (Array.mem_toList_iff.mp he)
      simpa using this
    rw [this]; rfl
  | some i =>
    have hl : (es.toList.findIdx? fun e => knd.is k e.key) = some i := by rw [← hi]; obtain ⟨l⟩ := es; simp
    refine xEAA (hp.at hl) fun e he hek hev => ?_
    refine wpAny_bind (wpAny_dictEntries (s := ⟨h, g, d, t + 1, os⟩) ho hd ?_)
    have he' : es[i]? = some e := by rw [← he]; obtain ⟨l⟩ := es; simp
    (refine (Eq.symm (he')) ▸ ?_)
    refine wpAny_bind (wpAny_updateDictKeys (hz := hes) (s := ⟨h, g, d, t + 1, os⟩) ho hd (wpAny_pure (hsome e hek hev _ (S.upd u (Heap.SameBut.update ..).extBut (Heap.get?_update_self _ ho (Obj.isFreed_of_dict (Obj.data_mapDictKeys hd _)))
      ⟨?_, ?_, ?_, _, ep + 1, Obj.data_mapDictKeys hd _, hk.erase _, ?_, nodup_without hn k⟩))))
    · rw [(mapDictKeys_parts _).1]; exact hc
    · rw [(mapDictKeys_parts _).2.1]; exact hod
    · rw [(mapDictKeys_parts _).2.2]; exact hsl
    · have := hp.erase hn hl
      obtain ⟨l⟩ := es
      simpa using this
theorem St.isDict (S : St h₀ K h) (m : (a, dP knd (.type "dict") none #[] kvs) ∈ K) : h.DictOf knd a kvs :=
  by refine xEAAAAEEAAA (S.get m) fun o ho hc hod hsl es ep hd hk hp hn => ?_; exact
  ⟨o, es, ep, ho, ⟨hc, hod, hsl⟩, hd, hk, hp, hn⟩
theorem dP_of {h' : Heap} (x : h'.DictOf knd a kvs) : ∃ o, h'.get? a = some o ∧ dP knd (.type "dict") none #[] kvs o :=
  by (revert x; intro zh; refine xEEEAA zh fun o es ep ho hc r => ?_; clear zh); exact
  ⟨o, ho, hc.1, hc.2.1, hc.2.2, es, ep, r⟩
theorem St.dictUp {kvs' : List (Kt × Value)} {h' : Heap} (S : St h₀ K h) (u : Up a (dP knd (.type "dict") none #[] kvs) (dP knd (.type "dict") none #[] kvs') K K') (x : h'.DictOf knd a kvs') (hs : Heap.ExtBut a h h') : St h₀ K' h' :=
  by refine xEA (dP_of x) fun zu0 e p => ?_; exact
  S.upd u hs e p
end
section
variable {prog : Program} {w : World} {A : Around} {E : Value → Shared → Prop} {s : Shared} {F : Frag} {C x : Addr} {o : Obj}
theorem check_method {M : Model} {i owner n : String} {self : Value} {rest : List Value} {kw : List (Str × Value)} {Q : Unit → Shared → Prop}
    (hk : builtinKind i = some .method) (hs : splitId i = some (owner, n)) (hi : Looks M s.heap (isInstance self (.type owner)) true) (ha : argsOk i ⟨self :: rest, kw⟩) (q : Q () s) :
    wpAny M A (checkBuiltinCall i ⟨self :: rest, kw⟩) Q E s := by
  simp only [checkBuiltinCall, hk, hs]
  refine wpAny_bind (hi.here ?_)
  simp only [Bool.not_true, Bool.false_eq_true, if_false]
  cases hsig : Manifest.signature? i with
  | none => exact wpAny_pure q
  | some sig =>
    simp only [argsOk, hsig] at ha
    have h2 : Bind.checkArgs i sig ⟨self :: rest, kw⟩ = pure () := ha
    show wpAny M A (Bind.checkArgs i sig ⟨self :: rest, kw⟩) Q E s
    rw [h2]; exact wpAny_pure q
theorem inst_looks {M : Model} {h : Heap} {owner : String} (X : F.In h) (hx : h.get? x = some o) (hc : o.cls = .ref C) (hs : mroIn F C (.type owner) = some true) : Looks M h (isInstance (.ref x) (.type owner)) true := by
  unfold isInstance
  refine Looks.andThen (a := .ref C) ?_ (looks_mroIn X hs)
  show Looks M h (loadPart x (some _) >>= _) _
  refine (Looks.ld hx).andThen ?_
  rw [hc]
  exact Looks.now
theorem type_looks {M : Model} {h : Heap} (hx : h.get? x = some o) : Looks M h (typeOf (.ref x)) o.cls := by
  show Looks M h (loadPart x (some _) >>= _) _
  exact (Looks.ld hx).andThen Looks.now
theorem call_IR {R : Result → Shared → Prop} {id owner n : String} {b : Builtin} {rest : List Value} (X : F.In s.heap) (hx : s.heap.get? x = some o) (hc : o.cls = .ref C) (hs : mroIn F C (.type owner) = some true)
    (hk : builtinKind id = some .slot ∨ builtinKind id = some .method) (hsp : splitId id = some (owner, n)) (hq : plainId id = true) (he : entryFor table id = some b) (ha : argsOk id ⟨.ref x :: rest, []⟩)
    (h : wpAny (model prog w) A.in1 (b ⟨.ref x :: rest, []⟩) (fun fin s' => match fin with | .done f => R (.ok f) s' | .again c' => c'.quiet = true ∧ codeAny (model prog w) A c' R s') (fun e s' => R (.error e) s') s) :
    codeAny (model prog w) A (.call (.builtin id) ⟨.ref x :: rest, []⟩) R s := by
  refine codeAny_call_builtin hq he ?_
  rcases hk with hk | hk
  · exact check_slot hk hsp (inst_looks X hx hc hs) ha h
  · exact check_method hk hsp (inst_looks X hx hc hs) ha h
theorem call_I {Q : Value → Shared → Prop} {id owner n : String} {b : Builtin} {rest : List Value} (X : F.In s.heap) (hx : s.heap.get? x = some o) (hc : o.cls = .ref C) (hs : mroIn F C (.type owner) = some true)
    (hk : builtinKind id = some .slot ∨ builtinKind id = some .method) (hsp : splitId id = some (owner, n)) (hq : plainId id = true) (he : entryFor table id = some b) (ha : argsOk id ⟨.ref x :: rest, []⟩)
    (h : wpAny (model prog w) A.in1 (b ⟨.ref x :: rest, []⟩) (fun fin s' => ∃ v, fin = .done (.ret v) ∧ Q v s') E s) :
    wpAny (model prog w) A (call (.builtin id) (.ref x :: rest)) Q E s := by
  refine wpAny_call (call_IR X hx hc hs hk hsp hq he ha (wpAny_mono h (fun fin s' z => ?_) fun _ _ z => z))
  (revert z; intro zh; refine xEA zh fun v zq1 z => ?_; clear zh; subst zq1)
  exact z
theorem special_B {name : Str} {id : String} {args : List Value} {Q : Option Value → Shared → Prop} (X : F.In s.heap) (hx : s.heap.get? x = some o) (hc : o.cls = .ref C) (hf : findIn F (.ref C) name = some (some (.builtin id)))
    (hty : typeIn F (.builtin id) = some (.type "wrapper_descriptor") ∨ typeIn F (.builtin id) = some (.type "method_descriptor"))
    (h : wpAny (model prog w) A (call (.builtin id) (.ref x :: args)) (fun v s' => Q (some v) s') E s) : wpAny (model prog w) A (callSpecial? (.ref x) name args) Q E s := by
  unfold callSpecial?
  refine wpAny_bind ?_
  unfold specialOf
  refine wpAny_bind ((type_looks hx).here ?_)
  rw [hc]
  refine (looks_findIn X hf).here ?_
  refine wpAny_holding (wpAny_bind ?_)
  have hb : Looks (model prog w) s.heap (bindSpecial (.builtin id) (.ref x)) (.builtin id, [.ref x]) := by
    unfold bindSpecial
    rcases hty with hty | hty
    · refine (looks_typeIn X hty).andThen ?_
      show Looks _ _ (if ((Value.type "wrapper_descriptor" == Value.type "function" || Value.type "wrapper_descriptor" == Value.type "method_descriptor" || Value.type "wrapper_descriptor" == Value.type "wrapper_descriptor") = true) then _ else _) _
      rw [if_pos (by decide)]; exact Looks.now
    · refine (looks_typeIn X hty).andThen ?_
      show Looks _ _ (if ((Value.type "method_descriptor" == Value.type "function" || Value.type "method_descriptor" == Value.type "method_descriptor" || Value.type "method_descriptor" == Value.type "wrapper_descriptor") = true) then _ else _) _
      rw [if_pos (by decide)]; exact Looks.now
  refine hb.here ?_
  show wpAny _ _ (call (.builtin id) (.ref x :: args) >>= fun v => pure (some v)) _ _ _
  exact wpAny_bind (wpAny_mono h (fun _ _ z => wpAny_pure z) fun _ _ z => z)
end
end
section
section facts
variable (w : World)
theorem fd_noSeq : noSeq (hd.heap_1 w.params) 108 = true := by k_is
theorem fd_mro_dict : mroIn (hd.heap_1 w.params) 108 (.type "dict") = some true := by k_is
theorem fd_mro_dd : mroIn (hd.heap_1 w.params) 108 (.type "collections.defaultdict") = some true := by k_is
theorem fd_getitem : findIn (hd.heap_1 w.params) (.ref 108) "__getitem__" = some (some (.builtin "dict.__getitem__")) := by k_is
theorem fd_missing : findIn (hd.heap_1 w.params) (.ref 108) "__missing__" = some (some (.ref 98)) := by k_is
theorem fn_missing : typeIn (hd.heap_1 w.params) (.ref 98) = some (.type "function") := by k_is
theorem ty_dict_getitem : typeIn (hd.heap_1 w.params) (.builtin "dict.__getitem__") = some (.type "method_descriptor") := by k_is
end facts
section
variable {w : World} {A : Around} {E : Value → Shared → Prop} {h₀ h : Heap} {g : Array GenState} {d : Drawn} {t : Nat} {os : OsState} {K K' : Led} {mg mb : Str → Option Value} {Kt : Type} [DecidableEq Kt] {knd : KeyKind PP w Kt}
 {od : Option Addr} {sl : Array (Option Value)} {kvs : List (Kt × Value)} {x : Addr} {k : Kt} {key v : Value}
theorem fd_getItem {Q : Value → Shared → Prop} (C : Cx w mg mb h₀) (S : St h₀ K h) (m : (x, dP knd (.ref 108) od sl kvs) ∈ K)
  (q : wpAny (model PP w) A.in1 (Builtin.«dict.__getitem__» ⟨[.ref x, key], []⟩) (fun fin s' => ∃ v, fin = .done (.ret v) ∧ Q v s') E ⟨h, g, d, t, os⟩) : wpAny (model PP w) A (getItem (.ref x) key) Q E ⟨h, g, d, t, os⟩ := by
 refine xEAA (S.get m) fun o ho hc zu3 => ?_
 have X := C.X.keeps S.keep
 unfold getItem sequenceKey
 have hx : (⟨h, g, d, t, os⟩ : Shared).heap.get? x = some o := ho
 refine wpAny_holding (wpAny_bind (wpAny_bind ((type_looks hx).here ?_)))
 (refine (Eq.symm (hc)) ▸ ?_)
 refine wpAny_bind ((anyM_none X (fd_noSeq w)).here ?_)
 rw [if_pos (show (!false) = true from rfl)]
 refine wpAny_pure (wpAny_bind (special_B X hx hc (fd_getitem w) (.inr (ty_dict_getitem w)) ?_))
 refine call_I (owner := "dict") (n := "__getitem__") X hx hc (fd_mro_dict w) (by decide +kernel) (by decide +kernel) (by decide +kernel) entry_dict_getitem (args_dict_getitem _ _) ?_
 exact wpAny_mono q (fun fin s' ⟨v, e, z⟩ => ⟨v, e, wpAny_pure z⟩) fun _ _ z => z
theorem fd_hit {Q : Value → Shared → Prop} (C : Cx w mg mb h₀) (S : St h₀ K h) (m : (x, dP knd (.ref 108) od sl kvs) ∈ K) (hkey : knd.is k key = true) (hv : valueAt kvs k = some v) (q : Q v ⟨h, g, d, t + 1, os⟩) :
  wpAny (model PP w) A (getItem (.ref x) key) Q E ⟨h, g, d, t, os⟩ := by
 refine fd_getItem C S m ?_
 show wpAny _ _ (dictGet x key >>= _) _ _ _
 refine wpAny_bind (d_get S m hkey ?_)
 rw [hv]
 exact wpAny_pure ⟨v, rfl, q⟩
theorem fd_miss {Q : Value → Shared → Prop} (C : Cx w mg mb h₀) (S : St h₀ K h) (m : (x, dP knd (.ref 108) od sl kvs) ∈ K) (hkey : knd.is k key = true) (hv : valueAt kvs k = none) (hs : (x == sysModules) = false)
  (q : wpAny (model PP w) A.in1 (call (.ref 98) [.ref x, key]) Q E ⟨h, g, d, t + 1, os⟩) :
  wpAny (model PP w) A (getItem (.ref x) key) Q E ⟨h, g, d, t, os⟩ := by
 refine fd_getItem C S m ?_
 show wpAny _ _ (dictGet x key >>= _) _ _ _
 refine wpAny_bind (d_get S m hkey ?_)
 rw [hv]
 show wpAny _ _ (Builtin.Dict.missed x key >>= _) _ _ _
 refine wpAny_bind (wpAny_missed_other hs ?_)
 refine xEAA (S.get m) fun o ho hc zu3 => ?_
 have X := C.X.keeps S.keep
 have hx : (⟨h, g, d, t + 1, os⟩ : Shared).heap.get? x = some o := ho
 refine wpAny_bind ((type_looks hx).here ?_)
 (refine (Eq.symm (hc)) ▸ ?_)
 show wpAny _ _ (if (Value.ref 108 != Value.type "dict") = true then _ else _) _ _ _
 rw [if_pos (by decide)]
 refine wpAny_bind ?_
 unfold callSpecial? specialOf
 refine wpAny_bind (wpAny_bind ((type_looks hx).here ?_))
 rw [hc]
 refine (looks_findIn X (fd_missing w)).here ?_
 refine wpAny_holding (wpAny_bind ((bind_fn X _ (fn_missing w)).here ?_))
 refine wpAny_bind (wpAny_mono q (fun v s z => ?_) fun _ _ z => z)
 exact wpAny_pure (wpAny_bind (wpAny_rule (wpAny_pure ⟨v, rfl, z⟩)))
end
end
section
theorem slot_md_get : Slot "method_descriptor" "__get__" "method_descriptor.__get__" := .of (owner := "method_descriptor") (n := "__get__") (by (rewrite [typeLookup_type]; refine (Eq.symm (builtinLookup_eq_fast)) ▸ ?_); kernel_rfl) (by decide +kernel) (by decide +kernel) (by decide +kernel)
 (by first | exact .inl (by decide +kernel) | exact .inr (by decide +kernel)) (by rw [isSubtype_type]; kernel_rfl)
theorem entry_md_get : entryFor table "method_descriptor.__get__" = some Builtin.«method_descriptor.__get__» := entryFor_of_tree (by kernel_rfl)
theorem args_md_get (a b c : Value) : argsOk "method_descriptor.__get__" ⟨[a, b, c], []⟩ := by unfold argsOk; kernel_rfl
theorem ty_dd_missing : typeOf (.builtin "collections.defaultdict.__missing__") = pure (.type "method_descriptor") := by show builtinType _ = _; rw [builtinType_eq_fast]; kernel_rfl
noncomputable abbrev bfObj (id : String) (x : Addr) : Obj := { cls := .type "builtin_function_or_method", data := .fields #[.builtin id, .ref x] }
section
variable {prog : Program} {w : World} {M : Model} {A : Around} {E : Value → Shared → Prop} {h : Heap} {g : Array GenState} {d : Drawn} {t : Nat} {os : OsState}
theorem md_get_missing {x C : Addr} {o : Obj} {Q : Fin → Shared → Prop} (F : Frag) (X : F.In h) (hx : h.get? x = some o) (hc : o.cls = .ref C) (hs : mroIn F C (.type "collections.defaultdict") = some true)
  (hq : Q (.done (.ret (.ref h.objs.size))) ⟨h.push (bfObj "collections.defaultdict.__missing__" x), g, d, t, os⟩) :
  wpAny (model prog w) A (Builtin.«method_descriptor.__get__» ⟨[.builtin "collections.defaultdict.__missing__", .ref x, .ref C], []⟩) Q E ⟨h, g, d, t, os⟩ := by
 have L1 := inst_looks (M := model prog w) X hx hc hs
 have e1 : Manifest.toldItsClass.contains "collections.defaultdict.__missing__" = false := by decide +kernel
 unfold Builtin.«method_descriptor.__get__»
 refine wpAny_bind ?_
 repeat k_node
 have e2 : ".".intercalate ("collections.defaultdict.__missing__".cutAt '.').dropLast = "collections.defaultdict" := by decide +kernel
 (refine (Eq.symm (e2)) ▸ ?_)
 refine nd_bind (nd_bind (nd_bind (nd_bind (nd_pure (wpAny_pure ?_)))))
 rw [hc]
 refine (looks_mroIn X hs).at ?_
 rw [if_neg (by decide)]
 refine wpAny_pure (wpAny_bind ?_)
 unfold newFields
 refine wpAny_newObj_type ?_ (by size_fits)
 exact wpAny_pure hq
theorem sg_missing {so D x C : Addr} {ox : Obj} {l₀ l : List Value} {K : Frag} {tk : Tok} {Q : Fin → Shared → Prop}
  (hso : h.get? so = some (ks_superObj D x C)) (hno : Looks (model prog w) h (opaqueClassAbove (.ref C)) none)
  (hC : Looks (model prog w) h (mroOf (.ref C)) l₀) (hl : (l₀.dropWhile (· != .ref D)).drop 1 = l) (X : K.In h)
  (hf : alongIn K "__missing__" l = some (some (.builtin "collections.defaultdict.__missing__"))) (hx : h.get? x = some ox) (hxc : ox.cls = .ref C) (hs : mroIn K C (.type "collections.defaultdict") = some true) (hxC : x ≠ C)
  (hq : Q (.done (.ret (.ref h.objs.size))) ⟨h.push (bfObj "collections.defaultdict.__missing__" x), g, d, t, os⟩) :
  wpAny (model prog w) A (Builtin.«super.__getattribute__» ⟨[.ref so, .str "__missing__" tk], []⟩) Q E ⟨h, g, d, t, os⟩ := by
 have hlk := slot_md_get.lookup
 have hne : (Value.ref x == Value.ref C) = false := by simp [hxC]
 have hdt : (ks_superObj D x C).data = .fields #[.ref D, .ref x, .ref C] := rfl
 have f0 : (#[.ref D, .ref x, .ref C] : Array Value)[0]? = some (.ref D) := rfl
 have f1 : (#[.ref D, .ref x, .ref C] : Array Value)[1]? = some (.ref x) := rfl
 have f2 : (#[.ref D, .ref x, .ref C] : Array Value)[2]? = some (.ref C) := rfl
 have hn : (Str.ofString "__missing__" == Str.ofString "__class__") = false := by decide
 have hty := ty_dd_missing
 unfold Builtin.«super.__getattribute__»
 repeat (first
  | (with_reducible refine wpAny_field hso hdt f0 ?_) | (with_reducible refine wpAny_field hso hdt f1 ?_) | (with_reducible refine wpAny_field hso hdt f2 ?_)
  | (with_reducible refine ks_wpAny_notOpaque hno ?_)
  | (with_reducible refine Looks.at hC ?_; (refine (Eq.symm (hl)) ▸ ?_))
  | (refine ks_forIn_along X (fun _ _ => rfl) rfl ?_ hf)
  | (with_reducible refine wpAny_of_eq hty ?_)
  | (with_reducible refine wpAny_call_entry slot_md_get ty_dd_missing entry_md_get ?_ (args_md_get _ _ _))
  | (with_reducible refine md_get_missing K X hx hxc hs ?_)
  | (with_reducible refine ⟨_, rfl, ?_⟩)
  | (simp only [hn, hne, Bool.or_false, Bool.false_eq_true, if_false])
  | wp_step
  | dsimp only)
 refine codeAny_call_builtin slot_md_get.plain entry_md_get (slot_md_get.check _ _ _ _ _ _ _ _ ty_dd_missing (args_md_get _ _ _) (md_get_missing K X hx hxc hs ?_))
 exact wpAny_bind (wpAny_pure (wpAny_pure (wpAny_pure hq)))
theorem getAttr_super_missing {so D x C : Addr} {ox : Obj} {l₀ l : List Value} {K : Frag} {ex : Bool} {Q : Value → Shared → Prop}
  (hso : h.get? so = some (ks_superObj D x C)) (hno : Looks (model prog w) h (opaqueClassAbove (.ref C)) none)
  (hC : Looks (model prog w) h (mroOf (.ref C)) l₀) (hl : (l₀.dropWhile (· != .ref D)).drop 1 = l) (X : K.In h)
  (hf : alongIn K "__missing__" l = some (some (.builtin "collections.defaultdict.__missing__"))) (hx : h.get? x = some ox) (hxc : ox.cls = .ref C) (hs : mroIn K C (.type "collections.defaultdict") = some true) (hxC : x ≠ C)
  (hq : Q (.ref h.objs.size) ⟨h.push (bfObj "collections.defaultdict.__missing__" x), g, d, t + 1, os⟩) :
  wpAny (model prog w) A (getAttr (.ref so) "__missing__" ex) Q E ⟨h, g, d, t, os⟩ := by
 have hlk := F.ks_slot_super_ga.lookup
 have hT : ∀ t', (⟨h, g, d, t', os⟩ : Shared).TypeIs (.ref so) "super" := fun _ => ⟨_, hso, rfl⟩
 unfold getAttr getAttrBy
 refine wpAny_bind (wpAny_mkText (wpAny_holding (wpAny_bind (wpAny_typeOf (hT _) (wpAny_bind (wpAny_of_eq hlk ?_))))))
 show wpAny _ _ (getAttrByItsOwn (.ref so) (.str "__missing__" t) (.type "super") (.builtin "super.__getattribute__") true ex) _ _ _
 unfold getAttrByItsOwn hookBefore callGetattribute boundAndCalled
 refine wpAny_bind (wpAny_of_eq (show (if onTheHeap (.type "super") then typeLookup (.type "super") "__getattr__" else pure none) = pure none from rfl) ?_)
 refine wpAny_bind (wpAny_attempt (wpAny_holding ?_))
 (refine (Eq.symm (show (ex && onTheHeap (.builtin "super.__getattribute__")) = false by cases ex <;> rfl)) ▸ ?_)
 show wpAny _ _ (bindSpecial (.builtin "super.__getattribute__") (.ref so) >>= _) _ _ _
 refine wpAny_bind (wpAny_of_eq (F.ks_slot_super_ga.bind _) ?_)
 refine wpAny_mono (Q := fun v s' => v = .ref h.objs.size ∧ s' = ⟨h.push (bfObj "collections.defaultdict.__missing__" x), g, d, t + 1, os⟩) (E := fun _ _ => False)
  (wpAny_call_entry F.ks_slot_super_ga (hT _) F.ks_entry_super_ga (sg_missing hso hno hC hl X hf hx hxc hs hxC ⟨_, rfl, rfl, rfl⟩) (F.ks_gaArgs_super _ _)) (fun v s' hv => ?_) fun _ _ z => z.elim
 obtain ⟨rfl, rfl⟩ := hv
 exact wpAny_pure hq
end
end
section
open Builtin.ObjectAttr
noncomputable def fzP (fr : Option Value) : Pr := fun o => ∃ es n, o = dictOf es n ∧ match fr with
 | none => es = []
 | some v => ∃ hsh t, es = [⟨hsh, .str "_frozen" t, v⟩]
theorem fz_look {fr : Option Value} {o : Obj} (p : fzP fr o) : lookIn "_frozen" o = some fr := by
 (revert p; intro zh; refine xEEA zh fun es n zq2 q => ?_; clear zh; subst zq2)
 cases fr with
 | none => subst q; rfl
 | some v => (revert q; intro zh; refine xEE zh fun hsh t zq2 => ?_; clear zh; subst zq2); rfl
theorem fz_miss {fr : Option Value} {o : Obj} {name : Str} (p : fzP fr o) (hn : (Str.ofString "_frozen" == name) = false) : lookIn name o = some none := by
 (revert p; intro zh; refine xEEA zh fun es n zq2 q => ?_; clear zh; subst zq2)
 cases fr with
 | none => subst q; rfl
 | some v =>
  (revert q; intro zh; refine xEE zh fun hsh t zq2 => ?_; clear zh; subst zq2)
  have e : (Value.str (Str.ofString "_frozen") t).isStr name = false := hn
  rw [lookIn_dict]
  unfold getL
  rw [List.find?_cons]
  dsimp only
  (refine (Eq.symm (e)) ▸ ?_)
  rfl
section
variable (w : World)
theorem fd_ga : findIn (hd.heap_1 w.params) (.ref 108) "__getattribute__" = some (some (.builtin "collections.defaultdict.__getattribute__")) := by k_is
theorem ty_dd_ga : typeIn (hd.heap_1 w.params) (.builtin "collections.defaultdict.__getattribute__") = some (.type "wrapper_descriptor") := by k_is
theorem fd_gh : findIn (hd.heap_1 w.params) (.ref 108) "__getattr__" = some none := by k_is
theorem fd_hasDict : hasDictIn (hd.heap_1 w.params) 108 = true := by k_is
theorem fd_frozen : findIn (hd.heap_1 w.params) (.ref 108) "_frozen" = some none := by k_is
theorem fd_not_ordered : mroIn (hd.heap_1 w.params) 108 (.type "collections.OrderedDict") = some false := by k_is
theorem fd_not_module : mroIn (hd.heap_1 w.params) 108 (.type "module") = some false := by k_is
theorem ex_look {K : Frag} {a : Addr} {o : Obj} {P : Obj → Prop} (h : K.lookup a = some o) (p : P o) : ∃ o, K.lookup a = some o ∧ P o := ⟨o, h, p⟩
theorem fd_cls0 : ∃ o, (hd.heap_1 w.params).lookup 108 = some o ∧ (match o.data with | .cls cd => (cd.name = Str.ofString "FreezableDefaultDict" ∧ cd.qualname = Str.ofString "FreezableDefaultDict") | _ => False) := by
 refine' ex_look (P := fun o => match o.data with | .cls cd => (cd.name = Str.ofString "FreezableDefaultDict" ∧ cd.qualname = Str.ofString "FreezableDefaultDict") | _ => False) ?h ?n
 case h => k_is
 case n => exact ⟨rfl, rfl⟩
theorem fd_cls : ∃ cd, clsIn (hd.heap_1 w.params) 108 = some cd ∧ (cd.name = Str.ofString "FreezableDefaultDict" ∧ cd.qualname = Str.ofString "FreezableDefaultDict") := by
 refine xEA (fd_cls0 w) fun o e n => ?_
 obtain ⟨oc, od, dt, sl⟩ := o
 cases dt <;> try exact n.elim
 rename_i cd
 exact ⟨cd, by unfold clsIn; rw [e], n⟩
end
theorem entry_dd_ga : entryFor table "collections.defaultdict.__getattribute__" = some Builtin.«object.__getattribute__» :=
 entryFor_alias (id' := "object.__getattribute__") (by kernel_rfl) (by decide +kernel) (by decide +kernel) (by kernel_rfl)
theorem args_dd_ga (a b : Value) : argsOk "collections.defaultdict.__getattribute__" ⟨[a, b], []⟩ := by unfold argsOk; kernel_rfl
theorem bind_dd_ga (a : Value) : bindSpecial (.builtin "collections.defaultdict.__getattribute__") a = pure (.builtin "collections.defaultdict.__getattribute__", [a]) := by
 unfold bindSpecial
 rw [show typeOf (.builtin "collections.defaultdict.__getattribute__") = pure (.type "wrapper_descriptor") by show builtinType _ = _; rw [builtinType_eq_fast]; kernel_rfl]
 rfl
theorem findObj_none {K : Frag} {C : Addr} {od : Obj} {name : Str} (hh : hasDictIn K C = true) (ha : findIn K (.ref C) name = some none) (hc : copiedNames.contains name = false) (hl : lookIn name od = some none) :
  findObj K C (some od) name = some .missing := by
 refine xEA (any_some hh) fun cd hc' hd => ?_
 unfold findObj
 have ho : W.ownOf cd (some od) name = some none := by unfold W.ownOf; rw [if_pos hd]; exact hl
 (refine (Eq.symm (hc')) ▸ ?_; rewrite [Option.bind_some]; refine (Eq.symm (ha)) ▸ ?_; rewrite [Option.bind_some])
 simp only [Option.bind_some, ho, hc, Bool.false_and, Bool.false_eq_true, if_false]
section
variable {w : World} {A : Around} {E : Value → Shared → Prop} {h₀ h : Heap} {g : Array GenState} {d : Drawn} {t : Nat} {os : OsState} {K K' : Led} {mg mb : Str → Option Value} {Kt : Type} [DecidableEq Kt] {knd : KeyKind PP w Kt}
 {dx : Addr} {sl : Array (Option Value)} {kvs : List (Kt × Value)} {x : Addr} {k : Kt} {key v : Value} {fr : Option Value} {name : Str}
theorem St.fd (S : St h₀ K h) (m : (x, dP knd (.ref 108) (some dx) sl kvs) ∈ K) (md : (dx, fzP fr) ∈ K) : ∃ o od, InstAt h x o 108 (some od) ∧ o.dict = some dx ∧ h.get? dx = some od ∧ fzP fr od := by
 refine xEAAAAEEA (S.get m) fun o ho hc hod hsl es ep hd zu8 => ?_
 refine xEA (S.get md) fun od hdx p => ?_
 refine ⟨o, od, ⟨ho, hc, ?_, ?_⟩, hod, hdx, p⟩
 ·obtain ⟨c, dd, dt, s⟩ := o; cases hd; rfl
 ·rw [hod]; exact hdx
theorem fd_by {Q : Value → Shared → Prop} {o od : Obj} {tk : Tok} {fl ex : Bool} (C : Cx w mg mb h₀) (S : St h₀ K h) (I : InstAt h x o 108 (some od))
  (q : wpAny (model PP w) A.in1 (Builtin.«object.__getattribute__» ⟨[.ref x, .str name tk], []⟩) (fun fin s' => ∃ v, fin = .done (.ret v) ∧ wpAny (model PP w) A (handedOut v) Q E s')
   (fun e s' => wpAny (model PP w) A (getattributeRaised (.ref x) (.str name tk) (.ref 108) e none fl ex) Q E s') ⟨h, g, d, t, os⟩) :
  wpAny (model PP w) A (getAttrBy (.ref x) (.str name tk) fl ex) Q E ⟨h, g, d, t, os⟩ := by
 have X := C.X.keeps S.keep
 have L0 := I.type (M := model PP w)
 have L1 := looks_findIn (M := model PP w) X (fd_ga w)
 have L2 := looks_findIn (M := model PP w) X (fd_gh w)
 unfold getAttrBy
 refine wpAny_holding (wpAny_bind (L0.at (wpAny_bind (L1.at ?_))))
 show wpAny _ _ (getAttrByItsOwn _ _ _ _ _ _) _ _ _
 unfold getAttrByItsOwn hookBefore callGetattribute boundAndCalled
 refine wpAny_bind ?_
 rw [if_pos (show onTheHeap (.ref 108) = true from rfl)]
 refine L2.at ?_
 refine wpAny_bind (wpAny_attempt (wpAny_holding ?_))
 (refine (Eq.symm (show (ex && onTheHeap (.builtin "collections.defaultdict.__getattribute__")) = false by cases ex <;> rfl)) ▸ ?_; rewrite [bind_dd_ga])
 refine wpAny_bind (wpAny_pure ?_)
 refine call_I (owner := "collections.defaultdict") (n := "__getattribute__") X I.at_ I.cls (fd_mro_dd w) (by decide +kernel) (by decide +kernel) (by decide +kernel) entry_dd_ga (args_dd_ga _ _) ?_
 exact q
theorem fd_attr_hit {Q : Value → Shared → Prop} {tk : Tok} {fl ex : Bool} (C : Cx w mg mb h₀) (S : St h₀ K h) (m : (x, dP knd (.ref 108) (some dx) sl kvs) ∈ K) (md : (dx, fzP (some v)) ∈ K) (hv : handedIn v = true) (q : Q v ⟨h, g, d, t, os⟩) :
  wpAny (model PP w) A (getAttrBy (.ref x) (.str "_frozen" tk) fl ex) Q E ⟨h, g, d, t, os⟩ := by
 refine xEEAAA (S.fd m md) fun o od I zu3 zu4 p => ?_
 have X := C.X.keeps S.keep
 have hf := findObj_own (K := hd.heap_1 w.params) (C := 108) (fd_hasDict w) (fd_frozen w) (by rfl) (fz_look p)
 have L0 := I.type (M := model PP w)
 have L2 := looks_find (M := model PP w) X I hf
 refine fd_by C S I ?_
 refine wpAny_bind (wpAny_pure ?_)
 refine wpAny_bind (wpAny_pure (wpAny_bind (L0.at (wpAny_bind (L2.at ?_)))))
 refine wpAny_pure ⟨v, rfl, ?_⟩
 rw [handedOut_of hv]; exact wpAny_pure q
theorem fd_attr_miss {Q : Value → Shared → Prop} {tk : Tok} {ex : Bool} (C : Cx w mg mb h₀) (S : St h₀ K h) (m : (x, dP knd (.ref 108) (some dx) sl kvs) ∈ K) (md : (dx, fzP none) ∈ K) (hh : A.handled = none)
  (q : ∀ h' tk' e, Heap.NewAttrErr h h' e (.ref x) "_frozen" → E (.ref e) ⟨h', g, d, tk', os⟩) :
  wpAny (model PP w) A (getAttrBy (.ref x) (.str "_frozen" tk) false ex) Q E ⟨h, g, d, t, os⟩ := by
 refine xEEAAA (S.fd m md) fun o od I zu3 zu4 p => ?_
 have X := C.X.keeps S.keep
 have hf := findObj_none (K := hd.heap_1 w.params) (C := 108) (fd_hasDict w) (fd_frozen w) (by decide +kernel) (fz_look p)
 have L0 := I.type (M := model PP w)
 have L2 := looks_find (M := model PP w) X I hf
 refine fd_by C S I ?_
 refine wpAny_bind (wpAny_pure ?_)
 refine wpAny_bind (wpAny_pure (wpAny_bind (L0.at (wpAny_bind (L2.at ?_)))))
 refine xEAA (fd_cls w) fun cd hcd hnm zu3 => ?_
 have L4 := looks_clsIn (M := model PP w) X hcd
 dsimp only
 rw [if_neg (by decide), if_neg (by decide)]
 unfold noSuchAttribute typeNameOfCut shownTypeOf
 refine wpAny_bind (wpAny_bind (wpAny_bind (L0.at ?_)))
 rw [if_neg (by decide)]
 refine wpAny_pure ?_
 refine wpAny_bind (L4.at ?_)
 rw [hnm, if_pos (by decide +kernel)]
 refine wpAny_pure ?_
 refine wpAny_raiseAttrError hh ?_ (szS (by decide +kernel))
 intro h' tk' e hx'
 refine xEE (hx'.there) fun t' u' he => ?_
 unfold getattributeRaised
 refine wpAny_bind ((show Looks (model PP w) h' (isInstance (.ref e) (.type "AttributeError")) true from ?_).at ?_)
 ·unfold isInstance
  exact (type_looks he).andThen (Looks.of_pure sub_AttributeError)
 rw [if_pos rfl]
 refine wpAny_bind (wpAny_of_eq (a := none) (by unfold hookBehind; rfl) ?_)
 unfold hookOrError attributeErrorLeaves
 dsimp only
 rw [if_pos (by rfl)]
 exact wpAny_throw (q _ _ _ hx')
theorem getattr_frozen {Q : Value → Shared → Prop} {tk : Tok} (C : Cx w mg mb h₀) (S : St h₀ K h) (m : (x, dP knd (.ref 108) (some dx) sl kvs) ∈ K) (md : (dx, fzP fr) ∈ K) (hh : A.handled = none) (hfr : ∀ u, fr = some u → handedIn u = true)
  (q : ∀ h' t', St h₀ K h' → Q (fr.getD v) ⟨h', g, d, t', os⟩) :
  wpAny (model PP w) A (call (.builtin "getattr") [.ref x, .str "_frozen" tk, v]) Q E ⟨h, g, d, t, os⟩ := by
 refine Calls.call_function_entry KB.kind_getattr KB.plain_getattr KB.entry_getattr (by unfold argsOk; kernel_rfl) ?_
 unfold Builtin.«getattr»
 refine wpAny_bind (wpAny_of_eq (a := [.ref x, .str "_frozen" tk, v]) (by first | rfl | kernel_rfl) ?_)
 dsimp only
 refine wpAny_bind (wpAny_of_eq (a := ()) (by first | rfl | kernel_rfl) ?_)
 refine wpAny_bind (wpAny_of_eq (a := none) (by first | rfl | kernel_rfl) ?_)
 dsimp only
 refine xEEAAA (S.fd m md) fun o od I zu3 zu4 p => ?_
 have X := C.X.keeps S.keep
 have L0 := I.type (M := model PP w)
 have L5 : Looks (model PP w) h (isInstance (.ref x) (.type "module")) false := by
  unfold isInstance
  exact L0.andThen (looks_mroIn X (fd_not_module w))
 refine wpAny_bind ?_
 refine wpAny_bind (wpAny_of_eq (a := some (Str.ofString "_frozen")) (by first | rfl | kernel_rfl) ?_)
 dsimp only
 refine wpAny_bind (L5.at ?_)
 rw [if_pos (by decide)]
 refine wpAny_pure ?_
 rw [if_neg (by decide)]
 unfold getAttrBy?
 cases fr with
 | some u =>
  refine wpAny_bind (wpAny_bind (wpAny_attempt (fd_attr_hit C S m md (hfr u rfl) ?_)))
  exact wpAny_pure (wpAny_pure ⟨_, rfl, q h t S⟩)
 | none =>
  refine wpAny_bind (wpAny_bind (wpAny_attempt (fd_attr_miss C S m md hh fun h' tk' e hx' => ?_)))
  refine xEE (hx'.there) fun t' u' he => ?_
  refine wpAny_bind ((show Looks (model PP w) h' (isInstance (.ref e) (.type "AttributeError")) true from ?_).at ?_)
  ·unfold isInstance
   exact (type_looks he).andThen (Looks.of_pure sub_AttributeError)
  rw [if_pos rfl]
  refine wpAny_pure ?_
  dsimp only
  rw [if_neg (by decide)]
  exact wpAny_pure ⟨_, rfl, q h' tk' (S.ext hx'.keeps)⟩
end
end
section
open Builtin.ObjectAttr
theorem wpAny_callBorrowed {M : Model} {A : Around} {f : Value} {pos : List Value} {Q E : Value → Shared → Prop} {s : Shared} (h : wpAny M A (call f pos) Q E s) : wpAny M A (callBorrowed f pos) Q E s := fun Γ p hΓ => by
  have z := h Γ p hΓ
  rw [Sem.wp_cmd_call] at z
  show wpCode M (Γ.enter (.call f ⟨pos, []⟩) none p) _ p s
  refine cast (congrArg (fun R => wpCode M (Γ.enter (.call f ⟨pos, []⟩) none p) R p s) ?_) z
  funext r s'
  cases r with
  | error e => rfl
  | ok f => cases f <;> rfl
theorem entry_ddm : entryFor table "collections.defaultdict.__missing__" = some Builtin.«collections.defaultdict.__missing__» := entryFor_of_tree (by kernel_rfl)
theorem entry_setdefault : entryFor table "dict.setdefault" = some Builtin.«dict.setdefault» := entryFor_of_tree (by kernel_rfl)
theorem plain_ddm : plainId "collections.defaultdict.__missing__" = true := by decide +kernel
theorem plain_setdefault : plainId "dict.setdefault" = true := by decide +kernel
section
variable {w : World} {A : Around} {E : Value → Shared → Prop} {h₀ h : Heap} {g : Array GenState} {d : Drawn} {t : Nat} {os : OsState} {K K' : Led} {mg mb : Str → Option Value} {Kt : Type} [DecidableEq Kt] {knd : KeyKind PP w Kt}
  {dx : Addr} {sl : Array (Option Value)} {kvs : List (Kt × Value)} {x f : Addr} {k : Kt} {key v : Value} {fr : Option Value} {name : Str}
theorem fd_inst_dict {M : Model} {ob : String} (C : Cx w mg mb h₀) (S : St h₀ K h) (m : (x, dP knd (.ref 108) (some dx) sl kvs) ∈ K) (hs : mroIn (hd.heap_1 w.params) 108 (.type ob) = some b) : Looks M h (isInstance (.ref x) (.type ob)) b := by
  refine xEAA (S.get m) fun o ho hc zu3 => ?_
  unfold isInstance
  refine Looks.andThen (a := .ref 108) ?_ (looks_mroIn (C.X.keeps S.keep) hs)
  exact hc ▸ type_looks ho
theorem fd_notOrdered {nm : String} {rest : List Value} {Q : Unit → Shared → Prop} (C : Cx w mg mb h₀) (S : St h₀ K h) (m : (x, dP knd (.ref 108) (some dx) sl kvs) ∈ K) (q : Q () ⟨h, g, d, t, os⟩) :
    wpAny (model PP w) A (Builtin.Dict.notOrdered nm ⟨.ref x :: rest, []⟩) Q E ⟨h, g, d, t, os⟩ := by
  have L1 := fd_inst_dict (M := model PP w) C S m (fd_not_ordered w)
  refine xEAA (S.get m) fun o ho hc zu3 => ?_
  have L0 := hc ▸ type_looks (M := model PP w) ho
  unfold Builtin.Dict.notOrdered
  split
  · refine wpAny_bind (L0.at ?_)
    rw [if_pos (by decide)]
    refine wpAny_bind (L1.at ?_)
    rw [if_neg (by decide)]
    exact wpAny_pure q
  · exact wpAny_pure q
theorem fd_setdefault {R : Result → Shared → Prop} (C : Cx w mg mb h₀) (S : St h₀ K h) (u : Up x (dP knd (.ref 108) (some dx) sl kvs) (dP knd (.ref 108) (some dx) sl (kvs ++ [(k, v)])) K K') (hkey : knd.is k key = true) (hs : (x == sysModules) = false)
    (hv : valueAt kvs k = none) (hsz : kvs.length ≤ sizeLine) (q : ∀ h', St h₀ K' h' → R (.ok (.ret v)) ⟨h', g, d, t + 1, os⟩) :
    codeAny (model PP w) A (.builtin "dict.setdefault" ⟨[.ref x, key, v], []⟩) R ⟨h, g, d, t, os⟩ := by
  refine codeAny_builtin entry_setdefault ?_
  rw [Around.under_plainId plain_setdefault]
  unfold Builtin.«dict.setdefault» Builtin.Dict.keyAndDefault
  refine wpAny_bind (wpAny_bind (fd_notOrdered C S u.mem ?_))
  refine wpAny_bind (wpAny_of_eq (a := ()) (by first | rfl | kernel_rfl) ?_)
  refine wpAny_bind (wpAny_of_eq (a := (.ref x, [key, v])) (by first | rfl | kernel_rfl) ?_)
  refine wpAny_bind (wpAny_pure (wpAny_pure ?_))
  dsimp only
  rw [if_neg (by rw [hs]; decide)]
  refine wpAny_bind ?_
  unfold dictSetDefault
  try with_reducible refine wpAny_holding ?_
  refine wpAny_bind (knd.pyHash hkey ?_)
  refine xEAAAAEEAAA (S.get u.mem) fun o ho hc hod hsl es ep hd hk hp hn => ?_
  have hes : es.size ≤ sizeLine := by have e1 := hp.length; have e2 : es.toList.length = es.size := by simp
                                      lia
  refine wpAny_bind (wpAny_dictFind_of (s := ⟨h, g, d, t + 1, os⟩) hkey ho hd hk ?_)
  have fv := find_val hp k
  have hidx : (es.findIdx? fun e => knd.is k e.key) = kvs.findIdx? fun kv => decide (kv.1 = k) := by
    rw [← hp.findIdx k]; obtain ⟨l⟩ := es; simp
  cases hi : es.findIdx? fun e => knd.is k e.key with
  | some i =>
    exfalso
    have hl : (es.toList.findIdx? fun e => knd.is k e.key) = some i := by rw [← hi]; obtain ⟨l⟩ := es; simp
    refine xEAA (hp.at hl) fun e he hek hev => ?_
    rw [hv] at hev; cases hev
  | none =>
    have hnot : k ∉ kvs.map (·.1) := not_mem_of_findIdx_none (hidx ▸ hi)
    refine wpAny_bind (wpAny_rule (wpAny_bind ?_))
    refine wpAny_updateDictKeys (hz := hes) (s := ⟨h, g, d, t + 1, os⟩) ho hd ?_
    refine wpAny_pure (wpAny_pure (q _ (S.upd u (Heap.SameBut.update ..).extBut (Heap.get?_update_self _ ho (Obj.isFreed_of_dict (Obj.data_mapDictKeys hd _)))
      ⟨?_, ?_, ?_, _, ep + 1, Obj.data_mapDictKeys hd _, hk.push hkey _, ?_, ?_⟩)))
    · rw [(mapDictKeys_parts _).1]; exact hc
    · rw [(mapDictKeys_parts _).2.1]; exact hod
    · rw [(mapDictKeys_parts _).2.2]; exact hsl
    · have := hp.append hkey (knd.hash k) v
      obtain ⟨l⟩ := es
      simpa using this
    · rw [List.map_append, List.nodup_append]
      refine ⟨hn, by simp, ?_⟩
      intro a ha b hb
      simp only [List.map_cons, List.map_nil, List.mem_singleton] at hb
      subst hb
      exact fun e => hnot (e ▸ ha)
noncomputable def DM (h₀ : Heap) (g : Array GenState) (d : Drawn) (os : OsState) (knd : KeyKind PP w Kt) (x dx : Addr) (sl : Array (Option Value)) (k : Kt) (Q : Value → Shared → Prop) (v : Value) (s : Shared) : Prop :=
  ∃ K₁ K₂ kvs' h' t', s = ⟨h', g, d, t', os⟩ ∧ St h₀ K₁ h' ∧ Up x (dP knd (.ref 108) (some dx) sl kvs') (dP knd (.ref 108) (some dx) sl (kvs' ++ [(k, v)])) K₁ K₂ ∧ valueAt kvs' k = none ∧ kvs'.length ≤ sizeLine ∧
    ∀ h'' t'', St h₀ K₂ h'' → Q v ⟨h'', g, d, t'', os⟩
theorem dd_missing {Q : Value → Shared → Prop} (C : Cx w mg mb h₀) (S : St h₀ K h) (m : (x, dP knd (.ref 108) (some dx) #[some (.ref f)] kvs) ∈ K) (hkey : knd.is k key = true) (hs : (x == sysModules) = false)
    (hf : ∃ o fd, h.get? f = some o ∧ o.data = .func fd)
    (q : wpAny (model PP w) A.in1 (call (.ref f) []) (DM h₀ g d os knd x dx #[some (.ref f)] k Q) E ⟨h, g, d, t, os⟩) :
    codeAny (model PP w) A (.builtin "collections.defaultdict.__missing__" ⟨[.ref x, key], []⟩) (fun r s' => match r with | .ok (.ret v) => Q v s' | .ok _ => False | .error e => E e s') ⟨h, g, d, t, os⟩ := by
  refine codeAny_builtin entry_ddm ?_
  rw [Around.under_plainId plain_ddm]
  unfold Builtin.«collections.defaultdict.__missing__»
  refine wpAny_bind (wpAny_of_eq (a := (.ref x, key)) (by first | rfl | kernel_rfl) ?_)
  dsimp only
  refine xEAAAAEEAAA (S.get m) fun o ho hc hod hsl es ep hd hk hp hn => ?_
  (revert hf; intro zh; refine xEEA zh fun fo fd hfo hfd => ?_; clear zh)
  refine wpAny_bind ?_
  unfold Builtin.Collections_defaultdict.factory? slotAt
  refine wpAny_bind (wpAny_bind (wpAny_loadPart ho ?_))
  (refine (Eq.symm (hsl)) ▸ ?_)
  refine wpAny_pure (wpAny_pure ?_)
  show wpAny _ _ (callOutOfASlot (.ref f) >>= _) _ _ _
  refine wpAny_bind ?_
  unfold callOutOfASlot borrowsExactly
  refine wpAny_bind (wpAny_bind (wpAny_load hfo ?_))
  (refine (Eq.symm (hfd)) ▸ ?_)
  refine wpAny_pure ?_
  rw [if_pos rfl]
  refine wpAny_callBorrowed (wpAny_mono q (fun v s' z => ?_) fun _ _ z => z)
  obtain ⟨K₁, K₂, kvs', h', t', rfl, S₁, u, hv, hsz, z⟩ := z
  exact wpAny_pure ⟨Code.quiet_builtin _ (by decide +kernel), fd_setdefault C S₁ u hkey hs hv hsz fun h'' S'' => z h'' _ S''⟩
end
end
section
open Builtin.ObjectAttr
theorem ddm_args (a b : Value) : (match Manifest.signature? "collections.defaultdict.__missing__" with | some sig => Bind.checkArgs "collections.defaultdict.__missing__" { sig with full := "FreezableDefaultDict.__missing__" } ⟨[a, b], []⟩ | none => pure ()) = pure () := by kernel_rfl
theorem ddm_kind : builtinKind "collections.defaultdict.__missing__" = some .method := by decide +kernel
theorem ty108 (w : World) : typeIn (hd.heap_1 w.params) (.ref 108) = some (.type "type") := by k_is
section
variable {w : World} {A : Around} {E : Value → Shared → Prop} {h₀ h : Heap} {g : Array GenState} {d : Drawn} {t : Nat} {os : OsState} {K K' : Led} {mg mb : Str → Option Value} {Kt : Type} [DecidableEq Kt] {knd : KeyKind PP w Kt}
 {dx : Addr} {sl : Array (Option Value)} {kvs : List (Kt × Value)} {x f : Addr} {k : Kt} {key v : Value} {fr : Option Value} {name : Str}
theorem ddm_check {Q : Unit → Shared → Prop} (C : Cx w mg mb h₀) (S : St h₀ K h) (m : (x, dP knd (.ref 108) (some dx) sl kvs) ∈ K) (q : Q () ⟨h, g, d, t, os⟩) :
  wpAny (model PP w) A (checkBoundCall "collections.defaultdict.__missing__" ⟨[.ref x, key], []⟩) Q E ⟨h, g, d, t, os⟩ := by
 have X := C.X.keeps S.keep
 have L1 := fd_inst_dict (M := model PP w) C S m (fd_not_module w)
 refine xEAAAAEEA (S.get m) fun o ho hc zu3 zu4 es ep hd zu8 => ?_
 have L0 := hc ▸ type_looks (M := model PP w) ho
 refine xEAA (fd_cls w) fun cd hcd zu2 hq => ?_
 have L2 := looks_clsIn (M := model PP w) X hcd
 have L3 := looks_typeIn (M := model PP w) X (ty108 w)
 have ok := ddm_args
 unfold checkBoundCall
 cases hsig : Manifest.signature? "collections.defaultdict.__missing__" with
 | none => exact wpAny_pure q
 | some sig =>
  dsimp only
  (refine (Eq.symm (ddm_kind)) ▸ ?_)
  dsimp only
  rw [if_neg (by decide)]
  refine wpAny_bind (L1.at ?_)
  rw [if_neg (by decide +kernel)]
  refine wpAny_bind ?_
  refine ks_wpAny_isType_inst ho (fun c e => by rw [hd] at e; cases e) ?_
  rw [if_neg (by decide)]
  refine wpAny_bind (L0.at ?_)
  dsimp only
  refine wpAny_bind (L2.at (wpAny_bind (L3.at ?_)))
  rw [if_pos (by decide)]
  have := ok (.ref x) key
  rw [hsig] at this
  (refine (Eq.symm (hq)) ▸ ?_; refine (Eq.symm (show (toString (Str.ofString "FreezableDefaultDict").toString ++ toString "." ++ toString (Bind.lastOf "collections.defaultdict.__missing__")) = "FreezableDefaultDict.__missing__" by decide +kernel)) ▸ ?_)
  rw [show Bind.checkArgs "collections.defaultdict.__missing__" { sig with full := "FreezableDefaultDict.__missing__" } ⟨[.ref x, key], []⟩ = pure () from this]
  exact wpAny_pure q
theorem call_bf {Q : Value → Shared → Prop} {bf : Addr} (C : Cx w mg mb h₀) (S : St h₀ K h) (mb' : (bf, exP (bfObj "collections.defaultdict.__missing__" x)) ∈ K) (m : (x, dP knd (.ref 108) (some dx) #[some (.ref f)] kvs) ∈ K) (hkey : knd.is k key = true) (hs : (x == sysModules) = false)
  (hf : ∃ o fd, h.get? f = some o ∧ o.data = .func fd)
  (q : wpAny (model PP w) A.in1 (call (.ref f) []) (DM h₀ g d os knd x dx #[some (.ref f)] k Q) E ⟨h, g, d, t, os⟩) :
  wpAny (model PP w) A (call (.ref bf) [key] []) Q E ⟨h, g, d, t, os⟩ := by
 (refine xEA (S.get mb') fun ob hob zq2 => ?_; subst zq2)
 refine wpAny_call (codeAny_of_tree ?_)
 show wpAny _ A.in1 (callAny (.ref bf) ⟨[key], []⟩) _ _ _
 unfold callAny
 refine wpAny_bind (wpAny_load hob ?_)
 dsimp only
 rw [if_pos (by decide +kernel)]
 show wpAny _ _ (if (Value.type "builtin_function_or_method" != Value.type "method") = true then _ else _) _ _ _
 rw [if_pos (by decide +kernel)]
 refine wpAny_bind (ddm_check C S m ?_)
 exact wpAny_pure ⟨Code.quiet_builtin _ (by decide +kernel), dd_missing C S m hkey hs hf q⟩
theorem cw_bf {Q : Value → Shared → Prop} {bf : Addr} {pos : Pos} {args : List (Bool × Sem Value)} {id : String} {s : Shared}
  (hh : wpAny (model PP w) A (spliced args) (fun vs s' => s'.heap.get? bf = some (bfObj id x) ∧ wpAny (model PP w) A (call (.ref bf) vs []) Q E s') E s) (hp : args.any (·.1) = false := by rfl) :
  wpAny (model PP w) A (callWith pos (.ref bf) [] args []) Q E s := by
 unfold callWith
 refine wpAny_bind (wpAny_holding (ea_any hp (wpAny_mono hh (fun vs s' z => ?_) fun _ _ z => z)))
 obtain ⟨hob, z⟩ := z
 refine wpAny_bind (wpAny_standAt ?_)
 simp only [hp, List.any_nil, Bool.or_false]
 refine wpAny_bind (m := keeperOf (.ref bf)) ?_
 unfold keeperOf
 refine wpAny_bind (wpAny_load hob ?_)
 dsimp only
 rw [if_pos (by decide), if_pos (by decide)]
 refine wpAny_pure ?_
 exact wpAny_bind (wpAny_mono z (fun r s₂ hr => wpAny_bind (wpAny_holding (wpAny_point (wpAny_pure hr)))) fun _ _ x => x)
end
end
section
open Builtin.ObjectAttr
theorem fd_opq (w : World) : nsIn (hd.heap_1 w.params) cStatics "thirdparty.any" = some none := by k_is
theorem fd_self (w : World) : mroIn (hd.heap_1 w.params) 108 (.ref 108) = some true := by k_is
theorem fd_super (w : World) : ∃ cd, clsIn (hd.heap_1 w.params) 108 = some cd ∧ alongIn (hd.heap_1 w.params) "__missing__" ((cd.mro.dropWhile (· != .ref 108)).drop 1) = some (some (.builtin "collections.defaultdict.__missing__")) := by
 have h : ∃ o, (hd.heap_1 w.params).lookup 108 = some o ∧ ∃ cd, o.data = .cls cd ∧ (cd.mro.dropWhile (· != .ref 108)).drop 1 = [.type "collections.defaultdict", .type "dict", .type "object"] := by
  refine' ex_look (P := fun o => ∃ cd, o.data = .cls cd ∧ (cd.mro.dropWhile (· != .ref 108)).drop 1 = [.type "collections.defaultdict", .type "dict", .type "object"]) ?hh ?pf
  case hh => k_is
  case pf => exact ⟨_, rfl, rfl⟩
 obtain ⟨⟨_, _, dt, _⟩, e, cd, q, n⟩ := h
 dsimp only at q
 subst q
 refine ⟨cd, by unfold clsIn; rw [e], ?_⟩
 rw [n]
 kernel_rfl
theorem f98 (w : World) : ∃ o, (hd.heap_1 w.params).lookup 98 = some o ∧ ∃ fd ar, o.data = .func fd ∧ (fd.params.posonlyargs ++ fd.params.args).head? = some ar ∧ ar.arg = Str.ofString "self" := by
 refine' ex_look (P := fun o => ∃ fd ar, o.data = .func fd ∧ (fd.params.posonlyargs ++ fd.params.args).head? = some ar ∧ ar.arg = Str.ofString "self") ?hh ?pf
 case hh => k_is
 case pf => exact ⟨_, _, rfl, rfl, rfl⟩
theorem c97 (w : World) : ∃ o, (hd.heap_1 w.params).lookup 97 = some o ∧ ∃ vs file tf, o.data = .fields vs ∧ vs[2]? = some (.str file tf) ∧ (PP.main.file == file) = true := by
 refine' ex_look (P := fun o => ∃ vs file tf, o.data = .fields vs ∧ vs[2]? = some (.str file tf) ∧ (PP.main.file == file) = true) ?hh ?pf
 case hh => k_is
 case pf => exact ⟨_, _, _, rfl, rfl, by decide +kernel⟩
theorem c86 (w : World) : ∃ o, (hd.heap_1 w.params).lookup 86 = some o ∧ o.data = .cell (some (.ref 108)) := by
 refine' ex_look (P := fun o => o.data = .cell (some (.ref 108))) ?hh ?pf
 case hh => k_is
 case pf => rfl
theorem o108 (w : World) : ∃ o, (hd.heap_1 w.params).lookup 108 = some o ∧ ∃ cd, o.data = .cls cd := by
 refine' ex_look (P := fun o => ∃ cd, o.data = .cls cd) ?hh ?pf
 case hh => k_is
 case pf => exact ⟨_, rfl⟩
section
variable {α : Type} {M : Model} {A : Around} {c : Code} {E : Value → Shared → Prop} {s : Shared} {env : Env}
theorem at_Call {func : PySem.Expr} {args : List PySem.Expr} {pos : Pos} {Q : Value → Shared → Prop}
  (h : PySem.wpAt M A c (eval func env) (fun f s₁ => PySem.wpAt M A c (callWith pos f [] (backTo pos (starEach args env)) []) Q E s₁) E s)
  (he : eval (.Call func args [] pos) env = (do callWith pos (← eval func env) [] (backTo pos (starEach args env)) (backToKw pos (keywordEach [] env))) := by rfl) :
  PySem.wpAt M A c (eval (.Call func args [] pos) env) Q E s := by
 rw [he]
 exact PySem.wpAt_bind h
theorem at_Attribute {value : PySem.Expr} {attr : Str} {pos : Pos} {Q : Value → Shared → Prop}
  (h : PySem.wpAt M A c (attributeBase value attr env (eval value env)) (fun o s₁ => wpAny M A (getAttr o attr true) (fun r s₂ => wpAny M A (letTemporaryGo value o r) (fun _ s₃ => Q r s₃) E s₂) E s₁) E s) :
  PySem.wpAt M A c (eval (.Attribute value attr pos) env) Q E s := by
 rw [show eval (.Attribute value attr pos) env = (do
  let o ← attributeBase value attr env (eval value env)
  standAt pos.atName
  let r ← holding [o] (getAttr o attr true)
  letTemporaryGo value o r
  pure r) from rfl]
 refine PySem.wpAt_bind (PySem.wpAt_mono h (fun o s₁ h₁ => wpAt_of_wpAny (wpAny_bind (wpAny_standAt (wpAny_bind (wpAny_holding (wpAny_mono h₁ (fun r s₂ h₂ => ?_) fun _ _ x => x)))))) fun _ _ x => x)
 exact wpAny_bind (wpAny_mono h₂ (fun _ _ z => wpAny_pure z) fun _ _ x => x)
theorem at_spliced_nil {Q : List Value → Shared → Prop} (h : Q [] s) : PySem.wpAt M A c (spliced []) Q E s := wpAt_of_wpAny (wpAny_pure h)
theorem at_spliced_cons {x : Sem Value} {rest : List (Bool × Sem Value)} {Q : List Value → Shared → Prop}
  (h : PySem.wpAt M A c x (fun v s₁ => PySem.wpAt M A c (spliced rest) (fun vs s₂ => Q (v :: vs) s₂) E s₁) E s) : PySem.wpAt M A c (spliced ((false, x) :: rest)) Q E s := by
 rw [spliced]
 refine PySem.wpAt_bind (PySem.wpAt_mono h (fun v s₁ h₁ => ?_) fun _ _ x => x)
 simp only [Bool.false_eq_true, if_false]
 exact PySem.wpAt_bind (wpAt_of_wpAny (wpAny_pure (PySem.wpAt_bind (ks_wpAt_holding (PySem.wpAt_mono h₁ (fun vs s₂ h₂ => wpAt_of_wpAny (wpAny_pure h₂)) fun _ _ x => x)))))
theorem at_callWith_builtin {pos : Pos} {id : String} {x : Sem Value} {rest : List (Bool × Sem Value)} {Q : Value → Shared → Prop} (hplain : rest.any (·.1) = false)
  (h : PySem.wpAt M A c (spliced ((false, x) :: rest)) (fun vs s₁ => wpAny M A (call (.builtin id) vs []) Q E s₁) E s) :
  PySem.wpAt M A c (callWith pos (.builtin id) [] ((false, x) :: rest) []) Q E s := by
 unfold callWith
 refine PySem.wpAt_bind (ks_wpAt_holding ?_)
 unfold evalArgs
 show PySem.wpAt M A c (spliced ((false, x) :: rest) >>= _) _ E s
 refine PySem.wpAt_bind (PySem.wpAt_mono h (fun vs s' h' => wpAt_of_wpAny ?_) fun _ _ x => x)
 refine wpAny_holding ?_
 refine wpAny_bind (wpAny_pure (wpAny_bind (wpAny_pure (wpAny_pure ?_))))
 refine wpAt_of_wpAny (wpAny_bind (wpAny_standAt ?_))
 simp only [List.any_cons, hplain, List.any_nil, Bool.or_false]
 refine wpAny_bind (wpAny_pure ?_)
 exact wpAny_bind (wpAny_mono h' (fun r s₂ hr => wpAny_bind (wpAny_holding (wpAny_point (wpAny_pure hr)))) fun _ _ x => x)
end
section
variable {w : World} {A : Around} {E : Value → Shared → Prop} {h₀ h : Heap} {g : Array GenState} {d : Drawn} {t : Nat} {os : OsState} {K : Led} {mg mb : Str → Option Value}
theorem call_S {R : Result → Shared → Prop} {f : Addr} {name qual : Str} {params : Arguments} {body : List Stmt} {scope : Scope} {cl : List (Str × Addr)} {dV kV doc pm cdv ct oc : Value} {an od : Option Addr} {osl : Array (Option Value)} {args : Args} {binds : List (Str × Value)}
  (C : Cx w mg mb h₀) (S : St h₀ K h) (hroom : A.depth < recursionLimit) (ho : (hd.heap_1 w.params).lookup f = some ⟨oc, od, .func (fnX name qual params body scope cl dV kV doc pm an cdv ct), osl⟩) (hcd : codeIn (hd.heap_1 w.params) cdv qual = true)
  (hbind : ∀ t, BindsTo ⟨h, g, d, t, os⟩ (fnX name qual params body scope cl dV kV doc pm an cdv ct) args binds)
  (hcell : ∀ x ∈ scope.names, x.2 ≠ .cell) (hloc : (binds.all fun x => decide (scope.names.lookup x.1 = some .local)) = true) (hnd : (binds.map (·.1)).Nodup)
  (hco : scope.isCoroutine = false) (hgen : scope.isGenerator = false) (hk : scope.kind = .function)
  (k : ∀ L h₁, St h₀ ((L, nsP binds) :: K) h₁ → PySem.wpAt (model PP w) (A.deeper (envX qual scope L f cdv cl)) (.func body (envX qual scope L f cdv cl)) (execs body (envX qual scope L f cdv cl)) (fun fl s' => R (.ok (.ret (retV fl))) s')
    (fun e s' => wpAny (model PP w) (A.deeper (envX qual scope L f cdv cl)) (leaving (envX qual scope L f cdv cl) e) (fun _ s'' => R (.error e) s'') (fun e' s'' => R (.error e') s'') s') ⟨h₁, g, d, t + binds.length, os⟩) :
  codeAny (model PP w) A (.call (.ref f) args) R ⟨h, g, d, t, os⟩ := by
 have X := C.X.keeps S.keep
 refine ks_codeAny_call_defAt (fd := fnX name qual params body scope cl dV kV doc pm an cdv ct) (binds := binds) hroom (X _ _ ho) rfl (S.noLimit C.lim) (codeRec_of X hcd) rfl (hbind t) hcell (locs hloc) (fun h₁ hns hk₁ => ?_) hco hgen hk
 refine PySem.wpAt_mono (k _ h₁ ?_) (fun fl s' r => ?_) fun _ _ e => e
 ·refine xEA (nsP_of hns (b := binds) (fun p hp => lookup_nodup hnd p hp) hnd) fun o e x => ?_
  exact (S.ext hk₁).add e x (S.none_of_lt (Nat.le_refl _)) fun p hp q => Nat.lt_irrefl _ (by have := S.lt (a := p.1) (P := p.2) hp; rw [q] at this; exact this)
 ·cases fl <;> exact r
end
section
variable {w : World} {A : Around} {E : Value → Shared → Prop} {h₀ h : Heap} {g : Array GenState} {d : Drawn} {t : Nat} {os : OsState} {K K' : Led} {mg mb : Str → Option Value} {Kt : Type} [DecidableEq Kt] {knd : KeyKind PP w Kt}
 {dx : Addr} {sl : Array (Option Value)} {kvs : List (Kt × Value)} {x f : Addr} {k : Kt} {key v : Value} {fr : Option Value} {name : Str}
noncomputable abbrev sc98 : Scope := { kind := .function, names := [("self", .local), ("key", .local), ("__class__", .free), ("getattr", .globalImplicit), ("super", .globalImplicit)], isGenerator := false, isCoroutine := false }
noncomputable abbrev env98 (L : Addr) : Env := envX "FreezableDefaultDict.__missing__" sc98 L 98 (.ref 97) [("__class__", 86)]
noncomputable abbrev Lv (A : Around) (env : Env) (R : Result → Shared → Prop) (e : Value) (s : Shared) : Prop := wpAny (model PP w) (A.deeper env) (leaving env e) (fun _ s'' => R (.error e) s'') (fun e' s'' => R (.error e') s'') s
theorem missing_call {R : Result → Shared → Prop} (C : Cx w mg mb h₀) (S : St h₀ K h) (hd : A.depth + 2 < recursionLimit) (hh : A.handled = none)
  (m : (x, dP knd (.ref 108) (some dx) #[some (.ref f)] kvs) ∈ K) (md : (dx, fzP fr) ∈ K) (hkey : knd.is k key = true) (hs : (x == sysModules) = false)
  (mf : ∃ o fd, (f, exP o) ∈ K ∧ o.data = .func fd) (hl : ∀ u, fr = some u → ∃ l o fd, u = .ref l ∧ (l, exP o) ∈ K ∧ o.data = .func fd)
  (q : ∀ L h' t', St h₀ ((L, nsP [("self", .ref x), ("key", key)]) :: K) h' → match fr with
   | none => wpAny (model PP w) (A.deeper (env98 L)).in1 (call (.ref f) []) (DM h₀ g d os knd x dx #[some (.ref f)] k (fun v s' => R (.ok (.ret v)) s')) (Lv (w := w) A (env98 L) R) ⟨h', g, d, t', os⟩
   | some u => wpAny (model PP w) (A.deeper (env98 L)) (call u [key]) (fun v s' => R (.ok (.ret v)) s') (Lv (w := w) A (env98 L) R) ⟨h', g, d, t', os⟩) :
  codeAny (model PP w) A (.call (.ref 98) ⟨[.ref x, key], []⟩) R ⟨h, g, d, t, os⟩ := by
 refine' call_S (binds := [("self", .ref x), ("key", key)]) C S ?hroom ?ho ?hcd (fun t => BindsTo.of_eq ?hbind) ?hcell ?hloc ?hnd ?h1 ?h2 ?h3 ?k
 case ho => k_is
 case hcd => k_is
 case hbind => exact rfl
 case hroom => (exact Nat.lt_of_le_of_lt (Nat.le_add_right _ _) (by assumption))
 case hcell => decide
 case hloc => exact rfl
 case hnd => simp only [List.map_cons, List.map_nil]; decide
 case h1 => rfl
 case h2 => rfl
 case h3 => rfl
 intro L h₁ S₁
 dsimp only [List.length_cons, List.length_nil]
 refine ks_wpAt_execs_cons ?_
 refine ks_wpAt_Return_some ?_
 refine at_Call ?_
 refine at_Call ?_
 refine wpAt_of_wpAny (name_B C S₁ C.b_getattr ?_)
 refine at_callWith_builtin rfl ?_
 refine at_spliced_cons (wpAt_of_wpAny ?_)
 refine' name_L ?S ?hL ?m ?b ?_
 case S => exact S₁
 case hL => conv => lhs; whnf
 case m => exact List.mem_cons_self
 case b => exact List.mem_cons_self
 refine at_spliced_cons (wpAt_of_wpAny ?_)
 refine c_str (k := 0) (pos := default) ?_
 refine at_spliced_cons ?_
 refine at_Attribute ?_
 have X₁ := C.X.keeps S₁.keep
 obtain ⟨of, ho98, fd, ar, hfd, har, harg⟩ := f98 w
 obtain ⟨oc, ho97, vs, file, tf, hoc, hvs, hfile⟩ := c97 w
 refine xEA (c86 w) fun oce ho86 hce => ?_
 refine xEAE (o108 w) fun oD ho108 cdD hcD => ?_
 refine ks_wpAt_super_base (s := ⟨h₁, g, d, t + 1 + 1 + 1, os⟩) (f := 98) (cc := 97) rfl rfl (by decide) rfl (X₁ _ _ ho98) hfd har rfl (X₁ _ _ ho97) hoc hvs hfile (by decide +kernel) ?_
 have M₁ := S₁.keep
 refine ks_loadName_global rfl rfl (loadGlobal_builtin (env := envX _ _ L 98 (.ref 97) [("__class__", 86)]) (C.G.keeps M₁) C.b_super.1 (C.B.keeps M₁) C.b_super.2 ⟨rfl, ?_⟩)
 refine wpAny_loadName_free rfl rfl rfl ⟨_, X₁ _ _ ho86, hce⟩ ?_
 refine xEAA (S₁.ns (List.Mem.head _)) fun fL nL hbL zu3 => ?_
 rw [harg]
 refine wpAny_loadName_local rfl rfl nL (hbL _ (List.Mem.head _)) ?_
 refine ks_wpAny_isType_cls (X₁ _ _ ho108) hcD ⟨rfl, ?_⟩
 refine xEAAAAEEA (S₁.get (List.Mem.tail _ m)) fun ox hox hoxc zu3 zu4 es ep hoxd zu8 => ?_
 refine ks_wpAny_call_super (X₁ _ _ ho108) hcD hox hoxc (fun c e => by rw [hoxd] at e; cases e) (looks_mroIn X₁ (fd_self w)) (fun h₂ e₂ k₂ => ?_)
 have S₂ : St h₀ ((h₁.objs.size, exP (ks_superObj 108 x 108)) :: (L, nsP [("self", .ref x), ("key", key)]) :: K) h₂ :=
  (S₁.ext k₂).add e₂ rfl (S₁.none_of_lt (Nat.le_refl _)) fun p hp q => Nat.lt_irrefl _ (by have := S₁.lt (a := p.1) (P := p.2) hp; rw [q] at this; exact this)
 have X₂ := C.X.keeps S₂.keep
 refine xEA (fd_super w) fun cd hcd hal => ?_
 refine xEAAAAEEA (S₂.get (.tail _ (List.Mem.tail _ m))) fun ox hox hoxc zu3 zu4 es ep hoxd zu8 => ?_
 have hx108 : x ≠ 108 := by
  rintro rfl
  have := X₂ _ _ ho108
  rw [hox] at this; cases this
  rw [hoxd] at hcD; cases hcD
 refine getAttr_super_missing e₂ (looks_opaque X₂ (fd_opq w)) (l₀ := cd.mro) ?_ rfl X₂ hal hox hoxc (fd_mro_dd w) hx108 ?_
 ·exact (looks_clsIn X₂ hcd).andThen .now
 have S₃ : St h₀ ((h₂.objs.size, exP (bfObj "collections.defaultdict.__missing__" x)) :: (h₁.objs.size, exP (ks_superObj 108 x 108)) :: (L, nsP [("self", .ref x), ("key", key)]) :: K) (h₂.push (bfObj "collections.defaultdict.__missing__" x)) := S₂.push rfl rfl
 refine wpAny_letTemporaryGo ?_
 refine at_spliced_nil ?_
 refine getattr_frozen C S₃ (.tail _ (.tail _ (List.Mem.tail _ m))) (.tail _ (.tail _ (List.Mem.tail _ md))) ?_ ?_ ?_
 ·exact hh
 ·intro u hu
  (refine xEEEA (hl u hu) fun l zu1 zu2 zq3 zu4 => ?_; subst zq3)
  rfl
 intro h₄ t₄ S₄
 refine wpAt_of_wpAny ?_
 cases fr with
 | none =>
  refine cw_bf (x := x) (id := "collections.defaultdict.__missing__") ?_
  refine spliced_cons ?_
  refine' name_L ?S ?hL ?m ?b ?_
  case S => exact S₄
  case hL => conv => lhs; whnf
  case m => exact .tail _ (.tail _ List.mem_cons_self)
  case b => exact .tail _ List.mem_cons_self
  refine spliced_nil ⟨?_, ?_⟩
  ·refine xEA (S₄.get (List.Mem.head _)) fun o e p => ?_; (refine (Eq.symm (e)) ▸ ?_; refine (Eq.symm (p)) ▸ ?_; try with_reducible rfl)
  (revert mf; intro zh; refine xEEA zh fun fo fd mf hfd => ?_; clear zh)
  refine call_bf C S₄ List.mem_cons_self (.tail _ (.tail _ (List.Mem.tail _ m))) hkey hs ?_ ?_
  ·refine xEA (S₄.get (.tail _ (.tail _ (List.Mem.tail _ mf)))) fun o e p => ?_; exact ⟨_, _, e, by rw [p]; exact hfd⟩
  exact q L h₄ t₄ S₄.dropHead.dropHead
 | some u =>
  (refine xEEEAA (hl _ rfl) fun l lo fd zq3 ml hfd => ?_; subst zq3)
  refine cw_D (o := lo) (fd := fd) ?_
  refine spliced_cons ?_
  refine' name_L ?S ?hL ?m ?b ?_
  case S => exact S₄
  case hL => conv => lhs; whnf
  case m => exact .tail _ (.tail _ List.mem_cons_self)
  case b => exact .tail _ List.mem_cons_self
  refine spliced_nil ⟨⟨?_, hfd⟩, ?_⟩
  ·refine xEA (S₄.get (.tail _ (.tail _ (List.Mem.tail _ ml)))) fun o e p => ?_; (refine (Eq.symm (e)) ▸ ?_; refine (Eq.symm (p)) ▸ ?_; try with_reducible rfl)
  exact q L h₄ t₄ S₄.dropHead.dropHead
end
end
section
open Builtin.ObjectAttr
theorem St.addAll {h₀ h : Heap} {K : Led} (S : St h₀ K h) : ∀ {N : Led}, (∀ p ∈ N, ∃ o, h.get? p.1 = some o ∧ p.2 o) → (∀ p ∈ N, h₀.get? p.1 = none) → (N.map (·.1)).Nodup → (∀ p ∈ N, ∀ q ∈ K, q.1 ≠ p.1) → St h₀ (N ++ K) h := by
 intro N e n nd ap
 refine ⟨S.keep, fun p hp => ?_, fun p hp => ?_, ?_⟩
 ·rcases List.mem_append.mp hp with hp | hp
  ·exact e p hp
  ·exact S.ent p hp
 ·rcases List.mem_append.mp hp with hp | hp
  ·exact n p hp
  ·exact S.new p hp
 ·rw [List.map_append, List.nodup_append]
  refine ⟨nd, S.nd, fun a ha b hb q => ?_⟩
  (refine xEA (List.mem_map.mp ha) fun p hp zq2 => ?_; subst zq2)
  (refine xEA (List.mem_map.mp hb) fun p' hp' zq2 => ?_; subst zq2)
  exact ap p hp p' hp' q.symm
section
variable {w : World} {A : Around} {E : Value → Shared → Prop} {h₀ h : Heap} {g : Array GenState} {d : Drawn} {t : Nat} {os : OsState} {K : Led} {mg mb : Str → Option Value}
theorem call_C {R : Result → Shared → Prop} {f : Addr} {name qual : Str} {params : Arguments} {body : List Stmt} {scope : Scope} {dV kV doc pm cdv ct oc : Value} {an od : Option Addr} {osl : Array (Option Value)} {args : Args} {binds bl : List (Str × Value)}
  (C : Cx w mg mb h₀) (S : St h₀ K h) (hroom : A.depth < recursionLimit) (ho : (hd.heap_1 w.params).lookup f = some ⟨oc, od, .func (fnX name qual params body scope [] dV kV doc pm an cdv ct), osl⟩) (hcd : codeIn (hd.heap_1 w.params) cdv qual = true)
  (hbind : ∀ t, BindsTo ⟨h, g, d, t, os⟩ (fnX name qual params body scope [] dV kV doc pm an cdv ct) args binds)
  (hkind : ∀ n, ∀ x ∈ binds, scope.names.lookup x.1 = some .local ∨ (scope.names.lookup x.1 = some .cell ∧ ((cellsFrom n scope.names []).lookup x.1).isSome = true))
  (hnd : ((cellsFrom 0 scope.names []).map (·.1)).Nodup)
  (hbl : ∀ L, ∀ p ∈ bl, bindL (envOfC qual scope L f cdv).kindOf binds (fun _ => none) p.1 = some p.2) (hbn : (bl.map (·.1)).Nodup)
  (hco : scope.isCoroutine = false) (hgen : scope.isGenerator = false) (hk : scope.kind = .function)
  (k : ∀ L h₁ t, St h₀ ((cellsFrom (L + 1) scope.names []).map (fun p => (p.2, cellP (bindC (envOfC qual scope L f cdv).kindOf binds (fun _ => none) p.1))) ++ (L, nsP bl) :: K) h₁ → wpAny (model PP w) (A.deeper (envOfC qual scope L f cdv)) (execs body (envOfC qual scope L f cdv)) (fun fl s' => R (.ok (.ret (retV fl))) s')
    (fun e s' => wpAny (model PP w) (A.deeper (envOfC qual scope L f cdv)) (leaving (envOfC qual scope L f cdv) e) (fun _ s'' => R (.error e) s'') (fun e' s'' => R (.error e') s'') s') ⟨h₁, g, d, t, os⟩) :
  codeAny (model PP w) A (.call (.ref f) args) R ⟨h, g, d, t, os⟩ := by
 have X := C.X.keeps S.keep
 refine codeAny_call_function hroom (X _ _ ho) rfl hco hgen rfl (codeRec_of X hcd) (hbind t _ _ _ _ ?_)
 refine wpAny_newFunctionEnv_cells hk (hkind _) fun env' he s' x => ?_
 subst he
 refine ⟨(S.noLimit C.lim).keeps x.toInCall.keep, codeAny_func ?_⟩
 (refine xEEA (x.done) fun h₁ tk zq2 zu3 => ?_; subst zq2)
 have hk₁ := x.toInCall.keep
 have hn := cellsFrom_names scope.names 0 (h.objs.size + 1) [] [] rfl ▸ hnd
 have above : ∀ p ∈ cellsFrom (h.objs.size + 1) scope.names [], h.objs.size < p.2 := fun p hp => x.above p.1 p.2 hp
 have S₁ : St h₀ ((h.objs.size, nsP bl) :: K) h₁ := by
  refine xEA (nsP_of x.toInCall.ns (b := bl) (hbl h.objs.size) hbn) fun o e z => ?_
  exact (S.ext hk₁).add e z (S.none_of_lt (Nat.le_refl _)) fun p hp q => Nat.lt_irrefl _ (by have := S.lt (a := p.1) (P := p.2) hp; rw [q] at this; exact this)
 refine wpAny_mono (k h.objs.size h₁ tk (S₁.addAll ?_ ?_ ?_ ?_)) (fun fl s' r => ?_) fun _ _ e => e
 ·intro p hp
  (refine xEA (List.mem_map.mp hp) fun q hq zq2 => ?_; subst zq2)
  exact x.cell q.1 q.2 (lookup_of_mem_nodup hn hq)
 ·intro p hp
  (refine xEA (List.mem_map.mp hp) fun q hq zq2 => ?_; subst zq2)
  exact S.none_of_lt (Nat.le_of_lt (above q hq))
 ·rw [List.map_map]
  exact List.pairwise_map.mpr x.apart
 ·intro p hp q hq e
  (refine xEA (List.mem_map.mp hp) fun r hr zq2 => ?_; subst zq2)
  have := above r hr
  rcases List.mem_cons.mp hq with rfl | hq
  ·exact absurd e (Nat.ne_of_lt this)
  ·have := S.lt (a := q.1) (P := q.2) hq
   rw [e] at this
   exact absurd this (Nat.not_lt.mpr (Nat.le_of_lt (above r hr)))
 ·cases fl <;> exact r
end
noncomputable def codP (qual : Str) : Pr := fun o => ∃ vs t, o.data = .fields vs ∧ vs[1]? = some (.str qual t)
theorem St.codeRec {h₀ h : Heap} {K : Led} {c : Addr} {q : Str} (S : St h₀ K h) (m : (c, codP q) ∈ K) : h.CodeRec (.ref c) q :=
 by obtain ⟨o, e, vs, t, hd, hv⟩ := S.get m; exact ⟨c, o, vs, t, rfl, e, hd, hv⟩
end
section
open Builtin.ObjectAttr
section
variable {w : World} {M : Model} {A : Around} {E : Value → Shared → Prop} {h₀ h : Heap} {g : Array GenState} {d : Drawn} {t : Nat} {os : OsState} {K K₁ : Led} {K' : Addr → Led} {mg mb : Str → Option Value} {env : Env}
 {name qual : Str} {params : Arguments} {scope : Scope} {c P : Addr} {ps : Array Value} {pos : Pos} {firstLine : Nat} {clos : List (Str × Addr)}
theorem Cx.builtinsAt (C : Cx w mg mb h₀) (S : St h₀ K h) (m : (P, exP (tabObj ps)) ∈ K) : mainGlobals ≠ P ∧ h.BuiltinsAt mg P := by
 refine xEEE (C.T) fun p loose mean T => ?_
 (refine xEA (S.get m) fun oP hP zq2 => ?_; subst zq2)
 have hgs := T.g.keeps S.keep
 obtain ⟨bm, ob, b1, b2, b3, b4, b5, b6⟩ := T.bmain
 have hgP : mainGlobals ≠ P := fun q => by
  (revert hgs; intro zh; refine xEEEAA zh fun o es ep e hd zu5 => ?_; clear zh)
  rw [q, hP] at e; cases e; cases hd
 have hbP : bm ≠ P := fun q => by
  have e := S.keep _ _ b3
  rw [q, hP] at e; cases e; cases b4
 have hbG : bm ≠ mainGlobals := fun q => by
  refine xEEEAA (T.g) fun o es ep e hd zu5 => ?_
  rw [q, e] at b3; cases b3; rw [hd] at b6; cases b6
 exact ⟨hgP, bm, ob, b1, b2, hbG, hbP, S.keep _ _ b3, b4, b5, b6⟩
theorem St.made {oc : Obj} {c' : Addr} {h' : Heap} {fo : Obj} {Pc : Pr} {o' : Obj} (S : St h₀ K h) (u : Up P (exP o') (exP oc) K K₁) (hx : Heap.ExtBut P h h') (hge : h.objs.size ≤ c') (hlt : c' < h'.objs.size) (hP : h'.get? P = some oc)
  {co : Obj} (hc : h'.get? c' = some co) (hp : Pc co) (hf : fo.isFreed = false) : St h₀ ((h'.objs.size, exP fo) :: (c', Pc) :: K₁) (h'.push fo) := by
 have S₁ : St h₀ K₁ h' := S.upd u hx hP rfl
 have S₂ : St h₀ ((c', Pc) :: K₁) h' := S₁.add hc hp (S.none_of_lt hge) fun p hp q => by
  have hm : p.1 ∈ K₁.map (·.1) := List.mem_map_of_mem hp
  rw [u.keys] at hm
  refine xEA (List.mem_map.mp hm) fun r hr e => ?_
  have := S.lt (a := r.1) (P := r.2) hr
  rw [e, q] at this
  exact absurd this (Nat.not_lt.mpr hge)
 exact S₂.push rfl hf
theorem mk_lam {body : PySem.Expr} {Q : Value → Shared → Prop} (C : Cx w mg mb h₀) (S : St h₀ K h) (u : ∀ c', Up P (exP (tabObj ps)) (exP (tabObj (ps ++ #[rawInt pos.line, rawInt pos.col, .ref c']))) K (K' c')) (H : CodeHd h₀ c P)
  (hcl : closureFor scope env = pure clos) (hge0 : env.globals = mainGlobals) (hcode : env.code = .ref c) (ht : TriplesOk ps.toList) (hnf : codeAmong pos ps.toList = none)
  (q : ∀ f c' ctv h' t', St h₀ ((f, exP (kla_obj name qual params body scope clos ((mg "__name__").getD .none) c' ctv)) :: (c', codP qual) :: K' c') h' → Q (.ref f) ⟨h', g, d, t', os⟩) :
  wpAny M A (makeFunction name qual params (.expr body) scope env [] [] [] pos firstLine) Q E ⟨h, g, d, t, os⟩ := by
 obtain ⟨hgP, hb⟩ := C.builtinsAt S (u 0).mem
 (refine xEA (S.get (u 0).mem) fun oP hP zq2 => ?_; subst zq2)
 refine kla_makeFunction (s := ⟨h, g, d, t, os⟩) hcl hge0 (C.G.keeps S.keep) hcode (H.keeps S.keep) hP ht hnf hgP hb fun c' ctv h' tk hx hge hlt hrec htb => ?_
 (refine xEEEEAAA hrec fun c₂ oc vs t e2 hoc hd hv => ?_; clear hrec)
 cases e2
 exact q h'.objs.size c' ctv _ tk (S.made (u c') hx hge hlt htb hoc ⟨vs, t, hd, hv⟩ rfl)
theorem mk_lamHit {body : PySem.Expr} {c' : Addr} {Q : Value → Shared → Prop} (C : Cx w mg mb h₀) (S : St h₀ K h) (m : (P, exP (tabObj ps)) ∈ K) (H : CodeHd h₀ c P)
  (hcl : closureFor scope env = pure clos) (hge0 : env.globals = mainGlobals) (hcode : env.code = .ref c) (ht : TriplesOk ps.toList) (hf : codeAmong pos ps.toList = some (.ref c'))
  (q : ∀ f ctv h' t', St h₀ ((f, exP (kla_obj name qual params body scope clos ((mg "__name__").getD .none) c' ctv)) :: K) h' → Q (.ref f) ⟨h', g, d, t', os⟩) :
  wpAny M A (makeFunction name qual params (.expr body) scope env [] [] [] pos firstLine) Q E ⟨h, g, d, t, os⟩ := by
 obtain ⟨hgP, hb⟩ := C.builtinsAt S m
 (refine xEA (S.get m) fun oP hP zq2 => ?_; subst zq2)
 refine kla_makeFunctionHit (s := ⟨h, g, d, t, os⟩) hcl hge0 (C.G.keeps S.keep) hcode (H.keeps S.keep) hP ht hf hb fun ctv h' tk hk hsz => ?_
 exact q h'.objs.size ctv _ tk ((S.ext hk).push rfl rfl)
theorem mk_def {body : List Stmt} {Q : Value → Shared → Prop} (C : Cx w mg mb h₀) (S : St h₀ K h) (u : ∀ c', Up P (exP (tabObj ps)) (exP (tabObj (ps ++ #[rawInt pos.line, rawInt pos.col, .ref c']))) K (K' c')) (H : CodeHd h₀ c P)
  (hcl : closureFor scope env = pure clos) (hge0 : env.globals = mainGlobals) (hcode : env.code = .ref c) (ht : TriplesOk ps.toList) (hnf : codeAmong pos ps.toList = none)
  (q : ∀ f c' ctv doc h' t', St h₀ ((f, exP (fnMade name qual params body scope clos doc ((mg "__name__").getD .none) c' ctv)) :: (c', codP qual) :: K' c') h' → Q (.ref f) ⟨h', g, d, t', os⟩) :
  wpAny M A (makeFunction name qual params (.stmts body) scope env [] [] [] pos firstLine) Q E ⟨h, g, d, t, os⟩ := by
 obtain ⟨hgP, hb⟩ := C.builtinsAt S (u 0).mem
 (refine xEA (S.get (u 0).mem) fun oP hP zq2 => ?_; subst zq2)
 refine makeFunction_K (s := ⟨h, g, d, t, os⟩) hcl hge0 (C.G.keeps S.keep) hcode (H.keeps S.keep) hP ht hnf hgP hb fun c' ctv doc h' tk hx hge hlt hrec htb => ?_
 (refine xEEEEAAA hrec fun c₂ oc vs t e2 hoc hd hv => ?_; clear hrec)
 cases e2
 exact q h'.objs.size c' ctv doc _ tk (S.made (u c') hx hge hlt htb hoc ⟨vs, t, hd, hv⟩ rfl)
end
end
section
open Builtin.ObjectAttr
section
variable (w : World)
theorem fd_sa : findIn (hd.heap_1 w.params) (.ref 108) "__setattr__" = some (some (.builtin "object.__setattr__")) := by k_is
theorem fd_mro_object : mroIn (hd.heap_1 w.params) 108 (.type "object") = some true := by k_is
theorem fd_taker : takerIn (hd.heap_1 w.params) 108 "_frozen" = some none := by k_is
theorem fd_mro : ∃ cd, clsIn (hd.heap_1 w.params) 108 = some cd ∧ cd.mro = [.ref 108, .type "collections.defaultdict", .type "dict", .type "object"] ∧ cd.hasDict = true := by
 have h : ∃ o, (hd.heap_1 w.params).lookup 108 = some o ∧ ∃ cd, o.data = .cls cd ∧ cd.mro = [.ref 108, .type "collections.defaultdict", .type "dict", .type "object"] ∧ cd.hasDict = true := by
  refine' ex_look (P := fun o => ∃ cd, o.data = .cls cd ∧ cd.mro = [.ref 108, .type "collections.defaultdict", .type "dict", .type "object"] ∧ cd.hasDict = true) ?hh ?pf
  case hh => k_is
  case pf => exact ⟨_, rfl, rfl, rfl⟩
 obtain ⟨⟨_, _, dt, _⟩, e, cd, q, n⟩ := h
 dsimp only at q
 subst q
 exact ⟨cd, by unfold clsIn; rw [e], n⟩
end
theorem refuse_dd (self : Value) : refuseLoop self "__setattr__" [.ref 108, .type "collections.defaultdict", .type "dict", .type "object"] = pure () := by
 rw [refuseLoop_ref]
 have n1 : classOwn (.type "collections.defaultdict") "__setattr__" = pure none := by show pure (builtinOwn _ _) = _; rw [builtinOwn_eq_fast]; kernel_rfl
 have n2 : classOwn (.type "dict") "__setattr__" = pure none := by show pure (builtinOwn _ _) = _; rw [builtinOwn_eq_fast]; kernel_rfl
 have step : ∀ (n : String) (l : List Value), classOwn (.type n) "__setattr__" = pure none → (n == "_thread._local") = false → (n == "_pickle.Pickler" || n == "_pickle.Unpickler") = false → refuseLoop self "__setattr__" (.type n :: l) = refuseLoop self "__setattr__" l := by
  intro n l h1 h2 h3
  unfold refuseLoop
  simp only [List.forIn_cons, h2, h3, h1, Bool.false_eq_true, if_false, pure_bind, Option.isSome_none]
 (refine (Eq.symm (step _ _ n1 (by decide +kernel) (by decide +kernel))) ▸ ?_; refine (Eq.symm (step _ _ n2 (by decide +kernel) (by decide +kernel))) ▸ ?_)
 exact PySem.F.store_object.passes self
section
variable {w : World} {A : Around} {E : Value → Shared → Prop} {h₀ h : Heap} {g : Array GenState} {d : Drawn} {t : Nat} {os : OsState} {K : Led} {mg mb : Str → Option Value} {Kt : Type} [DecidableEq Kt] {knd : KeyKind PP w Kt}
 {dx : Addr} {sl : Array (Option Value)} {kvs : List (Kt × Value)} {x f : Addr} {k : Kt} {key v : Value} {fr : Option Value} {name : Str}
theorem fd_set {v : Value} {K' : Led} {Q : Unit → Shared → Prop} (C : Cx w mg mb h₀) (S : St h₀ K h) (m : (x, dP knd (.ref 108) (some dx) sl kvs) ∈ K) (u : Up dx (fzP fr) (fzP (some v)) K K') (q : ∀ h', St h₀ K' h' → Q () ⟨h', g, d, t + 1 + 1, os⟩) :
  wpAny (model PP w) A (setAttr (.ref x) "_frozen" v) Q E ⟨h, g, d, t, os⟩ := by
 refine xEEAAA (S.fd m u.mem) fun o od I hod hdx p => ?_
 have X := C.X.keeps S.keep
 have SF := PySem.F.store_object
 refine xEAA (fd_mro w) fun cd hc hm hdd => ?_
 refine set_plain (s := ⟨h, g, d, t, os⟩) X I (fd_sa w) ?_
 refine call_IR (owner := "object") (n := "__setattr__") X I.at_ I.cls (fd_mro_object w) (.inl SF.kind) SF.split SF.slot.plain SF.entry (SF.args _ _ _) ?_
 rw [osa_eq, refuse_eq]
 have L0 := I.type (M := model PP w)
 have L1 : Looks (model PP w) h (mroOf (.ref 108)) cd.mro := (looks_clsIn X hc).andThen .now
 refine wpAny_bind (wpAny_bind (L0.at (wpAny_bind (L1.at ?_))))
 rw [hm, refuse_dd]
 refine wpAny_pure (wpAny_bind (L0.at (wpAny_bind ((looks_findIn X (fd_frozen w)).at ?_))))
 refine wpAny_bind (wpAny_pure ?_)
 show wpAny _ _ (storeInOwnDict _ _ _ _ _ _) _ _ _
 obtain ⟨hx, hcl, hn, -⟩ := I
 obtain ⟨oc, odi, oda, osl⟩ := o
 dsimp only at hcl hod
 subst hcl hod
 refine wpAny_bind (wpAny_pure (wpAny_bind (wpAny_bind (wpAny_loadPart hx (wpAny_bind ((looks_clsIn X hc).at ?_))))))
 (refine (Eq.symm (hdd)) ▸ ?_)
 refine wpAny_pure (a := some dx) (wpAny_bind (wpAny_pure (wpAny_bind ?_)))
 unfold nsSet
 refine wpAny_bind (wpAny_bind (wpAny_askSetting (wpAny_pure (wpAny_bind (wpAny_mkText (wpAny_bind (wpAny_loadPart hdx ?_)))))))
 (revert p; intro zh; refine xEEA zh fun es n zq2 hes => ?_; clear zh; subst zq2)
 try dsimp only
 have hp : ∃ es' n', Obj.putName "_frozen" (PyData.keyHash w.params "_frozen") (.str "_frozen" (t + 1)) v (dictOf es n) = dictOf es' n' ∧ es'.length ≤ 1 ∧ (∃ hsh t, es' = [⟨hsh, .str "_frozen" t, v⟩]) ∧ (!es.toArray.any (·.key.isStr "_frozen") && es.toArray.any (·.refKey)) = false := by
  cases fr with
  | none =>
   subst hes
   exact ⟨_, _, putName_dict .., Nat.le_refl 1, ⟨_, _, rfl⟩, by simp⟩
  | some u =>
   (revert hes; intro zh; refine xEE zh fun hsh t' zq2 => ?_; clear zh; subst zq2)
   exact ⟨_, _, putName_dict .., Nat.le_refl 1, ⟨hsh, t', rfl⟩, by simp [DictEntry.refKey]⟩
 (revert hp; intro zh; refine xEEAAA zh fun es' n' hput hlen hes' c => ?_; clear zh)
 (rewrite [aRefKeyMayBeTheName_at]; refine (Eq.symm (c)) ▸ ?_)
 refine wpAny_updatePart hdx ?_
 have hself : (h.update dx (Obj.putName "_frozen" (PyData.keyHash w.params "_frozen") (.str "_frozen" (t + 1)) v)).get? dx = some (dictOf es' n') := by
  rw [← hput]; exact Heap.get?_update_self _ hdx (by rw [hput]; rfl)
 refine wpAny_bind (wpAny_lookBehind (o := dictOf es' n') hself (pastItsLine_dict (by rw [List.size_toArray, sizeLine_eq]; (exact Nat.le_trans (by assumption) (by decide)))) ?_)
 exact wpAny_pure (q _ (S.upd u (Heap.SameBut.update ..).extBut hself ⟨es', n', rfl, hes'⟩))
end
noncomputable abbrev pmV (mg : Str → Option Value) : Value := (mg "__name__").getD .none
noncomputable abbrev lzParams : Arguments := { posonlyargs := [], args := [{ arg := "key", annotation := none, pos := { line := 43, col := 30, endLine := 43, endCol := 33 } }], vararg := none, kwonlyargs := [], kw_defaults := [], kwarg := none, defaults := [] }
noncomputable abbrev lzBody : PySem.Expr := .Call (.Attribute (.Name "self" { line := 43, col := 35, endLine := 43, endCol := 39 }) "default_factory" { line := 43, col := 35, endLine := 43, endCol := 55 }) [] [] { line := 43, col := 35, endLine := 43, endCol := 57 }
noncomputable abbrev lzScope : Scope := { kind := .function, names := [("key", .local), ("self", .free)], isGenerator := false, isCoroutine := false }
noncomputable abbrev lzQ : Str := ("FreezableDefaultDict.freeze" : Str) ++ ".<locals>." ++ "<lambda>"
noncomputable abbrev lzObj (mg : Str → Option Value) (cell c' : Addr) (ctv : Value) : Obj := kla_obj "<lambda>" lzQ lzParams lzBody lzScope [("self", cell)] (pmV mg) c' ctv
noncomputable abbrev fzTab (c' : Addr) : Obj := tabObj #[rawInt 43, rawInt 23, .ref c']
section
variable {w : World} {A : Around} {E : Value → Shared → Prop} {h₀ h : Heap} {g : Array GenState} {d : Drawn} {t : Nat} {os : OsState} {K : Led} {mg mb : Str → Option Value} {Kt : Type} [DecidableEq Kt] {knd : KeyKind PP w Kt}
 {dx : Addr} {sl : Array (Option Value)} {kvs : List (Kt × Value)} {x f : Addr} {k : Kt} {key v : Value} {fr : Option Value} {name : Str}
theorem freeze_first {R : Result → Shared → Prop} (C : Cx w mg mb h₀) (S : St h₀ K h) (hd : A.depth + 2 < recursionLimit) {K₁ : Addr → Led} {K₂ : Addr → Addr → Led}
  (m : ∀ c', (x, dP knd (.ref 108) (some dx) sl kvs) ∈ K₁ c') (u₁ : ∀ c', Up 100 (exP (tabObj #[])) (exP (fzTab c')) K (K₁ c')) (u₂ : ∀ c' lf, Up dx (fzP fr) (fzP (some (.ref lf))) (K₁ c') (K₂ c' lf))
  (q : ∀ lf c' ctv cell h' t', St h₀ ((lf, exP (lzObj mg cell c' ctv)) :: (c', codP lzQ) :: (cell, cellP (some (.ref x))) :: K₂ c' lf) h' → R (.ok (.ret .none)) ⟨h', g, d, t', os⟩) :
  codeAny (model PP w) A (.call (.ref 105) ⟨[.ref x], []⟩) R ⟨h, g, d, t, os⟩ := by
 refine' call_C (binds := [("self", .ref x)]) (bl := []) C S ?hroom ?ho ?hcd (fun t => BindsTo.of_eq ?hbind) ?hkind ?hnd0 ?hbl ?hnd ?h1 ?h2 ?h3 ?k
 case ho => k_is
 case hcd => k_is
 case hbind => exact rfl
 case hroom => (exact Nat.lt_of_le_of_lt (Nat.le_add_right _ _) (by assumption))
 case hkind => intro n y hy; rw [List.mem_singleton] at hy; subst hy; exact .inr ⟨rfl, rfl⟩
 case hnd0 => decide
 case hbl => exact fun _ _ h => nomatch h
 case hnd => exact List.nodup_nil
 case h1 => rfl
 case h2 => rfl
 case h3 => rfl
 intro L h₁ t₁ S₁
 replace S₁ : St h₀ ((L + 1, cellP (some (.ref x))) :: (L, nsP []) :: K) h₁ := S₁
 refine k_execs_cons ?_
 refine plainObj_wpAny_Assign_Attribute ?_
 refine kla_eval rfl ?_
 refine mk_lam (P := 100) (c := 104) (ps := #[]) C S₁ (fun c' => .tail (.tail (u₁ c'))) C.H2 rfl rfl rfl trivial rfl ?_
 intro lf c' ctv h₂ t₂ S₂
 refine' name_C ?S ?c ?m ?_
 case S => exact S₂
 case c => exact rfl
 case m => exact .tail _ (.tail _ (.head _))
 refine fd_set C S₂ (.tail _ (.tail _ (.tail _ (.tail _ (m c'))))) (.tail (.tail (.tail (.tail (u₂ c' lf))))) fun h₃ S₃ => ?_
 try dsimp only
 refine wpAny_execs_nil ?_
 exact q lf c' ctv (L + 1) h₃ _ (S₃.wk (.keep (fun _ z => z) (.keep (fun _ z => z) (.keep (fun _ z => z) (.drop .refl)))))
theorem freeze_hit {R : Result → Shared → Prop} (C : Cx w mg mb h₀) (S : St h₀ K h) (hd : A.depth + 2 < recursionLimit) {c' : Addr} {K₂ : Addr → Led}
  (m : (x, dP knd (.ref 108) (some dx) sl kvs) ∈ K) (mt : (100, exP (fzTab c')) ∈ K) (u₂ : ∀ lf, Up dx (fzP fr) (fzP (some (.ref lf))) K (K₂ lf))
  (q : ∀ lf ctv cell h' t', St h₀ ((lf, exP (lzObj mg cell c' ctv)) :: (cell, cellP (some (.ref x))) :: K₂ lf) h' → R (.ok (.ret .none)) ⟨h', g, d, t', os⟩) :
  codeAny (model PP w) A (.call (.ref 105) ⟨[.ref x], []⟩) R ⟨h, g, d, t, os⟩ := by
 refine' call_C (binds := [("self", .ref x)]) (bl := []) C S ?hroom ?ho ?hcd (fun t => BindsTo.of_eq ?hbind) ?hkind ?hnd0 ?hbl ?hnd ?h1 ?h2 ?h3 ?k
 case ho => k_is
 case hcd => k_is
 case hbind => exact rfl
 case hroom => (exact Nat.lt_of_le_of_lt (Nat.le_add_right _ _) (by assumption))
 case hkind => intro n y hy; rw [List.mem_singleton] at hy; subst hy; exact .inr ⟨rfl, rfl⟩
 case hnd0 => decide
 case hbl => exact fun _ _ h => nomatch h
 case hnd => exact List.nodup_nil
 case h1 => rfl
 case h2 => rfl
 case h3 => rfl
 intro L h₁ t₁ S₁
 replace S₁ : St h₀ ((L + 1, cellP (some (.ref x))) :: (L, nsP []) :: K) h₁ := S₁
 refine k_execs_cons ?_
 refine plainObj_wpAny_Assign_Attribute ?_
 refine kla_eval rfl ?_
 refine mk_lamHit (c' := c') (P := 100) (c := 104) (ps := #[rawInt 43, rawInt 23, .ref c']) C S₁ (.tail _ (.tail _ mt)) C.H2 rfl rfl rfl ?_ ?_ ?_
 ·exact trivial
 ·rfl
 intro lf ctv h₂ t₂ S₂
 refine' name_C ?S ?c ?m ?_
 case S => exact S₂
 case c => exact rfl
 case m => exact .tail _ (.head _)
 refine fd_set C S₂ (.tail _ (.tail _ (.tail _ m))) (.tail (.tail (.tail (u₂ lf)))) fun h₃ S₃ => ?_
 try dsimp only
 refine wpAny_execs_nil ?_
 exact q lf ctv (L + 1) h₃ _ (S₃.wk (.keep (fun _ z => z) (.keep (fun _ z => z) (.drop .refl))))
end
end
open Builtin.ObjectAttr Builtin
section
theorem slot_mem_get : Slot "member_descriptor" "__get__" "member_descriptor.__get__" := .of (owner := "member_descriptor") (n := "__get__") (by (rewrite [typeLookup_type]; refine (Eq.symm (builtinLookup_eq_fast)) ▸ ?_); kernel_rfl) (by decide +kernel) (by decide +kernel) (by decide +kernel)
 (by first | exact .inl (by decide +kernel) | exact .inr (by decide +kernel)) (by rw [isSubtype_type]; kernel_rfl)
theorem entry_mem_get : entryFor table "member_descriptor.__get__" = some Builtin.«member_descriptor.__get__» := entryFor_of_tree (by kernel_rfl)
theorem args_mem_get (a b c : Value) : argsOk "member_descriptor.__get__" ⟨[a, b, c], []⟩ := by unfold argsOk; kernel_rfl
theorem ty_df : typeOf (.builtin "collections.defaultdict.default_factory") = pure (.type "member_descriptor") := by show builtinType _ = _; rw [builtinType_eq_fast]; kernel_rfl
theorem entry_df : entryFor table "collections.defaultdict.default_factory" = some Builtin.«collections.defaultdict.default_factory» := entryFor_of_tree (by kernel_rfl)
theorem plain_df : plainId "collections.defaultdict.default_factory" = true := by decide +kernel
section
variable (w : World)
theorem fd_df : findIn (hd.heap_1 w.params) (.ref 108) "default_factory" = some (some (.builtin "collections.defaultdict.default_factory")) := by k_is
theorem fd_df_get : specialIn (hd.heap_1 w.params) (.builtin "collections.defaultdict.default_factory") "__get__" = some (some (.builtin "member_descriptor.__get__")) := by k_is
theorem fd_df_takes : takesIn (hd.heap_1 w.params) (.builtin "collections.defaultdict.default_factory") = some true := by k_is
end
section
variable {w : World} {A : Around} {E : Value → Shared → Prop} {h₀ h : Heap} {g : Array GenState} {d : Drawn} {t : Nat} {os : OsState} {K : Led} {mg mb : Str → Option Value} {Kt : Type} [DecidableEq Kt] {knd : KeyKind PP w Kt}
 {dx : Addr} {sl : Array (Option Value)} {kvs : List (Kt × Value)} {x f : Addr} {k : Kt} {key v : Value} {fr : Option Value} {name : Str}
theorem fd_factory {Q : Value → Shared → Prop} {ex : Bool} (C : Cx w mg mb h₀) (S : St h₀ K h) (m : (x, dP knd (.ref 108) (some dx) #[some (.ref f)] kvs) ∈ K) (md : (dx, fzP fr) ∈ K) (q : Q (.ref f) ⟨h, g, d, t + 1, os⟩) :
  wpAny (model PP w) A (getAttr (.ref x) "default_factory" ex) Q E ⟨h, g, d, t, os⟩ := by
 refine xEEAAA (S.fd m md) fun o od I hod hdx p => ?_
 have X := C.X.keeps S.keep
 have hsl : o.slots = #[some (.ref f)] := by
  refine xEAAAA (S.get m) fun o' ho' zu2 zu3 hs zu5 => ?_
  rw [I.at_] at ho'; cases ho'; exact hs
 refine xEA (fd_cls w) fun cd hcd zu2 => ?_
 have hf := findObj_data (K := hd.heap_1 w.params) (C := 108) (od := od) (name := "default_factory") (by rw [hcd]; rfl) (fd_df w) (fd_df_get w) (fd_df_takes w)
 have L0 := I.type (M := model PP w)
 have L2 := looks_find (M := model PP w) X I hf
 have L1 := inst_looks (M := model PP w) X I.at_ I.cls (fd_mro_dd w)
 unfold getAttr
 refine wpAny_bind (wpAny_mkText ?_)
 refine fd_by C S I ?_
 refine wpAny_bind (wpAny_pure ?_)
 refine wpAny_bind (wpAny_pure (wpAny_bind (L0.at (wpAny_bind (L2.at ?_)))))
 show wpAny _ _ (holding [.builtin "collections.defaultdict.default_factory"] (call (.builtin "member_descriptor.__get__") [.builtin "collections.defaultdict.default_factory", .ref x, .ref 108]) >>= ret) _ _ _
 refine wpAny_bind (wpAny_holding (wpAny_call ?_))
 refine codeAny_call_builtin slot_mem_get.plain entry_mem_get (slot_mem_get.check _ _ _ _ _ _ _ _ ty_df (args_mem_get _ _ _) ?_)
 unfold Builtin.«member_descriptor.__get__» Builtin.Getset_descriptor.descrGet
 refine wpAny_bind ?_
 have hx : h.get? x = some o := I.at_
 repeat k_node
 have e2 : ".".intercalate ("collections.defaultdict.default_factory".cutAt '.').dropLast = "collections.defaultdict" := by decide +kernel
 (refine (Eq.symm (e2)) ▸ ?_)
 refine nd_bind (nd_bind (nd_bind (nd_bind (nd_pure (wpAny_pure ?_)))))
 rw [I.cls]
 refine (looks_mroIn X (fd_mro_dd w)).at ?_
 rw [if_neg (by decide)]
 refine wpAny_pure (wpAny_pure ⟨Code.quiet_builtin _ (by decide +kernel), codeAny_builtin entry_df ?_⟩)
 unfold Builtin.«collections.defaultdict.default_factory» Builtin.Collections_defaultdict.factory? slotAt
 refine wpAny_bind (wpAny_bind (wpAny_bind (wpAny_loadPart hx ?_)))
 (refine (Eq.symm (hsl)) ▸ ?_)
 exact wpAny_pure (wpAny_pure (wpAny_pure (wpAny_pure ⟨_, rfl, wpAny_pure q⟩)))
theorem canon_dd_ga : (Manifest.canonical "collections.defaultdict.__getattribute__" != "object.__getattribute__") = false := by decide +kernel
theorem gm_usual {pl : Sem Bool} {fv tf : Value} {Q : Value × List Value → Shared → Prop} (C : Cx w mg mb h₀) (S : St h₀ K h) (m : (x, dP knd (.ref 108) (some dx) sl kvs) ∈ K) (ha : findIn (hd.heap_1 w.params) (.ref 108) name = some (some fv)) (ht : typeIn (hd.heap_1 w.params) fv = some tf)
  (htf : (tf != .type "function" && tf != .type "method_descriptor" && tf != .type "wrapper_descriptor") = true) (q : wpAny (model PP w) A (getAttr (.ref x) name) (fun r => Q (r, [])) E ⟨h, g, d, t, os⟩) :
  wpAny (model PP w) A (getMethod (.ref x) name pl) Q E ⟨h, g, d, t, os⟩ := by
 refine xEAAA (S.get m) fun o ho hc hod zu4 => ?_
 have X := C.X.keeps S.keep
 have L0 := hc ▸ type_looks (M := model PP w) ho
 have L1 := looks_findIn (M := model PP w) X (fd_ga w)
 have L2 := looks_findIn (M := model PP w) X (fd_gh w)
 have L3 := looks_findIn (M := model PP w) X ha
 have L4 := looks_typeIn (M := model PP w) X ht
 unfold getMethod specialOf
 refine wpAny_bind (wpAny_bind (L0.at (L1.at ?_)))
 dsimp only
 (refine (Eq.symm (canon_dd_ga)) ▸ ?_; rewrite [if_neg (by decide)])
 refine wpAny_bind (wpAny_bind (L0.at (L2.at ?_)))
 rw [if_neg (by decide)]
 refine wpAny_bind (wpAny_bind (L0.at (L3.at ?_)))
 dsimp only
 refine wpAny_bind (L4.at ?_)
 (refine (Eq.symm (htf)) ▸ ?_)
 rw [if_pos rfl]
 exact wpAny_bind (wpAny_mono q (fun _ _ z => wpAny_pure z) fun _ _ z => z)
theorem gm_fd {pl : Sem Bool} {fv tf : Value} {Q : Value × List Value → Shared → Prop} (C : Cx w mg mb h₀) (S : St h₀ K h) (m : (x, dP knd (.ref 108) (some dx) sl kvs) ∈ K) (md : (dx, fzP fr) ∈ K) (ha : findIn (hd.heap_1 w.params) (.ref 108) name = some (some fv)) (ht : typeIn (hd.heap_1 w.params) fv = some tf)
  (htf : (tf != .type "function" && tf != .type "method_descriptor" && tf != .type "wrapper_descriptor") = false) (hn : (Str.ofString "_frozen" == name) = false) (q : Q (fv, [.ref x]) ⟨h, g, d, t, os⟩) :
  wpAny (model PP w) A (getMethod (.ref x) name pl) Q E ⟨h, g, d, t, os⟩ := by
 refine xEAAA (S.get m) fun o ho hc hod zu4 => ?_
 have X := C.X.keeps S.keep
 have L0 := hc ▸ type_looks (M := model PP w) ho
 have L1 := looks_findIn (M := model PP w) X (fd_ga w)
 have L2 := looks_findIn (M := model PP w) X (fd_gh w)
 have L3 := looks_findIn (M := model PP w) X ha
 have L4 := looks_typeIn (M := model PP w) X ht
 unfold getMethod specialOf
 refine wpAny_bind (wpAny_bind (L0.at (L1.at ?_)))
 dsimp only
 (refine (Eq.symm (canon_dd_ga)) ▸ ?_; rewrite [if_neg (by decide)])
 refine wpAny_bind (wpAny_bind (L0.at (L2.at ?_)))
 rw [if_neg (by decide)]
 refine wpAny_bind (wpAny_bind (L0.at (L3.at ?_)))
 dsimp only
 refine wpAny_bind (L4.at ?_)
 (refine (Eq.symm (htf)) ▸ ?_)
 rw [if_neg (by decide)]
 refine xEA (S.get md) fun od hdx p => ?_
 have hm := fz_miss p hn
 refine wpAny_bind (wpAny_loadPart ho ?_)
 rw [hod]
 dsimp only
 refine wpAny_bind (wpAny_bind (wpAny_loadPart hdx ?_))
 rw [nsLook_of hm]
 refine wpAny_pure ?_
 rw [if_neg (by decide)]
 exact wpAny_bind (wpAny_rule (wpAny_pure q))
theorem ty_df_in (w : World) : typeIn (hd.heap_1 w.params) (.builtin "collections.defaultdict.default_factory") = some (.type "member_descriptor") := by k_is
noncomputable abbrev lzEnv (L lf c' cell : Addr) : Env := envX lzQ lzScope L lf (.ref c') [("self", cell)]
theorem call_lz {R : Result → Shared → Prop} {lf c' cell : Addr} {ctv : Value} (C : Cx w mg mb h₀) (S : St h₀ K h) (hroom : A.depth + 2 < recursionLimit)
  (ml : (lf, exP (lzObj mg cell c' ctv)) ∈ K) (mc : (c', codP lzQ) ∈ K) (mx : (cell, cellP (some (.ref x))) ∈ K) (m : (x, dP knd (.ref 108) (some dx) #[some (.ref f)] kvs) ∈ K) (md : (dx, fzP fr) ∈ K)
  (mf : ∃ o fd, (f, exP o) ∈ K ∧ o.data = .func fd)
  (q : ∀ L h' t', St h₀ ((L, nsP []) :: K) h' → wpAny (model PP w) (A.deeper (lzEnv L lf c' cell)) (call (.ref f) []) (fun v s' => R (.ok (.ret v)) s') (fun e s' => wpAny (model PP w) (A.deeper (lzEnv L lf c' cell)) (leaving (lzEnv L lf c' cell) e) (fun _ s'' => R (.error e) s'') (fun e' s'' => R (.error e') s'') s') ⟨h', g, d, t', os⟩) :
  codeAny (model PP w) A (.call (.ref lf) ⟨[key], []⟩) R ⟨h, g, d, t, os⟩ := by
 (refine xEA (S.get ml) fun ol hol zq2 => ?_; subst zq2)
 refine kla_callFunE (by (exact Nat.lt_of_le_of_lt (Nat.le_add_right _ _) (by assumption))) hol rfl rfl rfl rfl (S.codeRec mc) ?_
 rw [show bindArgs (kla_fn "<lambda>" lzQ lzParams lzBody lzScope [("self", cell)] (pmV mg) (.ref c') ctv) ⟨[key], []⟩ = pure [(Str.ofString "key", key)] from rfl]
 refine wpAny_pure ?_
 refine wpAny_newFunctionEnv (scope := lzScope) (by decide) (by intro y hy; rw [List.mem_singleton] at hy; subst hy; rfl) (fun h₁ hns hsb => ⟨(S.noLimit C.lim).fresh _ hsb, ?_⟩) rfl
 show codeAny _ _ (.expr lzBody (lzEnv h.objs.size lf c' cell)) _ _
 have hk₁ : ∀ b o, h.get? b = some o → h₁.get? b = some o := fun b o e => hsb.extBut b o (Nat.ne_of_lt (Heap.lt_size e)) (Heap.get?_push_of_some _ e)
 have S₁ : St h₀ K h₁ := S.ext hk₁
 refine kla_codeExpr ?_
 refine k_MethodCall ?_
 refine' name_F S₁ ?c mx ?_
 case c => exact rfl
 refine gm_usual C S₁ m (fd_df w) (ty_df_in w) (by decide) (fd_factory C S₁ m md ?_)
 (revert mf; intro zh; refine xEEA zh fun fo fd mf hfd => ?_; clear zh)
 (refine xEA (S₁.get mf) fun fo' hfo zq2 => ?_; subst zq2)
 refine cw_D (o := fo') (fd := fd) ?_
 refine xEA (nsP_of hns (b := []) (fun _ hp => nomatch hp) List.nodup_nil) fun oL eL xL => ?_
 exact spliced_nil ⟨⟨hfo, hfd⟩, q _ _ _ (S₁.add eL xL (S.none_of_lt (Nat.le_refl _)) fun p hp q => Nat.lt_irrefl _ (by have := S.lt (a := p.1) (P := p.2) hp; rw [q] at this; exact this))⟩
end
end
section
section
variable (w : World)
theorem o108x : ∃ o, (hd.heap_1 w.params).lookup 108 = some o ∧ (∃ oc od cd sl, o = ⟨oc, od, .cls cd, sl⟩ ∧ cd.abstract = false ∧ cd.hasDel = false ∧ (sl.toList[4]?).join = some (.builtin "dict.__new__") ∧ cd.mro = [.ref 108, .type "collections.defaultdict", .type "dict", .type "object"]) := by
 refine' ex_look (P := fun o => ∃ oc od cd sl, o = ⟨oc, od, .cls cd, sl⟩ ∧ cd.abstract = false ∧ cd.hasDel = false ∧ (sl.toList[4]?).join = some (.builtin "dict.__new__") ∧ cd.mro = [.ref 108, .type "collections.defaultdict", .type "dict", .type "object"]) ?hh ?pf
 case hh => k_is
 case pf => exact ⟨_, _, _, _, rfl, rfl, rfl, rfl, rfl⟩
theorem fd_call : specialIn (hd.heap_1 w.params) (.ref 108) "__call__" = some (some (.builtin "type.__call__")) := by k_is
theorem fd_type : instIn (hd.heap_1 w.params) (.ref 108) (.type "type") = some true := by k_is
theorem fd_init : findIn (hd.heap_1 w.params) (.ref 108) "__init__" = some (some (.builtin "collections.defaultdict.__init__")) := by k_is
theorem ty_dd_init : typeIn (hd.heap_1 w.params) (.builtin "collections.defaultdict.__init__") = some (.type "wrapper_descriptor") := by k_is
end
theorem dn_kind : builtinKind "dict.__new__" = some .builtinFn := by decide +kernel
theorem dn_split : splitId "dict.__new__" = some ("dict", "__new__") := by decide +kernel
theorem dn_sig : (Manifest.signature? "dict.__new__").isSome = true := by decide +kernel
theorem dn_plain : plainId "dict.__new__" = true := by decide +kernel
theorem dn_entry : entryFor table "dict.__new__" = some Builtin.«dict.__new__» := entryFor_of_tree (by kernel_rfl)
theorem dn_args (a b : Value) : argsOk "dict.__new__" ⟨[a, b], []⟩ := by unfold argsOk; kernel_rfl
theorem fn_call : typeLookup (.type "function") "__call__" = pure (some (.builtin "function.__call__")) := by (rewrite [typeLookup_type]; refine (Eq.symm (builtinLookup_eq_fast)) ▸ ?_); kernel_rfl
theorem di_kind : builtinKind "collections.defaultdict.__init__" = some .slot := by decide +kernel
theorem di_split : splitId "collections.defaultdict.__init__" = some ("collections.defaultdict", "__init__") := by decide +kernel
theorem di_plain : plainId "collections.defaultdict.__init__" = true := by decide +kernel
theorem di_entry : entryFor table "collections.defaultdict.__init__" = some Builtin.«collections.defaultdict.__init__» := entryFor_of_tree (by kernel_rfl)
theorem di_args (a b : Value) : argsOk "collections.defaultdict.__init__" ⟨[a, b], []⟩ := by unfold argsOk; kernel_rfl
theorem i_entry : entryFor table "dict.__init__" = some Builtin.«dict.__init__» := entryFor_of_tree (by kernel_rfl)
theorem i_plain : plainId "dict.__init__" = true := by decide +kernel
structure FdMakes (M : Model) (h : Heap) : Prop where
 obj : ∃ oc od cd sl, h.get? 108 = some ⟨oc, od, .cls cd, sl⟩ ∧ cd.abstract = false ∧ cd.hasDel = false ∧ cd.mro.isEmpty = false
 made : Looks M h (Bind.madeBy (.ref 108)) (some "dict.__new__")
 base : Looks M h (Bind.staticBase (.ref 108)) (.ref 108)
 dict : Looks M h (isSubtype (.ref 108) (.type "dict")) true
 self : Looks M h (isSubtype (.ref 108) (.ref 108)) true
 call : Looks M h (specialOf (.ref 108) "__call__") (some (.builtin "type.__call__"))
 typ : Looks M h (isInstance (.ref 108) (.type "type")) true
 mro : Looks M h (mroOf (.ref 108)) [.ref 108, .type "collections.defaultdict", .type "dict", .type "object"]
 init : Looks M h (typeLookup (.ref 108) "__init__") (some (.builtin "collections.defaultdict.__init__"))
theorem fdMakes {M : Model} {h : Heap} {w : World} (X : (hd.heap_1 w.params).In h) : FdMakes M h := by
 obtain ⟨_, ho, oc, od, cd, sl, rfl, e1, e2, e3, e4⟩ := o108x w
 have hc : clsIn (hd.heap_1 w.params) 108 = some cd := by unfold clsIn; rw [ho]
 have hm : Looks M h (mroOf (.ref 108)) cd.mro := (looks_clsIn X hc).andThen .now
 have made : Looks M h (Bind.madeBy (.ref 108)) (some "dict.__new__") := by
  intro A Q E s k q
  unfold Bind.madeBy
  refine wpAny_bind (hm A _ E s k ?_)
  (refine (Eq.symm (e4)) ▸ ?_; rewrite [List.forIn_cons])
  refine wpAny_bind (wpAny_bind (wpAny_bind (wpAny_bind (wpAny_loadPart (k _ _ (X _ _ ho)) (wpAny_pure ?_)))))
  dsimp only
  (refine (Array.getElem?_toList) ▸ ?_; refine (Eq.symm (e3)) ▸ ?_)
  exact wpAny_pure (wpAny_pure (wpAny_pure q))
 refine ⟨⟨oc, od, cd, sl, X _ _ ho, e1, e2, by rw [e4]; rfl⟩, made, ?_, looks_mroIn X (fd_mro_dict w), looks_mroIn X (fd_self w), looks_specialIn X (fd_call w), looks_instIn X (fd_type w), e4 ▸ hm, looks_findIn X (fd_init w)⟩
 intro A Q E s k q
 unfold Bind.staticBase
 refine wpAny_bind (hm A _ E s k ?_)
 (refine (Eq.symm (e4)) ▸ ?_; rewrite [List.forIn_cons])
 exact wpAny_bind (wpAny_bind (wpAny_bind (made A _ E s k (wpAny_pure (wpAny_pure (wpAny_pure q))))))
section
variable {prog : Program} {w : World} {A : Around} {R : Result → Shared → Prop} {h : Heap} {g : Array GenState} {d : Drawn} {t : Nat} {os : OsState}
noncomputable abbrev fdNew (dx : Addr) : Obj := { cls := .ref 108, dict := some dx, data := .dict #[] }
theorem fd_new {v : Value} (Y : FdMakes (model prog w) h)
  (hq : R (.ok (.ret (.ref (h.objs.size + 1)))) ⟨(h.push emptyDict).push (fdNew h.objs.size), g, d, t, os⟩) :
  codeAny (model prog w) A (.call (.builtin "dict.__new__") ⟨[.ref 108, v], []⟩) R ⟨h, g, d, t, os⟩ := by
 obtain ⟨⟨oc, od, cd, sl, hC, e1, e2, e4⟩, made, base, dict, self, call, typ, mro, init⟩ := Y
 refine codeAny_call_builtin dn_plain dn_entry ?_
 simp only [checkBuiltinCall, dn_kind, dn_split]
 have ok := dn_args (.ref 108) v
 cases hsig : Manifest.signature? "dict.__new__" with
 | none => exact absurd (hsig ▸ dn_sig) (by decide)
 | some sig =>
  simp only [argsOk, hsig] at ok
  have h2 : Bind.checkArgs "dict.__new__" sig ⟨[.ref 108, v], []⟩ = pure () := ok
  simp only []
  (refine (Eq.symm (h2)) ▸ ?_)
  repeat (first | simp only [bne_self_eq_false, Bool.false_eq_true, if_false] | lk)
  refine nd_load (Heap.get?_push_of_some _ (Heap.get?_push_of_some _ hC)) ?_
  refine nd_pure ?_
  dsimp only
  rw [e2]
  refine wpAny_pure ?_
  rw [if_neg (by decide)]
  refine wpAny_pure (wpAny_pure ?_)
  rw [Heap.size_push]
  exact hq
theorem fd_make {f : Addr} {fo : Obj} {fd : FuncData} (X : (hd.heap_1 w.params).In h) (hf : h.get? f = some fo) (hfd : fo.data = .func fd) (hfc : fo.cls = .type "function")
  (hq : ∀ h', (∀ b o, h.get? b = some o → h'.get? b = some o) → h'.get? h.objs.size = some emptyDict → h'.get? (h.objs.size + 1) = some { cls := .ref 108, dict := some h.objs.size, data := .dict #[], slots := #[some (.ref f)] } → R (.ok (.ret (.ref (h.objs.size + 1)))) ⟨h', g, d, t, os⟩) :
  codeAny (model prog w) A (.call (.ref 108) ⟨[.ref f], []⟩) R ⟨h, g, d, t, os⟩ := by
 have Y := fdMakes (M := model prog w) X
 have Y' := Y
 obtain ⟨⟨oc, od, cd, sl, hC, e1, e2, e4⟩, made, base, dict, self, call, typ, mro, init⟩ := Y
 refine codeAny_of_tree ?_
 show wpAny _ _ (callAny (.ref 108) _) _ _ _
 refine nd_load hC ?_
 show wpAny _ _ (callAny.viaDunder (.ref 108) _) _ _ _
 unfold callAny.viaDunder
 refine wpAny_bind (call.at ?_)
 dsimp only
 rw [tc_bind]
 refine wpAny_bind (wpAny_pure (wpAny_bind (wpAny_pure ?_)))
 refine wpAny_pure (a := Fin.again (.call (.builtin "type.__call__") ⟨[.ref 108, .ref f], []⟩)) (And.intro rfl ?_)
 refine codeAny_call_builtin_at (Code.quiet_builtin _ (by decide +kernel)) entry_typeCall (check_slot tc_kind tc_split typ (tc_args _ _ _) ?_)
 unfold Builtin.«type.__call__»
 repeat (first | simp only [List.isEmpty_cons, Bool.false_eq_true, if_false] | with_reducible refine wpAny_call ?_ | lk)
 refine fd_new Y' ?_
 dsimp only
 have k1 : ∀ b o, h.get? b = some o → ((h.push emptyDict).push (fdNew h.objs.size)).get? b = some o := fun b o e => Heap.get?_push_of_some _ (Heap.get?_push_of_some _ e)
 have hx : ((h.push emptyDict).push (fdNew h.objs.size)).get? (h.objs.size + 1) = some (fdNew h.objs.size) := by heap_get
 have hdx : ((h.push emptyDict).push (fdNew h.objs.size)).get? h.objs.size = some emptyDict := by heap_get
 have X1 := X.keeps k1
 have L0 : Looks (model prog w) ((h.push emptyDict).push (fdNew h.objs.size)) (typeOf (.ref (h.objs.size + 1))) (.ref 108) := type_looks hx
 have L1 : Looks (model prog w) ((h.push emptyDict).push (fdNew h.objs.size)) (isInstance (.ref (h.objs.size + 1)) (.ref 108)) true := by
  unfold isInstance; exact L0.andThen (self.keeps k1)
 refine wpAny_bind (L1.at ?_)
 rw [if_neg (by decide)]
 refine wpAny_bind (wpAny_holding ?_)
 refine special_B (s := ⟨(h.push emptyDict).push (fdNew h.objs.size), g, d, t, os⟩) X1 hx rfl (fd_init w) (.inl (ty_dd_init w)) ?_
 refine call_I (owner := "collections.defaultdict") (n := "__init__") X1 hx rfl (fd_mro_dd w) (.inl di_kind) di_split di_plain di_entry (di_args _ _) ?_
 unfold Builtin.«collections.defaultdict.__init__»
 dsimp only [List.head?_cons]
 rw [if_pos (show (Value.ref f != Value.none) = true from rfl)]
 have hf1 := k1 _ _ hf
 refine wpAny_bind (wpAny_bind ((type_looks hf1).at ?_))
 (refine (Eq.symm (hfc)) ▸ ?_; refine (Eq.symm (fn_call)) ▸ ?_)
 refine wpAny_pure ?_
 rw [if_neg (by decide)]
 unfold slotAt
 refine wpAny_bind (wpAny_bind (wpAny_loadPart hx (wpAny_pure ?_)))
 refine wpAny_bind ?_
 unfold Builtin.Collections_defaultdict.setFactory
 refine wpAny_bind ?_
 unfold slotAt
 refine wpAny_bind (wpAny_loadPart hx (wpAny_pure ?_))
 (refine (Eq.symm (if_pos (show (some ((Option.join (fdNew h.objs.size).slots[0]?).getD Value.none) != some (Value.ref f)) = true from rfl))) ▸ ?_)
 refine wpAny_bind (wpAny_of_eq (a := ()) (by rfl) ?_)
 unfold setSlotAt
 rw [if_neg (by decide)]
 refine wpAny_updatePart hx ?_
 have hx2 : (((h.push emptyDict).push (fdNew h.objs.size)).update (h.objs.size + 1) fun o => { o with slots := (o.slots ++ Array.replicate (0 + 1 - o.slots.size) none).setIfInBounds 0 (some (.ref f)) }).get? (h.objs.size + 1) = some { cls := .ref 108, dict := some h.objs.size, data := .dict #[], slots := #[some (.ref f)] } := Heap.get?_update_self _ hx rfl
 have hs2 : ∀ b o, b ≠ h.objs.size + 1 → ((h.push emptyDict).push (fdNew h.objs.size)).get? b = some o → (((h.push emptyDict).push (fdNew h.objs.size)).update (h.objs.size + 1) fun o => { o with slots := (o.slots ++ Array.replicate (0 + 1 - o.slots.size) none).setIfInBounds 0 (some (.ref f)) }).get? b = some o := fun b o hb e => (Heap.get?_update_other _ _ (Ne.symm hb)).trans e
 generalize ((((h.push emptyDict).push (fdNew h.objs.size)).update (h.objs.size + 1) fun o => { o with slots := (o.slots ++ Array.replicate (0 + 1 - o.slots.size) none).setIfInBounds 0 (some (.ref f)) }) : Heap) = h2 at hx2 hs2 ⊢
 refine wpAny_bind (wpAny_holding (wpAny_runValue (codeAny_builtin i_entry ?_)))
 unfold Builtin.«dict.__init__» Dict.selfAndRest
 have k2 : ∀ b o, h.get? b = some o → h2.get? b = some o := fun b o e => hs2 b o (fun q => by have := Heap.lt_size e; rw [q] at this; exact absurd this (Nat.not_lt.mpr (Nat.le_succ _))) (k1 b o e)
 have X2 := X.keeps k2
 have T2 := type_looks (M := model prog w) hx2
 have O2 : Looks (model prog w) h2 (isInstance (.ref (h.objs.size + 1)) (.type "collections.OrderedDict")) false := by unfold isInstance; exact T2.andThen (looks_mroIn X2 (fd_not_ordered w))
 refine wpAny_bind (wpAny_bind ?_)
 have no : ∀ {A : Around} {rest : List Value} {Q : Unit → Shared → Prop} {E : Value → Shared → Prop}, Q () ⟨h2, g, d, t, os⟩ → wpAny (model prog w) A (Dict.notOrdered "__init__" ⟨.ref (h.objs.size + 1) :: rest, []⟩) Q E ⟨h2, g, d, t, os⟩ := by
  intro A rest Q E q
  unfold Dict.notOrdered
  split
  ·refine wpAny_bind (T2.at ?_)
   rw [if_pos (show (Value.ref 108 != Value.type "dict") = true from rfl)]
   refine wpAny_bind (O2.at ?_)
   rw [if_neg (by decide)]
   exact wpAny_pure q
  ·exact wpAny_pure q
 refine no ?_
 refine wpAny_bind (wpAny_pure (wpAny_pure ?_))
 refine wpAny_bind (wpAny_of_eq (a := ()) (by rfl) ?_)
 refine wpAny_pure (wpAny_pure ⟨_, rfl, ?_⟩)
 rw [if_neg (by decide)]
 exact wpAny_pure (hq _ k2 (hs2 _ _ (by lia) hdx) hx2)
end
end
section
section
variable (w : World)
theorem fd_dlen : findIn (hd.heap_1 w.params) (.ref 108) "__len__" = some (some (.builtin "dict.__len__")) := by k_is
theorem ty_dlen : typeIn (hd.heap_1 w.params) (.builtin "dict.__len__") = some (.type "wrapper_descriptor") := by k_is
theorem fd_dpop : findIn (hd.heap_1 w.params) (.ref 108) "pop" = some (some (.builtin "dict.pop")) := by k_is
theorem ty_dpop : typeIn (hd.heap_1 w.params) (.builtin "dict.pop") = some (.type "method_descriptor") := by k_is
theorem fd_freeze : findIn (hd.heap_1 w.params) (.ref 108) "freeze" = some (some (.ref 105)) := by k_is
theorem ty_freeze : typeIn (hd.heap_1 w.params) (.ref 105) = some (.type "function") := by k_is
theorem fd_items : findIn (hd.heap_1 w.params) (.ref 108) "items" = some (some (.builtin "dict.items")) := by k_is
theorem ty_items : typeIn (hd.heap_1 w.params) (.builtin "dict.items") = some (.type "method_descriptor") := by k_is
theorem fd_iter : findIn (hd.heap_1 w.params) (.ref 108) "__iter__" = some (some (.builtin "dict.__iter__")) := by k_is
theorem ty_iter : typeIn (hd.heap_1 w.params) (.builtin "dict.__iter__") = some (.type "wrapper_descriptor") := by k_is
end
theorem not_sys {x : Addr} (h : 108 < x) : (x == sysModules) = false := by
  rw [beq_eq_false_iff_ne]; intro e; rw [e] at h; exact absurd h (by decide)
section
variable {w : World} {A : Around} {E : Value → Shared → Prop} {h₀ h : Heap} {g : Array GenState} {d : Drawn} {t : Nat} {os : OsState} {K K' : Led} {mg mb : Str → Option Value} {Kt : Type} [DecidableEq Kt] {knd : KeyKind PP w Kt}
  {dx : Addr} {sl : Array (Option Value)} {kvs : List (Kt × Value)} {x f : Addr} {k : Kt} {key v : Value} {fr : Option Value} {name : Str} {fo : Obj} {fd : FuncData} {pos : Pos}
theorem fd_makeS (knd : KeyKind PP w Kt) {Q : Value → Shared → Prop} (C : Cx w mg mb h₀) (S : St h₀ K h) (mf : (f, exP fo) ∈ K) (hfd : fo.data = .func fd) (hfc : fo.cls = .type "function")
    (q : ∀ x dx h', 108 < x → St h₀ ((x, dP knd (.ref 108) (some dx) #[some (.ref f)] []) :: (dx, fzP none) :: K) h' → Q (.ref x) ⟨h', g, d, t, os⟩) :
    wpAny (model PP w) A (call (.ref 108) [.ref f] []) Q E ⟨h, g, d, t, os⟩ := by
  (refine xEA (S.get mf) fun fo' hf zq2 => ?_; subst zq2)
  have X := C.X.keeps S.keep
  refine xEA (o108x w) fun zu0 ho zu2 => ?_
  have lt := Heap.lt_size (X _ _ ho)
  refine wpAny_call (fd_make X hf hfd hfc fun h' hk hd hx => q (h.objs.size + 1) h.objs.size h' (Nat.lt_succ_of_lt lt) ?_)
  have S₁ : St h₀ ((h.objs.size, fzP none) :: K) h' := (S.ext hk).add hd ⟨[], 0, rfl, rfl⟩ (S.none_of_lt (Nat.le_refl _)) fun p hp e => Nat.lt_irrefl _ (by have := S.lt (a := p.1) (P := p.2) hp; rw [e] at this; exact this)
  refine S₁.add hx ⟨rfl, rfl, rfl, #[], 0, rfl, fun _ he => by simp at he, Pairs.nil, List.nodup_nil⟩ (S.none_of_lt (Nat.le_succ _)) fun p hp e => ?_
  rcases List.mem_cons.mp hp with rfl | hp
  · exact absurd e (Nat.ne_of_lt (Nat.lt_succ_self _))
  · have := S.lt (a := p.1) (P := p.2) hp
    rw [e] at this
    exact absurd this (Nat.not_lt.mpr (Nat.le_succ _))
theorem cw_fd {Q : Value → Shared → Prop} {args : List (Bool × Sem Value)} (C : Cx w mg mb h₀) {s : Shared}
    (hh : wpAny (model PP w) A (spliced args) (fun vs s' => (∀ b o, h₀.get? b = some o → s'.heap.get? b = some o) ∧ wpAny (model PP w) A (call (.ref 108) vs []) Q E s') E s) (hp : args.any (·.1) = false := by rfl) :
    wpAny (model PP w) A (callWith pos (.ref 108) [] args []) Q E s := by
  unfold callWith
  refine wpAny_bind (wpAny_holding (ea_any hp (wpAny_mono hh (fun vs s' z => ?_) fun _ _ z => z)))
  obtain ⟨hk, z⟩ := z
  have X := C.X.keeps hk
  (refine xEAEEEEA (o108x w) fun zu0 ho oc od cd sl zq6 zu7 => ?_; subst zq6)
  refine wpAny_bind (wpAny_standAt ?_)
  simp only [hp, List.any_nil, Bool.or_false]
  refine wpAny_bind (m := keeperOf (.ref 108)) ?_
  unfold keeperOf
  refine wpAny_bind (wpAny_load (X _ _ ho) ?_)
  dsimp only
  refine wpAny_bind ((looks_specialIn X (fd_call w)).here ?_)
  rw [if_pos (by decide)]
  refine wpAny_pure ?_
  exact wpAny_bind (wpAny_mono z (fun r s₂ hr => wpAny_bind (wpAny_holding (wpAny_point (wpAny_pure hr)))) fun _ _ x => x)
theorem fd_len {Q : Value → Shared → Prop} (C : Cx w mg mb h₀) (S : St h₀ K h) (m : (x, dP knd (.ref 108) (some dx) sl kvs) ∈ K) (hx : 108 < x) (hfit : kvs.length < 2 ^ 62) (q : Q (.int kvs.length (t + 1)) ⟨h, g, d, t + 1 + 1, os⟩) :
    wpAny (model PP w) A (call (.builtin "len") [.ref x] []) Q E ⟨h, g, d, t, os⟩ := by
  refine xEAAAAEEAAA (S.get m) fun o ho hc zu3 zu4 es ep hd zu8 hp zu10 => ?_
  have X := C.X.keeps S.keep
  have hsz : es.size = kvs.length := by have e1 := hp.length; have e2 : es.toList.length = es.size := by simp
                                        assumption
  refine call_function_entry kind_len plain_len entry_len (args_len1 _) ?_
  unfold Builtin.«len»
  refine wpAny_bind (m := oneArg "len" _) (wpAny_pure ?_)
  refine wpAny_bind ?_
  refine special_B (s := ⟨h, g, d, t, os⟩) X ho hc (fd_dlen w) (.inl (ty_dlen w)) ?_
  refine call_I (owner := "dict") (n := "__len__") X ho hc (fd_mro_dict w) (by decide +kernel) (by decide +kernel) (by decide +kernel) F.entry_dict_len (F.args_dict_len_1 _) ?_
  unfold Builtin.«dict.__len__» Dict.dictSlotNone
  refine wpAny_bind (wpAny_bind (fd_notOrdered C S m ?_))
  refine wpAny_bind (wpAny_pure (wpAny_pure ?_))
  refine wpAny_bind (wpAny_pure ?_)
  unfold dictSize
  refine wpAny_bind (wpAny_bind (wpAny_dictEntries (s := ⟨h, g, d, t, os⟩) ho hd ?_))
  refine wpAny_pure ?_
  unfold Dict.pendingCount
  rw [if_neg (by rw [not_sys hx]; decide)]
  refine wpAny_bind (wpAny_pure ?_)
  refine wpAny_bind (wpAny_mkInt (wpAny_pure ⟨_, rfl, ?_⟩))
  refine wpAny_bind (wpAny_holding (wpAny_pure ?_))
  refine wpAny_bind (wpAny_letGo ?_)
  (refine (Eq.symm (hsz)) ▸ ?_)
  show wpAny _ _ (if ((kvs.length + 0 : Nat) : Int) < 0 then _ else _) _ _ _
  rw [if_neg (by (exact Int.not_lt.mpr (Int.natCast_nonneg _)))]
  show wpAny _ _ (if ((kvs.length + 0 : Nat) : Int) ≥ 2 ^ 63 then _ else _) _ _ _
  rw [if_neg (by lia)]
  exact wpAny_bind (wpAny_mkInt (wpAny_pure ⟨_, rfl, q⟩))
end
end
section
structure SrcN (prog : Program) (w : World) (A : Around) (g : Array GenState) (d : Drawn) (os : OsState) (h₀ : Heap) (it : Addr) (n : Nat) (val : Nat → Value → Led → Prop) (sP : Nat → Pr) (ok : Led → Prop) : Prop where
 item : ∀ {i K h t} {Q : Option Value → Shared → Prop} {E : Value → Shared → Prop}, i < n → ok K → St h₀ ((it, sP i) :: K) h → (∀ v N h' t', val i v N → St h₀ ((it, sP (i + 1)) :: N ++ K) h' → Q (some v) ⟨h', g, d, t', os⟩) →
  wpAny (model prog w) A (pyNext (.ref it)) Q E ⟨h, g, d, t, os⟩
 stop : ∀ {K h t} {Q : Option Value → Shared → Prop} {E : Value → Shared → Prop}, ok K → St h₀ ((it, sP n) :: K) h → (∀ h' t', St h₀ K h' → Q none ⟨h', g, d, t', os⟩) →
  wpAny (model prog w) A (pyNext (.ref it)) Q E ⟨h, g, d, t, os⟩
inductive Got (val : Nat → Value → Led → Prop) : Nat → List Value → Led → Prop
 | nil : Got val 0 [] []
 | snoc {i vs Ns v N} : Got val i vs Ns → val i v N → Got val (i + 1) (vs ++ [v]) (N ++ Ns)
theorem Got.length {val : Nat → Value → Led → Prop} {i vs Ns} (x : Got val i vs Ns) : vs.length = i := by
 induction x with
 | nil => rfl
 | snoc _ _ ih => rw [List.length_append, ih]; rfl
section
variable {prog : Program} {w : World} {A : Around} {E : Value → Shared → Prop} {h₀ h : Heap} {g : Array GenState} {d : Drawn} {t : Nat} {os : OsState} {K : Led} {it S₀ : Addr} {n : Nat} {val : Nat → Value → Led → Prop} {sP : Nat → Pr} {ok : Led → Prop}
theorem led_swap {a b : Addr × Pr} {N K : Led} {h₀ h : Heap} (S : St h₀ (a :: N ++ b :: K) h) : St h₀ (b :: a :: N ++ K) h :=
 S.perm (by
  have : (a :: N ++ b :: K).Perm (b :: (a :: N ++ K)) := List.perm_middle
  exact this.symm)
theorem ext_loop {R : Result → Shared → Prop} {res : Value} (X : ∀ A, A.handled = none → SrcN prog w A g d os h₀ it n val sP ok) (hh : A.handled = none) (hok : ∀ K p, ok K → ok (p :: K)) (hokN : ∀ N K, ok K → ok (N ++ K)) (hn : n ≤ sizeLine)
  (q : ∀ vs Ns h t, Got val n vs Ns → St h₀ ((S₀, lsP vs) :: Ns ++ K) h → R (.ok (.ret res)) ⟨h, g, d, t, os⟩) (hK : ok K) :
  ∀ (k i : Nat) (vs : List Value) (Ns : Led) (h : Heap) (t : Nat), n - i = k → i ≤ n → Got val i vs Ns → St h₀ ((it, sP i) :: (S₀, lsP vs) :: Ns ++ K) h →
   codeAny (model prog w) A (.builtin "list.extend.loop" ⟨[.ref S₀, .ref it, res], []⟩) R ⟨h, g, d, t, os⟩ := by
 intro k
 induction k with
 | zero =>
  intro i vs Ns h t hk hi G S
  have e : i = n := by lia
  subst e
  refine codeAny_builtin PySem.F.entry_extend_loop ?_
  rw [Around.under_plainId PySem.F.plain_extend_loop _]
  show wpAny _ A.in1 (pyNext (.ref it) >>= _) _ _ _
  refine wpAny_bind ((X A.in1 hh).stop (hok _ _ (hokN _ _ hK)) S fun h' t' S' => ?_)
  exact wpAny_pure (q vs Ns h' t' G S')
 | succ k ih =>
  intro i vs Ns h t hk hi G S
  refine codeAny_builtin PySem.F.entry_extend_loop ?_
  rw [Around.under_plainId PySem.F.plain_extend_loop _]
  show wpAny _ A.in1 (pyNext (.ref it) >>= _) _ _ _
  refine wpAny_bind ((X A.in1 hh).item (by omega) (hok _ _ (hokN _ _ hK)) S fun v N h' t' hv S' => ?_)
  have S₁ : St h₀ ((S₀, lsP vs) :: (it, sP (i + 1)) :: N ++ (Ns ++ K)) h' := led_swap S'
  show wpAny _ A.in1 (updateSeq S₀ (·.push v) >>= _) _ _ _
  (refine xEAE (S₁.get (.head _)) fun o ho c zq3 => ?_; subst zq3)
  have hl := G.length
  refine wpAny_bind ?_
  refine wpAny_updateSeq ho rfl (wpAny_pure ⟨plainId_quiet PySem.F.plain_extend_loop _, ?_⟩) (by rw [List.size_toArray]; lia) (by show (vs.toArray.push v).size ≤ sizeLine + 1; rw [Array.size_push, List.size_toArray]; lia)
  have e := Heap.get?_update_self (Obj.mapSeq (·.push v)) ho rfl
  have S₂ : St h₀ ((S₀, lsP (vs ++ [v])) :: (it, sP (i + 1)) :: N ++ (Ns ++ K)) (h'.update S₀ (Obj.mapSeq (·.push v))) := S₁.upd .head (Heap.SameBut.update ..).extBut e ⟨_, by rw [← List.push_toArray]; rfl⟩
  refine ih (i + 1) (vs ++ [v]) (N ++ Ns) _ _ (by lia) (by lia) (G.snoc hv) ?_
  have S₃ := S₂.swap
  simpa using S₃
theorem list_of {Q : Value → Shared → Prop} {r : Addr} {T : Value} {val : Nat → Value → Led → Prop} {sP : Nat → Pr} (hh : A.handled = none) (hok : ∀ K p, ok K → ok (p :: K)) (hokN : ∀ N K, ok K → ok (N ++ K)) (hn : n ≤ sizeLine) (hK : ok K) (S : St h₀ K h)
  (hT : Looks (model prog w) h (typeOf (.ref r)) T) (hTl : (T == .type "list" || T == .type "tuple") = false) (hr : ∀ S₀, S₀ = h.objs.size → S₀ ≠ r)
  (X : ∀ it A, A.handled = none → SrcN prog w A g d os h₀ it n val sP ok)
  (hiter : ∀ {S₀ h' t A} {Q : Value → Shared → Prop} {E : Value → Shared → Prop}, (∀ b o, h.get? b = some o → b ≠ S₀ → h'.get? b = some o) → St h₀ ((S₀, lsP []) :: K) h' → (∀ it h'' t', St h₀ ((it, sP 0) :: (S₀, lsP []) :: K) h'' → Q (.ref it) ⟨h'', g, d, t', os⟩) →
   wpAny (model prog w) A (pyIter (.ref r)) Q E ⟨h', g, d, t, os⟩)
  (hhint : ∀ {S₀ it h' t A} {Q : Bool → Shared → Prop} {E : Value → Shared → Prop}, St h₀ ((it, sP 0) :: (S₀, lsP []) :: K) h' → (∀ b t', Q b ⟨h', g, d, t', os⟩) → wpAny (model prog w) A (Builtin.List.listLengthHint (.ref r)) Q E ⟨h', g, d, t, os⟩)
  (q : ∀ S₀ vs Ns h t, Got val n vs Ns → St h₀ ((S₀, lsP vs) :: Ns ++ K) h → Q (.ref S₀) ⟨h, g, d, t, os⟩) :
  wpAny (model prog w) A (call (.type "list") [.ref r] []) Q E ⟨h, g, d, t, os⟩ := by
 refine callType_codes (Q₁ := fun obj s₁ => obj = .ref h.objs.size ∧ s₁ = ⟨h.push { cls := .type "list", data := .seq #[] }, g, d, t, os⟩) PySem.F.called_list (PySem.F.typeCall_list_1 _) PySem.F.entry_list_init
  (code_list_new (s := ⟨h, g, d, t, os⟩) _ ⟨rfl, rfl⟩) fun obj s₁ h₁ => ?_
 obtain ⟨rfl, rfl⟩ := h₁
 have S₁ : St h₀ ((h.objs.size, lsP []) :: K) (h.push { cls := .type "list", data := .seq #[] }) := S.push ⟨0, rfl⟩ rfl
 have hS : (h.push { cls := .type "list", data := .seq #[] }).get? h.objs.size = some { cls := .type "list", data := .seq #[] } := Heap.get?_push_size _ rfl
 refine ⟨⟨_, hS, rfl⟩, PySem.F.args_list_init_2 _ _, ?_⟩
 show wpAny _ _ (do let old ← Builtin.List.listItems (.ref h.objs.size); Builtin.List.listUpdate (.ref h.objs.size) (fun _ => #[]); letGo old.toList.reverse; Builtin.List.listExtendWith (.ref h.objs.size) (.ref r) .none) _ _ _
 refine wpAny_bind ?_
 unfold Builtin.List.listItems
 refine wpAny_bind (wpAny_seqItems hS rfl (wpAny_pure ?_))
 show wpAny _ _ (updateSeq h.objs.size (fun _ => #[]) >>= fun _ => letGo (#[] : Array Value).toList.reverse >>= fun _ => Builtin.List.listExtendWith (.ref h.objs.size) (.ref r) .none) _ _ _
 refine wpAny_bind (wpAny_updateSeq hS rfl ?_)
 have e2 := Heap.get?_update_self (Obj.mapSeq (fun _ => (#[] : Array Value))) hS rfl
 have S₂ : St h₀ ((h.objs.size, lsP []) :: K) ((h.push { cls := .type "list", data := .seq #[] }).update h.objs.size (Obj.mapSeq (fun _ => (#[] : Array Value)))) := S₁.upd .head (Heap.SameBut.update ..).extBut e2 ⟨_, rfl⟩
 have k2 : ∀ b o, h.get? b = some o → ((h.push { cls := .type "list", data := .seq #[] }).update h.objs.size (Obj.mapSeq (fun _ => (#[] : Array Value)))).get? b = some o := fun b o e =>
  (Heap.get?_update_other _ _ (Nat.ne_of_gt (Heap.lt_size e))).trans (Heap.get?_push_of_some _ e)
 refine wpAny_bind (wpAny_letGo ?_)
 unfold Builtin.List.listExtendWith
 refine wpAny_bind ((hT.keeps k2).at ?_)
 have h1 : Builtin.List.listSameRef (.ref h.objs.size) (.ref r) = false := by simp [Builtin.List.listSameRef, hr _ rfl]
 simp only [h1, Bool.false_or, hTl, Bool.false_eq_true, if_false]
 refine wpAny_bind (hiter (fun b o e _ => k2 b o e) S₂ fun it h₃ t₃ S₃ => ?_)
 refine wpAny_bind (wpAny_holding (hhint S₃ fun b t₄ => ?_))
 have fin : ∀ h₅ t₅, St h₀ ((it, sP 0) :: (h.objs.size, lsP []) :: K) h₅ → codeAny (model prog w) A.in1 (.builtin "list.extend.loop" ⟨[.ref h.objs.size, .ref it, .none], []⟩) (wants (fun r s₂ => r = .none ∧ Q (.ref h.objs.size) s₂) E) ⟨h₅, g, d, t₅, os⟩ := fun h₅ t₅ S₅ =>
  ext_loop (A := A.in1) (X it) (show A.in1.handled = none from hh) hok hokN hn (fun vs Ns h' t' G S' => ⟨rfl, q _ vs Ns h' t' G S'⟩) hK n 0 [] [] h₅ t₅ (Nat.sub_zero _) (Nat.zero_le _) .nil S₅
 refine wpAny_ite_split (fun _ => ?_) (fun _ => wpAny_pure ⟨plainId_quiet PySem.F.plain_extend_loop _, fin _ _ S₃⟩)
 refine wpAny_bind (wpAny_rule ?_)
 refine wpAny_bind ?_
 show wpAny _ _ (updateSeq h.objs.size (·.push .none) >>= fun _ => updateSeq h.objs.size (·.pop)) _ _ _
 (refine xEAE (S₃.get (.tail _ (.head _))) fun o3 ho3 c3 zq3 => ?_; subst zq3)
 refine wpAny_bind (wpAny_updateSeq ho3 rfl ?_)
 have e4 := Heap.get?_update_self (Obj.mapSeq (·.push Value.none)) ho3 rfl
 refine wpAny_updateSeq (hz := by seq_fits) e4 rfl ?_
 have e5 := Heap.get?_update_self (Obj.mapSeq (·.pop)) e4 rfl
 refine wpAny_pure ⟨plainId_quiet PySem.F.plain_extend_loop _, fin _ _ ?_⟩
 exact (S₃.upd (P' := lsP []) (.tail .head) (fun b o hb e => (Heap.get?_update_other _ _ (Ne.symm hb)).trans ((Heap.get?_update_other _ _ (Ne.symm hb)).trans e)) e5 ⟨_, rfl⟩)
end
end
section
noncomputable def dE {prog : Program} {w : World} {Kt : Type} [DecidableEq Kt] (knd : KeyKind prog w Kt) (c : Value) (od : Option Addr) (sl : Array (Option Value)) (kvs : List (Kt × Value)) (ep : Nat) : Pr :=
 fun o => o.cls = c ∧ o.dict = od ∧ o.slots = sl ∧ ∃ es, o.data = .dict es ep ∧ KeysOf knd es ∧ Pairs knd es.toList kvs ∧ (kvs.map (·.1)).Nodup
noncomputable def kiP (d n ep : Nat) (i : Nat) : Pr := fun o => o.cls = .type "dict_keyiterator" ∧ o.data = .fields #[.ref d, .int i 0, .int n 0, .int ep 0]
section
variable {prog : Program} {w : World} {A : Around} {E : Value → Shared → Prop} {h₀ h : Heap} {g : Array GenState} {d : Drawn} {t : Nat} {os : OsState} {K K' : Led} {Kt : Type} [DecidableEq Kt] {knd : KeyKind prog w Kt}
 {c : Value} {od : Option Addr} {sl : Array (Option Value)} {kvs : List (Kt × Value)} {ep : Nat} {x it : Addr} {M : Model}
theorem dE.dP {o : Obj} (p : dE knd c od sl kvs ep o) : dP knd c od sl kvs o := by (revert p; intro zh; refine xAAAE zh fun a b e es r => ?_; clear zh); exact ⟨a, b, e, es, ep, r⟩
theorem St.openE (S : St h₀ K h) (m : (x, dP knd c od sl kvs) ∈ K) : ∃ ep K', St h₀ K' h ∧ Up x (dP knd c od sl kvs) (dE knd c od sl kvs ep) K K' ∧ Up x (dE knd c od sl kvs ep) (dP knd c od sl kvs) K' K := by
 refine xEAAAAEE (S.get m) fun o e a b c' es ep r => ?_
 (refine xEE (List.append_of_mem m) fun r1 r2 zq2 => ?_; subst zq2)
 have u1 : ∀ r1 : Led, Up x (Mine.dP knd c od sl kvs) (dE knd c od sl kvs ep) (r1 ++ (x, Mine.dP knd c od sl kvs) :: r2) (r1 ++ (x, dE knd c od sl kvs ep) :: r2) ∧ Up x (dE knd c od sl kvs ep) (Mine.dP knd c od sl kvs) (r1 ++ (x, dE knd c od sl kvs ep) :: r2) (r1 ++ (x, Mine.dP knd c od sl kvs) :: r2) := fun r1 => by
  induction r1 with
  | nil => exact ⟨.head, .head⟩
  | cons p r ih => exact ⟨.tail ih.1, .tail ih.2⟩
 exact ⟨ep, _, S.upd (u1 r1).1 (Heap.ExtBut.refl _ _) e ⟨a, b, c', es, r⟩, (u1 r1).1, (u1 r1).2⟩
theorem ki_front {o : Obj} {i n : Nat} (p : kiP x n ep i o) : o.cls = .type "dict_keyiterator" ∧ o.data = .fields #[.ref x, .int i 0, .int n 0, .int ep 0] := p
theorem ki_item {i : Nat} {Q : Option Value → Shared → Prop} {kv : Kt × Value} (S : St h₀ ((it, kiP x kvs.length ep i) :: K) h) (m : (x, dE knd c od sl kvs ep) ∈ K) (hx : kvs[i]? = some kv)
  (q : ∀ v h', knd.is kv.1 v = true → St h₀ ((it, kiP x kvs.length ep (i + 1)) :: K) h' → Q (some v) ⟨h', g, d, t, os⟩) : wpAny (model prog w) A (pyNext (.ref it)) Q E ⟨h, g, d, t, os⟩ := by
 refine xEAA (S.get (.head _)) fun o ho hc hd => ?_
 refine xEAAAAEAAA (S.get (List.Mem.tail _ m)) fun ox hox zu2 zu3 zu4 es hdd hk hp hn => ?_
 have hT : Shared.TypeIs ⟨h, g, d, t, os⟩ (.ref it) "dict_keyiterator" := ⟨o, ho, hc⟩
 have hsz : es.size = kvs.length := by rw [← hp.length]; simp
 have hlt : i < es.size := by rw [hsz]; exact (List.getElem?_eq_some_iff.mp hx).1
 obtain ⟨hkey, -⟩ := hp.get? (e := es[i]) (by simp [hlt]) hx
 unfold pyNext
 refine wpAny_bind (wpAny_attempt (wpAny_callSpecial?_slot (name := Str.ofString "__next__") hT F.slot_dict_keyiterator_next (wpAny_call_entry F.slot_dict_keyiterator_next hT F.entry_dict_keyiterator_next ?_ (F.args_dict_keyiterator_next_1 _))))
 refine wpAny_bind (wpAny_pure (wpAny_bind (wpAny_bind (wpAny_bind (wpAny_typeNameOfWhole_keyiter hT (wpAny_pure (wpAny_bind (wpAny_fieldsOf ho hd ?_))))))))
 (refine (Eq.symm (show Builtin.Dict_items.ownsTuple "dict_keyiterator" = false by decide)) ▸ ?_)
 show wpAny _ _ (if (Value.ref x == Value.none) = true then _ else _) _ _ _
 rw [if_neg (show ¬ ((Value.ref x == Value.none) = true) from Bool.false_ne_true)]
 refine wpAny_bind (wpAny_pure (wpAny_bind (wpAny_dictEntries (s := ⟨h, g, d, t, os⟩) hox hdd ?_)))
 rw [if_neg (by rw [hsz]; simp)]
 refine wpAny_bind (wpAny_pure (wpAny_bind (wpAny_dictEpoch (s := ⟨h, g, d, t, os⟩) hox hdd ?_)))
 rw [if_neg (by simp)]
 refine wpAny_pure ?_
 simp only [show ¬ ((i : Int) < 0) from by (exact Int.not_lt.mpr (Int.natCast_nonneg _)), if_false, Int.toNat_natCast, Array.getElem?_eq_getElem hlt]
 refine wpAny_bind (wpAny_bind (wpAny_typeNameOfWhole_keyiter hT (wpAny_pure (wpAny_bind (wpAny_isOneOf_keyiter hT ?_)))))
 show wpAny _ _ (setField (.ref it) 1 (rawInt ((i : Int) + 1)) >>= _) _ _ _
 refine wpAny_bind (wpAny_setField (s := ⟨h, g, d, t, os⟩) ho hd (by simp) ?_)
 have e1 := Heap.get?_update_self (Obj.mapFields (·.setIfInBounds 1 (rawInt ((i : Int) + 1)))) ho (Obj.isFreed_of_fields (Obj.data_mapFields hd _))
 have S₁ : St h₀ ((it, kiP x kvs.length ep (i + 1)) :: K) (h.update it (Obj.mapFields (·.setIfInBounds 1 (rawInt ((i : Int) + 1))))) :=
  S.upd .head (Heap.SameBut.update ..).extBut e1 ⟨(Obj.cls_mapFields ..).trans hc, by rw [Obj.data_mapFields hd]; simp [rawInt]⟩
 refine xEAA (S₁.get (.head _)) fun o1 ho1 hc1 zu3 => ?_
 refine wpAny_bind (wpAny_holding (wpAny_bind (wpAny_isOneOf_keyiter (s := ⟨_, g, d, t, os⟩) ⟨o1, ho1, hc1⟩ ?_)))
 show wpAny _ _ (pure es[i].key) _ _ _
 exact wpAny_pure (wpAny_pure ⟨_, rfl, wpAny_pure (q _ _ hkey S₁)⟩)
theorem St.gone1 {P : Pr} {h' : Heap} (S : St h₀ ((it, P) :: K) h) (he : Heap.ExtBut it h h') : St h₀ K h' := by
 refine ⟨fun b o e => he b o (fun q => ?_) (S.keep b o e), fun p hp => ?_, S.dropHead.new, S.dropHead.nd⟩
 ·have := S.new _ (List.Mem.head _)
  rw [← q, e] at this; cases this
 ·refine xEA (S.dropHead.ent p hp) fun o e z => ?_
  refine ⟨o, he _ _ (fun q => ?_) e, z⟩
  have nd := S.nd
  rw [List.map_cons, List.nodup_cons] at nd
  exact nd.1 (by (refine (q) ▸ ?_); exact List.mem_map.mpr ⟨p, hp, rfl⟩)
theorem ki_stop {Q : Option Value → Shared → Prop} (hh : A.handled = none) (S : St h₀ ((it, kiP x kvs.length ep kvs.length) :: K) h) (m : (x, dE knd c od sl kvs ep) ∈ K)
  (q : ∀ h', St h₀ K h' → Q none ⟨h', g, d, t, os⟩) : wpAny (model prog w) A (pyNext (.ref it)) Q E ⟨h, g, d, t, os⟩ := by
 refine xEAA (S.get (.head _)) fun o ho hc hd => ?_
 refine xEAAAAEAAA (S.get (List.Mem.tail _ m)) fun ox hox zu2 zu3 zu4 es hdd hk hp hn => ?_
 have hT : Shared.TypeIs ⟨h, g, d, t, os⟩ (.ref it) "dict_keyiterator" := ⟨o, ho, hc⟩
 have hsz : es.size = kvs.length := by rw [← hp.length]; simp
 unfold pyNext
 refine wpAny_bind (wpAny_attempt (wpAny_callSpecial?_slot (name := Str.ofString "__next__") hT F.slot_dict_keyiterator_next (wpAny_call_entry F.slot_dict_keyiterator_next hT F.entry_dict_keyiterator_next ?_ (F.args_dict_keyiterator_next_1 _))))
 refine wpAny_bind (wpAny_pure (wpAny_bind (wpAny_bind (wpAny_bind (wpAny_typeNameOfWhole_keyiter hT (wpAny_pure (wpAny_bind (wpAny_fieldsOf ho hd ?_))))))))
 (refine (Eq.symm (show Builtin.Dict_items.ownsTuple "dict_keyiterator" = false by decide)) ▸ ?_)
 show wpAny _ _ (if (Value.ref x == Value.none) = true then _ else _) _ _ _
 rw [if_neg (show ¬ ((Value.ref x == Value.none) = true) from Bool.false_ne_true)]
 refine wpAny_bind (wpAny_pure (wpAny_bind (wpAny_dictEntries (s := ⟨h, g, d, t, os⟩) hox hdd ?_)))
 rw [if_neg (by rw [hsz]; simp)]
 refine wpAny_bind (wpAny_pure (wpAny_bind (wpAny_dictEpoch (s := ⟨h, g, d, t, os⟩) hox hdd ?_)))
 rw [if_neg (by simp)]
 refine wpAny_pure ?_
 simp only [show ¬ ((kvs.length : Int) < 0) from by (exact Int.not_lt.mpr (Int.natCast_nonneg _)), if_false, Int.toNat_natCast, Array.getElem?_eq_none (Nat.le_of_eq hsz)]
 refine wpAny_bind (wpAny_bind (wpAny_typeNameOfWhole_keyiter hT (wpAny_pure ?_)))
 show wpAny _ _ (setField (.ref it) 0 .none >>= _) _ _ _
 refine wpAny_bind (wpAny_setField (s := ⟨h, g, d, t, os⟩) ho hd (by simp) ?_)
 show wpAny _ _ (newExc (.type "StopIteration") [] >>= _) _ _ _
 refine wpAny_bind ?_
 simp only [newExc, newTuple]
 refine wpAny_bind (wpAny_newObj_type ?_ (by size_fits))
 refine wpAny_bind (m := firstArgMember _ _) (wpAny_of_eq (a := Value.none) (by first | rfl | (simp only [firstArgMember]; rfl)) ?_)
 refine wpAny_newObj_type ?_ (by size_fits)
 simp only [raiseNew]
 refine wpAny_bind (wpAny_handled ?_)
 (refine (Eq.symm (show A.in1.handled = none from hh)) ▸ ?_)
 refine wpAny_bind (wpAny_pure (wpAny_throw ?_))
 refine wpAny_bind (wpAny_isInstance (T := "StopIteration") (b := true) ⟨_, Heap.get?_push_size _ rfl, rfl⟩ isSubtype_stop ?_)
 exact wpAny_pure (q _ (S.gone1 (((Heap.SameBut.update ..).extBut.push _).push _)))
theorem srcKeys (hh : A.handled = none) : SrcN prog w A g d os h₀ it kvs.length (fun i v N => N = [] ∧ ∃ kv, kvs[i]? = some kv ∧ knd.is kv.1 v = true) (kiP x kvs.length ep) (fun K => (x, dE knd c od sl kvs ep) ∈ K) where
 item := fun {i K h t Q E} hi hk S q => by
  obtain ⟨kv, hx⟩ : ∃ kv, kvs[i]? = some kv := ⟨kvs[i], by simp [hi]⟩
  exact ki_item S hk hx fun v h' hv S' => q v [] h' t ⟨rfl, kv, hx, hv⟩ S'
 stop := fun hk S q => ki_stop hh S hk fun h' S' => q h' _ S'
end
end
section
noncomputable def iiP (d n ep : Nat) (i : Nat) : Pr := fun o => ∃ f0 f ok ov, (f0 = Value.none ∨ ∃ a : Nat, f0 = rawInt a) ∧ o = ({ cls := .type "dict_itemiterator", dict := none, data := .fields #[f0, .bool f, .ref d, .int i 0, .int n 0, .int ep 0, ok, ov], slots := #[] } : Obj)
section
variable {prog : Program} {w : World} {A : Around} {E : Value → Shared → Prop} {h₀ h : Heap} {g : Array GenState} {d : Drawn} {t : Nat} {os : OsState} {K K' : Led} {Kt : Type} [DecidableEq Kt] {knd : KeyKind prog w Kt}
 {c : Value} {od : Option Addr} {sl : Array (Option Value)} {kvs : List (Kt × Value)} {ep : Nat} {x it : Addr}
theorem St.setF {h' : Heap} {P : Pr} {o : Obj} (S : St h₀ ((it, P) :: K) h) {P' : Pr} (e : h'.get? it = some o) (p : P' o) (hs : Heap.ExtBut it h h') : St h₀ ((it, P') :: K) h' := S.upd .head hs e p
theorem alive_none {M : Model} {a : Addr} {s : Shared} {Q : Option Obj → Shared → Prop} (ho : s.heap.get? a = none) (q : Q none s) : wpAny M A (loadIfAlive a) Q E s := by
 have h' : Q (s.heap.get? a) s := by rw [ho]; exact q
 exact fun _ _ _ => h'
theorem ii_pair {i : Nat} {key v : Value} {Q : Value → Shared → Prop} (S : St h₀ ((it, iiP x kvs.length ep i) :: K) h)
  (q : ∀ a h', St h₀ ((it, iiP x kvs.length ep i) :: (a, tpP [key, v]) :: K) h' → Q (.ref a) ⟨h', g, d, t, os⟩) : wpAny (model prog w) A (Builtin.Dict_items.pairFromOwner (.ref it) 6 key v) Q E ⟨h, g, d, t, os⟩ := by
 unfold Builtin.Dict_items.pairFromOwner
 refine wpAny_bind (wpAny_newTuple ?_)
 have S₁ : St h₀ ((it, iiP x kvs.length ep i) :: (h.objs.size, tpP [key, v]) :: K) (h.push { cls := .type "tuple", data := .seq #[key, v] }) := (S.push (P := tpP [key, v]) ⟨0, rfl⟩ rfl).swap
 show wpAny _ _ (Builtin.Dict_items.ownedTupleIsFree (.ref it) >>= _) _ _ ⟨h.push { cls := .type "tuple", data := .seq #[key, v] }, g, d, t, os⟩
 generalize h.push { cls := .type "tuple", data := .seq #[key, v] } = h₁ at S₁
 refine wpAny_bind (wpAny_mono (Q := fun b s' => ∃ h₂, s' = ⟨h₂, g, d, t, os⟩ ∧ St h₀ ((it, iiP x kvs.length ep i) :: (h.objs.size, tpP [key, v]) :: K) h₂) (E := fun _ _ => False) ?_ (fun b s' z => ?_) fun _ _ z => z.elim)
 ·unfold Builtin.Dict_items.ownedTupleIsFree
  (refine xEAEEEEA (S₁.get (.head _)) fun o ho f0 f ok ov hf0 zq7 => ?_; subst zq7)
  refine wpAny_bind (wpAny_field (s := ⟨h₁, g, d, t, os⟩) ho rfl (x := f0) rfl ?_)
  rcases hf0 with rfl | ⟨a, rfl⟩
  ·exact wpAny_pure ⟨h₁, rfl, S₁⟩
  ·show wpAny _ _ (loadIfAlive ((a : Int).toNat) >>= _) _ _ _
   rw [Int.toNat_natCast]
   cases ha : h₁.get? a with
   | none =>
    refine wpAny_bind (alive_none (s := ⟨h₁, g, d, t, os⟩) ha ?_)
    exact wpAny_pure ⟨h₁, rfl, S₁⟩
   | some oa =>
    refine wpAny_bind (kdx_alive (s := ⟨h₁, g, d, t, os⟩) ha ?_)
    simp only [Option.isNone_some, Bool.false_eq_true, if_false]
    refine wpAny_bind (wpAny_field (s := ⟨h₁, g, d, t, os⟩) ho rfl (x := .bool f) rfl ?_)
    cases f with
    | true =>
     rw [if_neg (show ¬ ((Value.bool true != Value.bool true) = true) from Bool.false_ne_true)]
     exact wpAny_pure ⟨h₁, rfl, S₁⟩
    | false =>
     rw [if_pos (show (Value.bool false != Value.bool true) = true from rfl)]
     refine wpAny_bind (wpAny_setField_rec (s := ⟨h₁, g, d, t, os⟩) ho (by simp) fun h₃ e₃ s₃ => ?_)
     exact wpAny_pure ⟨h₃, rfl, S₁.setF e₃ ⟨rawInt a, true, ok, ov, .inr ⟨a, rfl⟩, by simp⟩ s₃.extBut⟩
 ·(revert z; intro zh; refine xEA zh fun h₂ zq1 S₂ => ?_; clear zh; subst zq1)
  cases b with
  | false => exact wpAny_pure (q _ _ S₂)
  | true =>
   (refine (Eq.symm (if_pos rfl)) ▸ ?_)
   (refine xEAEEEEA (S₂.get (.head _)) fun o ho f0 f ok ov zu6 zq7 => ?_; subst zq7)
   dsimp only
   refine wpAny_bind (wpAny_field (s := ⟨h₂, g, d, t, os⟩) ho rfl (x := ok) rfl ?_)
   refine wpAny_bind (wpAny_field (s := ⟨h₂, g, d, t, os⟩) ho rfl (x := ov) rfl ?_)
   refine wpAny_bind (wpAny_setField_rec (s := ⟨h₂, g, d, t, os⟩) ho (by simp) fun h₃ e₃ s₃ => ?_)
   refine wpAny_bind (wpAny_setField_rec (s := ⟨h₃, g, d, t, os⟩) e₃ (by simp) fun h₄ e₄ s₄ => ?_)
   refine wpAny_bind (wpAny_setField_rec (s := ⟨h₄, g, d, t, os⟩) e₄ (by simp) fun h₅ e₅ s₅ => ?_)
   refine wpAny_bind (wpAny_setField_rec (s := ⟨h₅, g, d, t, os⟩) e₅ (by simp) fun h₆ e₆ s₆ => ?_)
   refine wpAny_bind (wpAny_letGo (wpAny_pure (q _ _ (S₂.setF e₆ ⟨rawInt h.objs.size, false, key, v, .inr ⟨_, rfl⟩, by simp⟩ fun b o hb e => ?_))))
   exact s₆.extBut b o hb (s₅.extBut b o hb (s₄.extBut b o hb (s₃.extBut b o hb e)))
theorem ii_item {i : Nat} {Q : Option Value → Shared → Prop} {kv : Kt × Value} (S : St h₀ ((it, iiP x kvs.length ep i) :: K) h) (m : (x, dE knd c od sl kvs ep) ∈ K) (hx : kvs[i]? = some kv)
  (q : ∀ a key h', knd.is kv.1 key = true → St h₀ ((it, iiP x kvs.length ep (i + 1)) :: (a, tpP [key, kv.2]) :: K) h' → Q (some (.ref a)) ⟨h', g, d, t, os⟩) : wpAny (model prog w) A (pyNext (.ref it)) Q E ⟨h, g, d, t, os⟩ := by
 (refine xEAEEEEA (S.get (.head _)) fun o ho f0 f ok ov hf0 zq7 => ?_; subst zq7)
 refine xEAAAAEAAA (S.get (List.Mem.tail _ m)) fun ox hox zu2 zu3 zu4 es hdd hk hp hn => ?_
 have hT : Shared.TypeIs ⟨h, g, d, t, os⟩ (.ref it) "dict_itemiterator" := ⟨_, ho, rfl⟩
 have hsz : es.size = kvs.length := by rw [← hp.length]; simp
 have hlt : i < es.size := by rw [hsz]; exact (List.getElem?_eq_some_iff.mp hx).1
 obtain ⟨hkey, hval⟩ := hp.get? (e := es[i]) (by simp [hlt]) hx
 unfold pyNext
 refine wpAny_bind (wpAny_attempt (wpAny_callSpecial?_slot (name := Str.ofString "__next__") hT F.slot_dict_itemiterator_next (wpAny_call_entry F.slot_dict_itemiterator_next hT F.entry_dict_itemiterator_next ?_ (F.args_dict_itemiterator_next_1 _))))
 refine wpAny_bind (wpAny_pure (wpAny_bind (wpAny_bind (wpAny_bind (wpAny_typeNameOfWhole_itemiter hT (wpAny_pure (wpAny_bind (wpAny_fieldsOf ho rfl ?_))))))))
 (refine (Eq.symm (show Builtin.Dict_items.ownsTuple "dict_itemiterator" = true by decide)) ▸ ?_)
 show wpAny _ _ (if (Value.ref x == Value.none) = true then _ else _) _ _ _
 rw [if_neg (show ¬ ((Value.ref x == Value.none) = true) from Bool.false_ne_true)]
 refine wpAny_bind (wpAny_pure (wpAny_bind (wpAny_dictEntries (s := ⟨h, g, d, t, os⟩) hox hdd ?_)))
 rw [if_neg (by rw [hsz]; simp)]
 refine wpAny_bind (wpAny_pure (wpAny_bind (wpAny_dictEpoch (s := ⟨h, g, d, t, os⟩) hox hdd ?_)))
 rw [if_neg (by simp)]
 refine wpAny_pure ?_
 simp only [show ¬ ((i : Int) < 0) from by (exact Int.not_lt.mpr (Int.natCast_nonneg _)), if_false, Int.toNat_natCast, Array.getElem?_eq_getElem hlt]
 refine wpAny_bind (wpAny_bind (wpAny_typeNameOfWhole_itemiter hT (wpAny_pure (wpAny_bind (wpAny_isOneOf_itemiter hT ?_)))))
 show wpAny _ _ (setField (.ref it) 3 (rawInt ((i : Int) + 1)) >>= _) _ _ _
 refine wpAny_bind (wpAny_setField_rec (s := ⟨h, g, d, t, os⟩) ho (by simp) fun h₁ e₁ s₁ => ?_)
 have S₁ : St h₀ ((it, iiP x kvs.length ep (i + 1)) :: K) h₁ := S.setF e₁ ⟨f0, f, ok, ov, hf0, by simp [rawInt]⟩ s₁.extBut
 have hT₁ : Shared.TypeIs ⟨h₁, g, d, t, os⟩ (.ref it) "dict_itemiterator" := ⟨_, e₁, rfl⟩
 refine wpAny_bind (wpAny_holding (wpAny_bind (wpAny_isOneOf_itemiter (s := ⟨h₁, g, d, t, os⟩) hT₁ (wpAny_bind (wpAny_isOneOf_itemiter (s := ⟨h₁, g, d, t, os⟩) hT₁ ?_)))))
 show wpAny _ _ (Builtin.Dict_items.pairFromOwner (.ref it) 6 es[i].key es[i].val) _ _ ⟨h₁, g, d, t, os⟩
 refine ii_pair S₁ fun a h' S' => ?_
 rw [hval] at S'
 exact wpAny_pure ⟨_, rfl, wpAny_pure (q a es[i].key h' hkey S')⟩
theorem ii_stop {Q : Option Value → Shared → Prop} (hh : A.handled = none) (S : St h₀ ((it, iiP x kvs.length ep kvs.length) :: K) h) (m : (x, dE knd c od sl kvs ep) ∈ K)
  (q : ∀ h', St h₀ K h' → Q none ⟨h', g, d, t, os⟩) : wpAny (model prog w) A (pyNext (.ref it)) Q E ⟨h, g, d, t, os⟩ := by
 (refine xEAEEEEA (S.get (.head _)) fun o ho f0 f ok ov hf0 zq7 => ?_; subst zq7)
 refine xEAAAAEAAA (S.get (List.Mem.tail _ m)) fun ox hox zu2 zu3 zu4 es hdd hk hp hn => ?_
 have hT : Shared.TypeIs ⟨h, g, d, t, os⟩ (.ref it) "dict_itemiterator" := ⟨_, ho, rfl⟩
 have hsz : es.size = kvs.length := by rw [← hp.length]; simp
 unfold pyNext
 refine wpAny_bind (wpAny_attempt (wpAny_callSpecial?_slot (name := Str.ofString "__next__") hT F.slot_dict_itemiterator_next (wpAny_call_entry F.slot_dict_itemiterator_next hT F.entry_dict_itemiterator_next ?_ (F.args_dict_itemiterator_next_1 _))))
 refine wpAny_bind (wpAny_pure (wpAny_bind (wpAny_bind (wpAny_bind (wpAny_typeNameOfWhole_itemiter hT (wpAny_pure (wpAny_bind (wpAny_fieldsOf ho rfl ?_))))))))
 (refine (Eq.symm (show Builtin.Dict_items.ownsTuple "dict_itemiterator" = true by decide)) ▸ ?_)
 show wpAny _ _ (if (Value.ref x == Value.none) = true then _ else _) _ _ _
 rw [if_neg (show ¬ ((Value.ref x == Value.none) = true) from Bool.false_ne_true)]
 refine wpAny_bind (wpAny_pure (wpAny_bind (wpAny_dictEntries (s := ⟨h, g, d, t, os⟩) hox hdd ?_)))
 rw [if_neg (by rw [hsz]; simp)]
 refine wpAny_bind (wpAny_pure (wpAny_bind (wpAny_dictEpoch (s := ⟨h, g, d, t, os⟩) hox hdd ?_)))
 rw [if_neg (by simp)]
 refine wpAny_pure ?_
 simp only [show ¬ ((kvs.length : Int) < 0) from by (exact Int.not_lt.mpr (Int.natCast_nonneg _)), if_false, Int.toNat_natCast, Array.getElem?_eq_none (Nat.le_of_eq hsz)]
 refine wpAny_bind (wpAny_bind (wpAny_typeNameOfWhole_itemiter hT (wpAny_pure ?_)))
 show wpAny _ _ (setField (.ref it) 2 .none >>= _) _ _ _
 refine wpAny_bind (wpAny_setField (s := ⟨h, g, d, t, os⟩) ho rfl (by simp) ?_)
 show wpAny _ _ (newExc (.type "StopIteration") [] >>= _) _ _ _
 refine wpAny_bind ?_
 simp only [newExc, newTuple]
 refine wpAny_bind (wpAny_newObj_type ?_ (by size_fits))
 refine wpAny_bind (m := firstArgMember _ _) (wpAny_of_eq (a := Value.none) (by first | rfl | (simp only [firstArgMember]; rfl)) ?_)
 refine wpAny_newObj_type ?_ (by size_fits)
 simp only [raiseNew]
 refine wpAny_bind (wpAny_handled ?_)
 (refine (Eq.symm (show A.in1.handled = none from hh)) ▸ ?_)
 refine wpAny_bind (wpAny_pure (wpAny_throw ?_))
 refine wpAny_bind (wpAny_isInstance (T := "StopIteration") (b := true) ⟨_, Heap.get?_push_size _ rfl, rfl⟩ isSubtype_stop ?_)
 exact wpAny_pure (q _ (S.gone1 (((Heap.SameBut.update ..).extBut.push _).push _)))
theorem srcItems (hh : A.handled = none) : SrcN prog w A g d os h₀ it kvs.length (fun i v N => ∃ a key kv, v = .ref a ∧ N = [(a, tpP [key, kv.2])] ∧ kvs[i]? = some kv ∧ knd.is kv.1 key = true) (iiP x kvs.length ep) (fun K => (x, dE knd c od sl kvs ep) ∈ K) where
 item := fun {i K h t Q E} hi hk S q => by
  obtain ⟨kv, hx⟩ : ∃ kv, kvs[i]? = some kv := ⟨kvs[i], by simp [hi]⟩
  exact ii_item S hk hx fun a key h' hv S' => q (.ref a) [(a, tpP [key, kv.2])] h' t ⟨a, key, kv, rfl, rfl, hx, hv⟩ S'
 stop := fun hk S q => ii_stop hh S hk fun h' S' => q h' _ S'
end
end
section
section
variable {w : World} {A : Around} {E : Value → Shared → Prop} {h₀ h : Heap} {g : Array GenState} {d : Drawn} {t : Nat} {os : OsState} {K K' : Led} {mg mb : Str → Option Value} {Kt : Type} [DecidableEq Kt] {knd : KeyKind PP w Kt}
 {dx : Addr} {sl : Array (Option Value)} {kvs : List (Kt × Value)} {ep : Nat} {x f : Addr} {k : Kt} {key v : Value} {fr : Option Value} {name : Str} {pos : Pos}
theorem St.getE (S : St h₀ K h) {c : Value} {od : Option Addr} (m : (x, dE knd c od sl kvs ep) ∈ K) : ∃ o es, h.get? x = some o ∧ o.cls = c ∧ o.data = .dict es ep ∧ es.size = kvs.length :=
 by refine xEAAAAEAAA (S.get m) fun o ho hc zu3 zu4 es hd zu7 hp zu9 => ?_; exact
 ⟨o, es, ho, hc, hd, by rw [← hp.length]; simp⟩
theorem fd_notOrderedE {nm : String} {rest : List Value} {Q : Unit → Shared → Prop} (C : Cx w mg mb h₀) (S : St h₀ K h) (m : (x, dE knd (.ref 108) (some dx) sl kvs ep) ∈ K) (q : Q () ⟨h, g, d, t, os⟩) :
  wpAny (model PP w) A (Builtin.Dict.notOrdered nm ⟨.ref x :: rest, []⟩) Q E ⟨h, g, d, t, os⟩ := by
 refine xEEAAA (S.getE m) fun o es ho hc zu4 zu5 => ?_
 have X := C.X.keeps S.keep
 have L0 := hc ▸ type_looks (M := model PP w) ho
 have L1 : Looks (model PP w) h (isInstance (.ref x) (.type "collections.OrderedDict")) false := by unfold isInstance; exact L0.andThen (looks_mroIn X (fd_not_ordered w))
 unfold Builtin.Dict.notOrdered
 split
 ·refine wpAny_bind (L0.at ?_)
  rw [if_pos (by decide)]
  refine wpAny_bind (L1.at ?_)
  rw [if_neg (by decide)]
  exact wpAny_pure q
 ·exact wpAny_pure q
theorem bind_iter : bindSpecial (.builtin "dict.__iter__") = fun self => pure (.builtin "dict.__iter__", [self]) := by
 funext self
 exact F.slot_dict_iter.bind self
theorem fd_pyIter {Q : Value → Shared → Prop} (C : Cx w mg mb h₀) (S : St h₀ K h) (m : (x, dE knd (.ref 108) (some dx) sl kvs ep) ∈ K) (hx : 108 < x)
  (q : ∀ it h', St h₀ ((it, kiP x kvs.length ep 0) :: K) h' → Q (.ref it) ⟨h', g, d, t, os⟩) : wpAny (model PP w) A (pyIter (.ref x)) Q E ⟨h, g, d, t, os⟩ := by
 refine xEEAAA (S.getE m) fun o es ho hc hd hsz => ?_
 have X := C.X.keeps S.keep
 have L0 := hc ▸ type_looks (M := model PP w) ho
 have L1 := looks_findIn (M := model PP w) X (fd_iter w)
 unfold pyIter specialOf
 refine wpAny_bind (wpAny_bind (L0.at (L1.at ?_)))
 dsimp only
 have fin : ∀ (Q' : Value → Shared → Prop), (∀ it h', St h₀ ((it, kiP x kvs.length ep 0) :: K) h' → Q' (.ref it) ⟨h', g, d, t, os⟩) → wpAny (model PP w) A (call (.builtin "dict.__iter__") [.ref x] []) Q' E ⟨h, g, d, t, os⟩ := by
  intro Q' q'
  refine call_I (owner := "dict") (n := "__iter__") X ho hc (fd_mro_dict w) (by decide +kernel) (by decide +kernel) (by decide +kernel) F.entry_dict_iter (F.args_dict_iter_1 _) ?_
  unfold Builtin.«dict.__iter__» Builtin.Dict.dictSlotNone
  refine wpAny_bind (wpAny_bind (fd_notOrderedE C S m ?_))
  refine wpAny_bind (wpAny_pure (wpAny_pure ?_))
  refine wpAny_bind (wpAny_pure ?_)
  unfold Builtin.Dict.showsAll
  rw [if_neg (by rw [not_sys hx]; decide)]
  refine wpAny_bind (wpAny_pure (wpAny_bind (wpAny_dictEntries (s := ⟨h, g, d, t, os⟩) ho hd (wpAny_bind (wpAny_dictEpoch (s := ⟨h, g, d, t, os⟩) ho hd ?_)))))
  refine wpAny_bind (wpAny_newObj_type (wpAny_pure ⟨_, rfl, ?_⟩))
  refine q' _ _ (S.push ⟨rfl, ?_⟩ rfl)
  simp [rawInt, hsz]
 have back : ∀ it h', St h₀ ((it, kiP x kvs.length ep 0) :: K) h' → wpAny (model PP w) A (do
   let __do_lift ← specialOf (.ref it) "__next__"
   match __do_lift with
   | none => do rule "iter.non-iterator"; raiseError "TypeError" s!"iter() returned non-iterator of type '{← typeNameOf (.ref it)}'"
   | some _ => pure (Value.ref it)) Q E ⟨h', g, d, t, os⟩ := by
  intro it h' S'
  refine xEAA (S'.get (List.Mem.head _)) fun oi hoi hci zu3 => ?_
  unfold specialOf
  refine wpAny_bind (wpAny_bind ((type_looks (M := model PP w) hoi).at ?_))
  rw [hci]
  refine wpAny_of_eq F.slot_dict_keyiterator_next.lookup ?_
  exact wpAny_pure (q it h' S')
 unfold callSpecialIfBoundUnlessNone? bindSpecialIfBound? specialOf
 refine wpAny_bind (wpAny_holding (wpAny_bind (wpAny_bind (wpAny_bind (L0.at (L1.at ?_))))))
 dsimp only
 (refine (Eq.symm (bind_iter)) ▸ ?_)
 refine wpAny_bind (wpAny_askSetting ?_)
 have fin2 : wpAny (model PP w) A (call (.builtin "dict.__iter__") [.ref x] []) (fun v s' => wpAny (model PP w) A (do
   let __do_lift ← (do let t ← typeOf v; typeLookup t "__next__")
   match __do_lift with
   | none => do rule "iter.non-iterator"; raiseError "TypeError" s!"iter() returned non-iterator of type '{← typeNameOf v}'"
   | some _ => pure v) Q E s') E ⟨h, g, d, t, os⟩ := fin _ fun it h' S' => back it h' S'
 split
 ·refine wpAny_bind (wpAny_pure (wpAny_pure ?_))
  dsimp only
  rw [if_neg (by decide)]
  exact wpAny_bind (wpAny_mono fin2 (fun v s z => wpAny_pure z) fun _ _ z => z)
 ·refine wpAny_tryCatch (wpAny_bind (wpAny_pure (wpAny_pure ?_)))
  dsimp only
  rw [if_neg (by decide)]
  exact wpAny_bind (wpAny_mono fin2 (fun v s z => wpAny_pure z) fun _ _ z => z)
theorem St.asP {c : Value} {od : Option Addr} (S : St h₀ K h) (m : (x, dE knd c od sl kvs ep) ∈ K) : ∃ K', St h₀ K' h ∧ (x, dP knd c od sl kvs) ∈ K' := by
 refine xEA (S.get m) fun o e p => ?_
 (refine xEE (List.append_of_mem m) fun r1 r2 zq2 => ?_; subst zq2)
 have u1 : ∀ r1 : Led, Up x (dE knd c od sl kvs ep) (dP knd c od sl kvs) (r1 ++ (x, dE knd c od sl kvs ep) :: r2) (r1 ++ (x, dP knd c od sl kvs) :: r2) := fun r1 => by
  induction r1 with
  | nil => exact .head
  | cons p r ih => exact .tail ih
 exact ⟨_, S.upd (u1 r1) (Heap.ExtBut.refl _ _) e p.dP, (u1 r1).mem'⟩
theorem fd_hint {Q : Bool → Shared → Prop} (C : Cx w mg mb h₀) (S : St h₀ K h) (m : (x, dE knd (.ref 108) (some dx) sl kvs ep) ∈ K) (hx : 108 < x) (hfit : kvs.length < 2 ^ 62) (q : ∀ b t', Q b ⟨h, g, d, t', os⟩) :
  wpAny (model PP w) A (Builtin.List.listLengthHint (.ref x)) Q E ⟨h, g, d, t, os⟩ := by
 refine xEEAAA (S.getE m) fun o es ho hc hd hsz => ?_
 refine xEA (S.asP m) fun K' S' m' => ?_
 have X := C.X.keeps S.keep
 have L0 := hc ▸ type_looks (M := model PP w) ho
 have L1 := looks_findIn (M := model PP w) X (fd_dlen w)
 have L2 := inst_looks (M := model PP w) X ho hc (fd_mro_dict w)
 unfold Builtin.List.listLengthHint specialOf
 refine wpAny_bind (wpAny_bind (L0.at (L1.at ?_)))
 generalize hid : ("dict.__len__" : String) = id0
 wp_delta
 (refine (Eq.symm (show splitId id0 = some ("dict", "__len__") from by subst hid; decide +kernel)) ▸ ?_)
 subst hid
 refine wpAny_bind (L2.at ?_)
 refine wpAny_ite_split (fun hab => absurd hab (by decide)) (fun _ => ?_)
 refine wpAny_ite_split (fun _ => ?_) (fun hab => absurd (by decide +kernel) hab)
 refine wpAny_bind (L0.at ?_)
 dsimp only
 refine wpAny_bind (fd_len C S' m' hx hfit ?_)
 exact wpAny_bind (wpAny_pure (wpAny_pure (q _ _)))
theorem fd_list {Q : Value → Shared → Prop} (C : Cx w mg mb h₀) (S : St h₀ K h) (hh : A.handled = none) (m : (x, dE knd (.ref 108) (some dx) sl kvs ep) ∈ K) (hx : 108 < x) (hsz : kvs.length ≤ 4096)
  (q : ∀ l vs h' t', All2 (fun v (kv : Kt × Value) => knd.is kv.1 v = true) vs kvs → St h₀ ((l, lsP vs) :: K) h' → Q (.ref l) ⟨h', g, d, t', os⟩) : wpAny (model PP w) A (call (.type "list") [.ref x] []) Q E ⟨h, g, d, t, os⟩ := by
 refine xEEAAA (S.getE m) fun o es ho hc hd zu5 => ?_
 refine list_of (n := kvs.length) (sP := kiP x kvs.length ep) (val := fun i v N => N = [] ∧ ∃ kv, kvs[i]? = some kv ∧ knd.is kv.1 v = true) (ok := fun K => (x, dE knd (.ref 108) (some dx) sl kvs ep) ∈ K) (T := .ref 108) hh (fun K p z => .tail _ z)
  (fun N K z => List.mem_append_right _ z) (szS hsz) m S (hc ▸ type_looks ho) (by decide) (fun S₀ e q => absurd (Heap.lt_size ho) (by (refine (q) ▸ ?_; refine (Eq.symm (e)) ▸ ?_); exact Nat.lt_irrefl _)) (fun it A hA => srcKeys hA)
  (fun _ S' q' => fd_pyIter C S' (.tail _ m) hx fun it h'' S'' => q' it h'' _ S'') (fun S' q' => fd_hint C S' (.tail _ (.tail _ m)) hx (by (exact Nat.lt_of_le_of_lt (by assumption) (by decide))) q') fun l vs Ns h' t' G S' => ?_
 have key : ∀ {i vs Ns}, Got (fun i v N => N = [] ∧ ∃ kv, kvs[i]? = some kv ∧ knd.is kv.1 v = true) i vs Ns → Ns = [] ∧ All2 (fun v (kv : Kt × Value) => knd.is kv.1 v = true) vs (kvs.take i) := by
  intro i vs Ns G
  induction G with
  | nil => exact ⟨rfl, by simpa using All2.nil⟩
  | @snoc i vs Ns v N _ hv ih =>
   obtain ⟨rfl, a⟩ := ih
   (revert hv; intro zh; refine xAEA zh fun zq0 kv hkv hk => ?_; clear zh; subst zq0)
   refine ⟨rfl, ?_⟩
   rw [List.take_add_one, hkv]
   exact a.snoc hk
 obtain ⟨rfl, a⟩ := key G
 rw [List.take_length] at a
 exact q l vs h' t' a S'
end
end
section
noncomputable abbrev viewObj (x : Addr) : Obj := { cls := .type "dict_items", data := .fields #[.ref x] }
section
variable {w : World} {A : Around} {E : Value → Shared → Prop} {h₀ h : Heap} {g : Array GenState} {d : Drawn} {t : Nat} {os : OsState} {K K' : Led} {mg mb : Str → Option Value} {Kt : Type} [DecidableEq Kt] {knd : KeyKind PP w Kt}
 {dx : Addr} {sl : Array (Option Value)} {kvs : List (Kt × Value)} {ep : Nat} {x f v : Addr} {k : Kt} {key : Value} {fr : Option Value} {name : Str} {pos : Pos} {c : Value} {od : Option Addr}
theorem di_plain2 : plainId "dict.items" = true := by decide +kernel
theorem fd_itemsCall {Q : Value → Shared → Prop} (C : Cx w mg mb h₀) (S : St h₀ K h) (m : (x, dP knd (.ref 108) (some dx) sl kvs) ∈ K) (hx : 108 < x) (q : ∀ v h', St h₀ ((v, exP (viewObj x)) :: K) h' → Q (.ref v) ⟨h', g, d, t, os⟩) :
  wpAny (model PP w) A (call (.builtin "dict.items") [.ref x] []) Q E ⟨h, g, d, t, os⟩ := by
 refine xEAA (S.get m) fun o ho hc zu3 => ?_
 have X := C.X.keeps S.keep
 refine call_I (owner := "dict") (n := "items") X ho hc (fd_mro_dict w) (by decide +kernel) (by decide +kernel) (by decide +kernel) F.entry_dict_items (F.args_dict_items_1 _) ?_
 unfold Builtin.«dict.items» Builtin.Dict.noArgs
 refine wpAny_bind (wpAny_bind (fd_notOrdered C S m ?_))
 refine wpAny_bind (wpAny_of_eq (a := ()) (by first | rfl | kernel_rfl) ?_)
 refine wpAny_bind (wpAny_of_eq (a := .ref x) (by first | rfl | kernel_rfl) ?_)
 refine wpAny_pure ?_
 unfold Builtin.Dict.showsAll
 rw [if_neg (by rw [not_sys hx]; decide)]
 refine wpAny_bind (wpAny_pure (wpAny_bind ?_))
 unfold newFields
 refine wpAny_newObj_type ?_ (by size_fits)
 exact wpAny_pure ⟨_, rfl, q _ _ (S.push rfl rfl)⟩
theorem iv_iter {Q : Value → Shared → Prop} (S : St h₀ K h) (mv : (v, exP (viewObj x)) ∈ K) (m : (x, dE knd c od sl kvs ep) ∈ K)
  (q : ∀ it h', St h₀ ((it, iiP x kvs.length ep 0) :: K) h' → Q (.ref it) ⟨h', g, d, t, os⟩) : wpAny (model PP w) A (pyIter (.ref v)) Q E ⟨h, g, d, t, os⟩ := by
 (refine xEA (S.get mv) fun ov hov zq2 => ?_; subst zq2)
 refine xEEAAA (S.getE m) fun o es ho hc hd hsz => ?_
 have hT : Shared.TypeIs ⟨h, g, d, t, os⟩ (.ref v) "dict_items" := ⟨_, hov, rfl⟩
 refine wpAny_pyIter_slot hT F.slot_dict_items_iter (wpAny_call_entry F.slot_dict_items_iter hT F.entry_dict_items_iter ?_ (F.args_dict_items_iter_1 _))
 unfold Builtin.«dict_items.__iter__»
 refine wpAny_bind (wpAny_pure (wpAny_bind ?_))
 unfold Builtin.Dict_items.dictOf
 refine wpAny_bind (wpAny_field (s := ⟨h, g, d, t, os⟩) hov rfl (x := .ref x) rfl (wpAny_pure (wpAny_bind ?_)))
 unfold Builtin.Dict_items.newIterator
 refine wpAny_bind (wpAny_dictEntries (s := ⟨h, g, d, t, os⟩) ho hd (wpAny_bind (wpAny_dictEpoch (s := ⟨h, g, d, t, os⟩) ho hd ?_)))
 simp only [show Builtin.Dict_items.ownsTuple "dict_itemiterator" = true by decide, if_true]
 refine wpAny_newObj_type (wpAny_pure ⟨_, rfl, "dict_itemiterator", _, ⟨_, Heap.get?_push_size _ rfl, rfl⟩, F.slot_dict_itemiterator_next.lookup, ?_⟩)
  (by simp only [sizeOk, Builtin.Dict_items.ownedTupleFields, List.size_toArray, List.length_append, List.length_cons, List.length_nil, sizeLine_eq]; (exact Nat.le_of_ble_eq_true rfl))
 exact q _ _ (S.push ⟨.none, false, .none, .none, .inl rfl, by simp [rawInt, hsz, Builtin.Dict_items.ownedTupleFields]⟩ rfl)
theorem iv_list {Q : Value → Shared → Prop} (S : St h₀ K h) (hh : A.handled = none) (mv : (v, exP (viewObj x)) ∈ K) (m : (x, dE knd c od sl kvs ep) ∈ K) (hsz : kvs.length ≤ 4096)
  (q : ∀ l vs Ns h' t', Got (fun i v N => ∃ a key kv, v = .ref a ∧ N = [(a, tpP [key, kv.2])] ∧ kvs[i]? = some kv ∧ knd.is kv.1 key = true) kvs.length vs Ns → St h₀ ((l, lsP vs) :: Ns ++ K) h' → Q (.ref l) ⟨h', g, d, t', os⟩) :
  wpAny (model PP w) A (call (.type "list") [.ref v] []) Q E ⟨h, g, d, t, os⟩ := by
 (refine xEA (S.get mv) fun ov hov zq2 => ?_; subst zq2)
 refine list_of (n := kvs.length) (sP := iiP x kvs.length ep) (val := fun i v N => ∃ a key kv, v = .ref a ∧ N = [(a, tpP [key, kv.2])] ∧ kvs[i]? = some kv ∧ knd.is kv.1 key = true) (ok := fun K => (x, dE knd c od sl kvs ep) ∈ K) (T := .type "dict_items") hh (fun K p z => .tail _ z)
  (fun N K z => List.mem_append_right _ z) (szS hsz) m S (type_looks hov) (by decide) (fun S₀ e q => absurd (Heap.lt_size hov) (by (refine (q) ▸ ?_; refine (Eq.symm (e)) ▸ ?_); exact Nat.lt_irrefl _)) (fun it A hA => srcItems hA)
  (fun _ S' q' => iv_iter S' (.tail _ mv) (.tail _ m) fun it h'' S'' => q' it h'' _ S'') (fun {S₀ it h' t A Q E} S' q' => ?_) q
 (refine xEA (S'.get (.tail _ (.tail _ mv))) fun ov' hov' zq2 => ?_; subst zq2)
 exact kdx_hint (s := ⟨h', g, d, t, os⟩) ⟨_, hov', rfl⟩ (q' _ _)
theorem fd_pop {Q : Value → Shared → Prop} {dv : Value} (C : Cx w mg mb h₀) (S : St h₀ K h) (u : Up x (dP knd (.ref 108) (some dx) sl kvs) (dP knd (.ref 108) (some dx) sl (without kvs k)) K K') (hx : 108 < x) (hkey : knd.is k key = true) (hsz : kvs.length ≤ 4096)
  (q : ∀ v h' t', St h₀ K' h' → Q v ⟨h', g, d, t', os⟩) :
  wpAny (model PP w) A (call (.builtin "dict.pop") [.ref x, key, dv] []) Q E ⟨h, g, d, t, os⟩ := by
 refine xEAAAAEEAAA (S.get u.mem) fun o ho hc hod hsl es ep hd hk hp hn => ?_
 have X := C.X.keeps S.keep
 refine call_I (owner := "dict") (n := "pop") X ho hc (fd_mro_dict w) (by decide +kernel) (by decide +kernel) (by decide +kernel) F.entry_dict_pop (F.args_dict_pop_3 _ _ _) ?_
 unfold Builtin.«dict.pop» Builtin.Dict.keyAndDefault
 refine wpAny_bind (wpAny_bind (fd_notOrdered C S u.mem ?_))
 refine wpAny_bind (wpAny_of_eq (a := ()) (by first | rfl | kernel_rfl) ?_)
 refine wpAny_bind (wpAny_of_eq (a := (.ref x, [key, dv])) (by first | rfl | kernel_rfl) ?_)
 refine wpAny_bind (wpAny_pure (wpAny_pure ?_))
 dsimp only
 have miss : valueAt kvs k = none → without kvs k = kvs := fun hv => without_of_not_mem kvs k (fun hm => by
  (refine xEA (List.mem_map.mp hm) fun kv hkv zq2 => ?_; subst zq2)
  obtain ⟨i, hi⟩ := List.mem_iff_getElem?.mp hkv
  rw [valueAt_of_get hn (k := kv.1) (v := kv.2) hi] at hv
  cases hv)
 have gone : valueAt kvs k = none → ∀ t', Q dv ⟨h, g, d, t', os⟩ := fun hv t' => q dv h t' (S.weak u fun o p => by rw [miss hv]; exact p)
 have hes : es.size = kvs.length := by rw [← hp.length]; simp
 split
 ·refine wpAny_bind (wpAny_pure ?_)
  rw [if_neg (by decide)]
  refine wpAny_bind (d_take S u hkey (fun hv => ?_) (fun e he hv h' S' => ?_) (szS hsz))
  ·rw [if_pos (show (none : Option DictEntry).isNone = true from rfl)]
   exact wpAny_bind (wpAny_missedRemoval_other (not_sys hx) (wpAny_bind (wpAny_rule (wpAny_pure ⟨_, rfl, gone hv _⟩))))
  ·rw [if_neg (by simp)]
   exact wpAny_bind (wpAny_letGo (wpAny_pure ⟨_, rfl, q _ h' _ S'⟩))
 ·refine wpAny_bind (wpAny_dictEntries (s := ⟨h, g, d, t, os⟩) ho hd (wpAny_bind (wpAny_pure ?_)))
  cases he : es.isEmpty with
  | true =>
   rw [if_pos rfl]
   refine wpAny_bind (wpAny_rule (wpAny_bind (wpAny_pure ?_)))
   have hv : valueAt kvs k = none := by
    have : kvs = [] := List.eq_nil_of_length_eq_zero (by rw [← hes]; simpa using he)
    rw [this]; rfl
   rw [if_pos (show (none : Option DictEntry).isNone = true from rfl)]
   exact wpAny_bind (wpAny_missedRemoval_other (not_sys hx) (wpAny_bind (wpAny_rule (wpAny_pure ⟨_, rfl, gone hv _⟩))))
  | false =>
   rw [if_neg (by decide)]
   refine wpAny_bind (d_take S u hkey (fun hv => ?_) (fun e he hv h' S' => ?_) (szS hsz))
   ·rw [if_pos (show (none : Option DictEntry).isNone = true from rfl)]
    exact wpAny_bind (wpAny_missedRemoval_other (not_sys hx) (wpAny_bind (wpAny_rule (wpAny_pure ⟨_, rfl, gone hv _⟩))))
   ·rw [if_neg (by simp)]
    exact wpAny_bind (wpAny_letGo (wpAny_pure ⟨_, rfl, q _ h' _ S'⟩))
end
end
section
noncomputable def signsL : List Str := (["(", ")", "[", "]", ":", ",", ";", "+", "-", "*", "/", "|", "&", "<", ">", "=", ".", "%", "{", "}", "==", "!=", "<=", ">=", "~", "^", "<<", ">>", "**", "+=", "-=", "*=", "/=", "%=", "&=", "|=", "^=", "<<=", ">>=", "**=", "//", "//=", "@", "@=", "->", "...", ":=", "!"] : List String).map Str.ofString
noncomputable def tok (x : Str) : Option Int := (signsL.findIdx? (fun s => decide (s = x))).map fun i => ((7 + i : Nat) : Int)
noncomputable def keyOf (e : DictEntry) : Str := match e.key with | .str s _ => s | _ => Str.empty
noncomputable def valOf (e : DictEntry) : Int := match e.val with | .int i _ => i | _ => 0
noncomputable def isIntV (v : Value) : Bool := match v with | .int _ _ => true | _ => false
noncomputable def okE (e : DictEntry) : Bool := tok (keyOf e) == some (valOf e) && isIntV e.val && (match e.key with | .str _ _ => true | _ => false)
theorem ett0 (w : World) : ∃ o, (hd.heap_1 w.params).lookup 207 = some o ∧ ∃ es n, o = ⟨.type "dict", none, .dict es n, #[]⟩ ∧ KeysLit w.params es.toList ∧ es.toList.all okE = true ∧ signsL.all (fun s => es.toList.any fun e => decide (keyOf e = s)) = true := by
 refine' ex_look (P := fun o => ∃ es n, o = ⟨.type "dict", none, .dict es n, #[]⟩ ∧ KeysLit w.params es.toList ∧ es.toList.all okE = true ∧ signsL.all (fun s => es.toList.any fun e => decide (keyOf e = s)) = true) ?hh ?pf
 case hh => k_is
 case pf =>
  refine ⟨_, _, rfl, ?_, ?_, ?_⟩
  ·k_keys
  ·kernel_rfl
  ·kernel_rfl
theorem ett (w : World) {h : Heap} (X : (hd.heap_1 w.params).In h) : ∃ f, h.MapOf (strKind PP w) 207 f ∧ ∀ x, match tok x with | none => f x = none | some n => ∃ t, f x = some (.int n t) := by
 obtain ⟨_, ho, es, n, rfl, hk, ha, hs⟩ := ett0 w
 refine ⟨_, mapOf_K X ho hk, fun x => ?_⟩
 obtain ⟨l⟩ := es
 simp only [findBy, List.find?_toArray]
 have hkey : ∀ e ∈ l, e.key.isStr x = decide (keyOf e = x) := by
  intro e he
  have := List.all_eq_true.mp ha e he
  unfold okE at this
  cases hk : e.key <;> rw [hk] at this <;> simp at this
  unfold keyOf
  (refine (Eq.symm (hk)) ▸ ?_)
  rename_i s t
  show (s == x) = decide (s = x)
  rw [Bool.eq_iff_iff]
  simp
 cases hf : l.find? (fun d => Value.isStrOf x d.key) with
 | some e =>
  have he := List.mem_of_find?_eq_some hf
  have hp := List.find?_some hf
  have ok := List.all_eq_true.mp ha e he
  rw [← isStr_of, hkey e he] at hp
  have hx : keyOf e = x := of_decide_eq_true hp
  unfold okE at ok
  simp only [Bool.and_eq_true, beq_iff_eq] at ok
  rw [hx] at ok
  rw [ok.1.1]
  have hv := ok.1.2
  unfold isIntV at hv
  cases hq : e.val <;> rw [hq] at hv <;> simp at hv
  rename_i i t
  exact ⟨t, by simp [valOf, hq]⟩
 | none =>
  have : tok x = none := by
   unfold tok
   rw [Option.map_eq_none_iff, List.findIdx?_eq_none_iff]
   intro s hs'
   have h1 := List.all_eq_true.mp hs s hs'
   refine xEA (List.any_eq_true.mp h1) fun e he hes => ?_
   have h2 := List.find?_eq_none.mp hf e he
   rw [← isStr_of, hkey e he] at h2
   have hes' : keyOf e = s := of_decide_eq_true hes
   rw [hes'] at h2
   simpa using h2
  rw [this]
  rfl
end
section
noncomputable def numK (kvs : List (Str × Value)) (xs : List Str) : Prop := kvs.map (·.1) = xs ∧ ∀ i kv, kvs[i]? = some kv → isI kv.2 ((256 + i : Nat) : Int)
noncomputable def numP (w : World) (dx f : Addr) (xs : List Str) : Pr := fun o => ∃ kvs, numK kvs xs ∧ dP (strKind PP w) (.ref 108) (some dx) #[some (.ref f)] kvs o
noncomputable def place (xs : List Str) (x : Str) : Nat := (xs.findIdx? fun s => decide (s = x)).getD xs.length
noncomputable def numOf (xs : List Str) (x : Str) : Int := match tok x with | some n => n | none => ((256 + place xs x : Nat) : Int)
noncomputable def push (xs : List Str) (x : Str) : List Str := if (tok x).isSome || decide (x ∈ xs) then xs else xs ++ [x]
noncomputable abbrev nlParams : Arguments := { posonlyargs := [], args := [], vararg := none, kwonlyargs := [], kw_defaults := [], kwarg := none, defaults := [] }
noncomputable abbrev nlBody : PySem.Expr := .BinOp (.Constant (.int 256) 0 { line := 164, col := 43, endLine := 164, endCol := 46 }) .Add (.Call (.Name "len" { line := 164, col := 49, endLine := 164, endCol := 52 }) [.Name "numbers" { line := 164, col := 53, endLine := 164, endCol := 60 }] [] { line := 164, col := 49, endLine := 164, endCol := 61 }) { line := 164, col := 43, endLine := 164, endCol := 61 }
noncomputable abbrev nlScope : Scope := { kind := .function, names := [("numbers", .free), ("len", .globalImplicit)], isGenerator := false, isCoroutine := false }
noncomputable abbrev nlQ : Str := ("_law_read" : Str) ++ ".<locals>." ++ "<lambda>"
noncomputable abbrev nlObj (mg : Str → Option Value) (cell c' : Addr) (ctv : Value) : Obj := kla_obj "<lambda>" nlQ nlParams nlBody nlScope [("numbers", cell)] (pmV mg) c' ctv
noncomputable abbrev nlEnv (L f c' cell : Addr) : Env := envX nlQ nlScope L f (.ref c') [("numbers", cell)]
theorem numK.get {kvs : List (Str × Value)} {xs : List Str} (k : numK kvs xs) {x : Str} : (∀ v, valueAt kvs x = some v → x ∈ xs ∧ isI v ((256 + place xs x : Nat) : Int)) ∧ (valueAt kvs x = none → x ∉ xs) := by
 obtain ⟨rfl, hv⟩ := k
 constructor
 ·intro v h
  unfold valueAt at h
  (refine xEA (Option.map_eq_some_iff.mp h) fun kv hf zq2 => ?_; subst zq2)
  have hm := List.mem_of_find?_eq_some hf
  have hx : kv.1 = x := by have := List.find?_some hf; simpa using this
  refine ⟨hx ▸ List.mem_map_of_mem hm, ?_⟩
  obtain ⟨i, hi⟩ : ∃ i, kvs.findIdx? (fun kv => decide (kv.1 = x)) = some i := by
   cases e : kvs.findIdx? (fun kv => decide (kv.1 = x)) with
   | some i => exact ⟨i, rfl⟩
   | none =>
    have := List.findIdx?_eq_none_iff.mp e kv hm
    simp [hx] at this
  have hlt : i < kvs.length := (List.findIdx?_eq_some_iff_getElem.mp hi).1
  have hp : place (kvs.map (·.1)) x = i := by
   unfold place
   rw [List.findIdx?_map]
   show (kvs.findIdx? (fun kv => decide (kv.1 = x))).getD _ = i
   rw [hi]; rfl
  have hg : kvs[i]? = some kv := by
   have := List.findIdx?_eq_some_iff_getElem.mp hi
   (revert this; intro zh; refine xEA zh fun h1 h2 h3 => ?_; clear zh)
   rw [List.find?_eq_some_iff_getElem] at hf
   obtain ⟨_, j, hj, e1, e2⟩ := hf
   have : i = j := by
    rcases Nat.lt_trichotomy i j with q | q | q
    ·have := e2 i q; simp at this h2; exact absurd h2 this
    ·exact q
    ·have := h3 j q; rw [e1] at this; simp [hx] at this
   subst this
   (refine (Eq.symm (List.getElem?_eq_getElem hj)) ▸ ?_; refine (Eq.symm (e1)) ▸ ?_; try with_reducible rfl)
  rw [hp]
  exact hv i kv hg
 ·intro h hm
  (refine xEA (List.mem_map.mp hm) fun kv hkv zq2 => ?_; subst zq2)
  unfold valueAt at h
  rw [Option.map_eq_none_iff] at h
  have := List.find?_eq_none.mp h kv hkv
  simp at this
theorem numK.snoc {kvs : List (Str × Value)} {xs : List Str} (k : numK kvs xs) {x : Str} {t : Tok} : numK (kvs ++ [(x, .int (256 + (xs.length : Int)) t)]) (xs ++ [x]) := by
 obtain ⟨rfl, hv⟩ := k
 refine ⟨by simp, fun i kv h => ?_⟩
 rcases Nat.lt_trichotomy i kvs.length with q | q | q
 ·rw [List.getElem?_append_left q] at h; exact hv i kv h
 ·subst q
  simp at h
  subst h
  exact ⟨t, by simp⟩
 ·rw [List.getElem?_eq_none (by simp; assumption)] at h; cases h
theorem place_new {xs : List Str} {x : Str} (h : x ∉ xs) : place xs x = xs.length := by
 unfold place
 have : (xs.findIdx? fun s => decide (s = x)) = none := by
  rw [List.findIdx?_eq_none_iff]
  intro s hs
  exact decide_eq_false fun e => h (e ▸ hs)
 rw [this]; rfl
section
variable {w : World} {A : Around} {E : Value → Shared → Prop} {env : Env} {h₀ h : Heap} {g : Array GenState} {d : Drawn} {t : Nat} {os : OsState} {K K' : Led} {mg mb : Str → Option Value} {dx f x cell c' : Addr} {ctv : Value} {fr : Option Value} {xs : List Str} {kvs : List (Str × Value)}
theorem nl_call {R : Result → Shared → Prop} (C : Cx w mg mb h₀) (S : St h₀ K h) (hroom : A.depth + 2 < recursionLimit) (hx : 108 < x) (mo : (f, exP (nlObj mg cell c' ctv)) ∈ K) (mc : (c', codP nlQ) ∈ K) (mcl : (cell, cellP (some (.ref x))) ∈ K)
  (m : (x, dP (strKind PP w) (.ref 108) (some dx) #[some (.ref f)] kvs) ∈ K) (hsz : kvs.length ≤ 4096) (q : ∀ h' t' u, St h₀ K h' → R (.ok (.ret (.int (256 + kvs.length) u))) ⟨h', g, d, t', os⟩) :
  codeAny (model PP w) A (.call (.ref f) ⟨[], []⟩) R ⟨h, g, d, t, os⟩ := by
 (refine xEA (S.get mo) fun ol hol zq2 => ?_; subst zq2)
 refine kla_callFunE (by (exact Nat.lt_of_le_of_lt (Nat.le_add_right _ _) (by assumption))) hol rfl rfl rfl rfl (S.codeRec mc) ?_
 rw [show bindArgs (kla_fn "<lambda>" nlQ nlParams nlBody nlScope [("numbers", cell)] (pmV mg) (.ref c') ctv) ⟨[], []⟩ = pure [] from rfl]
 refine wpAny_pure ?_
 refine wpAny_newFunctionEnv (scope := nlScope) (by decide) (by intro y hy; cases hy) (fun h₁ hns hsb => ⟨(S.noLimit C.lim).fresh _ hsb, ?_⟩) rfl
 show codeAny _ _ (.expr nlBody (nlEnv h.objs.size f c' cell)) _ _
 have hk₁ : ∀ b o, h.get? b = some o → h₁.get? b = some o := fun b o e => hsb.extBut b o (Nat.ne_of_lt (Heap.lt_size e)) (Heap.get?_push_of_some _ e)
 have S₁ : St h₀ K h₁ := S.ext hk₁
 refine kla_codeExpr ?_
 refine k_BinOp ?_
 refine c_int ?_
 refine k_Call_Name_kw ?_
 refine name_B C S₁ C.b_len ?_
 refine cw_B ?_
 refine spliced_cons ?_
 refine' name_F S₁ ?c mcl ?_
 case c => exact rfl
 refine spliced_nil ?_
 refine fd_len C S₁ m hx (by (exact Nat.lt_of_le_of_lt (by assumption) (by decide))) ?_
 refine add_ii ?_
 exact q _ _ _ S₁
end
end
section
inductive Tk (a : Addr) (P : Pr) : Led → Led → Prop
 | head {r} : Tk a P ((a, P) :: r) r
 | tail {p r r'} : Tk a P r r' → Tk a P (p :: r) (p :: r')
theorem Tk.perm {a : Addr} {P : Pr} {K rest : Led} (t : Tk a P K rest) : ((a, P) :: rest).Perm K := by
 induction t with
 | head => exact List.Perm.refl _
 | tail _ ih => exact (List.Perm.swap ..).trans (ih.cons _)
theorem St.take {h₀ h : Heap} {a : Addr} {P : Pr} {K rest : Led} (t : Tk a P K rest) (S : St h₀ K h) : St h₀ ((a, P) :: rest) h := S.perm t.perm
section
variable {w : World} {A : Around} {E : Value → Shared → Prop} {env : Env} {h₀ h : Heap} {g : Array GenState} {d : Drawn} {t : Nat} {os : OsState} {K K' : Led} {mg mb : Str → Option Value} {dx f x cell c' : Addr} {ctv : Value} {fr : Option Value} {xs : List Str} {kvs : List (Str × Value)}
 {Kt : Type} [DecidableEq Kt] {knd : KeyKind PP w Kt} {kvs' : List (Kt × Value)} {sl : Array (Option Value)} {i : Value} {word : Str} {tw : Tok}
theorem tail_fd {value slice : PySem.Expr} {ops : List Value} {Q : Value → Shared → Prop} (C : Cx w mg mb h₀) (S : St h₀ K h) (m : ∃ o, h.get? x = some o ∧ o.cls = .ref 108) (hg : wpAny (model PP w) A (getItem (.ref x) i) Q E ⟨h, g, d, t, os⟩)
  (hs : subscripted slice false (.ref x) i = operate ops (getItem (.ref x) i)) : wpAny (model PP w) A (subscriptTail value slice (.ref x) i) Q E ⟨h, g, d, t, os⟩ := by
 (revert m; intro zh; refine xEA zh fun o ho hc => ?_; clear zh)
 have X := C.X.keeps S.keep
 have L0 := hc ▸ type_looks (M := model PP w) ho
 unfold subscriptTail getitemInPython specialOf
 refine wpAny_bind (wpAny_bind (wpAny_bind (L0.at ((looks_findIn X (fd_getitem w)).at ?_))))
 refine wpAny_pure ?_
 rw [hs]
 refine wpAny_bind (wpAny_operate' (wpAny_mono hg (fun v s' z => ?_) fun _ _ z => z))
 exact wpAny_bind (wpAny_letTemporaryGo (wpAny_pure z))
theorem num_get_open {Q : Value → Shared → Prop} (C : Cx w mg mb h₀) (S : St h₀ ((x, numP w dx f xs) :: K) h) (hd : A.depth + 4 < recursionLimit) (hh : A.handled = none) (hx : 108 < x) (md : (dx, fzP none) ∈ K) (mo : (f, exP (nlObj mg cell c' ctv)) ∈ K) (mc : (c', codP nlQ) ∈ K) (mcl : (cell, cellP (some (.ref x))) ∈ K)
  (hsz : xs.length ≤ 4000) (q : ∀ h' t' u, St h₀ ((x, numP w dx f (if word ∈ xs then xs else xs ++ [word])) :: K) h' → Q (.int ((256 + place xs word : Nat) : Int) u) ⟨h', g, d, t', os⟩) :
  wpAny (model PP w) A (getItem (.ref x) (.str word tw)) Q E ⟨h, g, d, t, os⟩ := by
 refine xEAEA (S.get (.head _)) fun o ho kvs hk hp => ?_
 have S₁ : St h₀ ((x, dP (strKind PP w) (.ref 108) (some dx) #[some (.ref f)] kvs) :: K) h := S.upd .head (Heap.ExtBut.refl _ _) ho hp
 have hlen : kvs.length = xs.length := by (refine (hk.1) ▸ ?_; rewrite [List.length_map]; try with_reducible rfl)
 have hkey := strKind_is PP w word tw
 cases hv : valueAt kvs word with
 | some v =>
  (refine xAE (hk.get.1 v hv) fun hm u zq2 => ?_; subst zq2)
  refine fd_hit C S₁ (.head _) hkey hv (q h _ u ?_)
  rw [if_pos hm]
  exact S
 | none =>
  have hm := hk.get.2 hv
  refine fd_miss C S₁ (.head _) hkey hv (not_sys hx) (wpAny_call ?_)
  refine missing_call C S₁ (show A.in1.depth + 2 < recursionLimit from by show A.depth + 2 < _; lia) hh (.head _) (.tail _ md) hkey (not_sys hx) ⟨_, _, .tail _ mo, rfl⟩ (fun u hu => nomatch hu) ?_
  intro L h' t' S'
  replace S' := S'.dropHead
  dsimp only
  refine wpAny_call (nl_call C S' (by show A.depth + 1 + 2 < _; (exact Nat.le_of_lt (by assumption))) hx (.tail _ mo) (.tail _ mc) (.tail _ mcl) (.head _) (by lia) fun h'' t'' u S'' => ?_)
  refine ⟨_, _, kvs, h'', t'', rfl, S'', .head, hv, szS (by lia), fun h₃ t₃ S₃ => ?_⟩
  have hn := hk.snoc (x := word) (t := u)
  rw [show (256 + (kvs.length : Int)) = ((256 + place xs word : Nat) : Int) by rw [place_new hm]; lia] at S₃ ⊢
  refine q h₃ t₃ u ?_
  rw [if_neg hm]
  refine S₃.weak .head fun o p => ⟨_, ?_, p⟩
  (refine (Eq.symm (place_new hm)) ▸ ?_; try with_reducible rfl)
  have := hn
  rw [show (256 + (xs.length : Int)) = ((256 + xs.length : Nat) : Int) by lia] at this
  exact this
theorem num_get_frozen {lz cz cellz : Addr} {ctvz : Value} {Q : Value → Shared → Prop} (C : Cx w mg mb h₀) (S : St h₀ K h) (m : (x, numP w dx f xs) ∈ K) (hd : A.depth + 4 < recursionLimit) (hh : A.handled = none) (hx : 108 < x) (md : (dx, fzP (some (.ref lz))) ∈ K)
  (mo : (f, exP (nlObj mg cell c' ctv)) ∈ K) (mc : (c', codP nlQ) ∈ K) (mcl : (cell, cellP (some (.ref x))) ∈ K) (ml : (lz, exP (lzObj mg cellz cz ctvz)) ∈ K) (mcz : (cz, codP lzQ) ∈ K) (mcx : (cellz, cellP (some (.ref x))) ∈ K)
  (hsz : xs.length ≤ 4000) (q : ∀ h' t' u, St h₀ K h' → Q (.int ((256 + place xs word : Nat) : Int) u) ⟨h', g, d, t', os⟩) :
  wpAny (model PP w) A (getItem (.ref x) (.str word tw)) Q E ⟨h, g, d, t, os⟩ := by
 refine xEAEA (S.get m) fun o ho kvs hk hp => ?_
 have hlen : kvs.length = xs.length := by (refine (hk.1) ▸ ?_; rewrite [List.length_map]; try with_reducible rfl)
 have hkey := strKind_is PP w word tw
 (refine xEE (List.append_of_mem m) fun r1 r2 zq2 => ?_; subst zq2)
 have u1 : ∀ r1 : Led, Up x (numP w dx f xs) (dP (strKind PP w) (.ref 108) (some dx) #[some (.ref f)] kvs) (r1 ++ (x, numP w dx f xs) :: r2) (r1 ++ (x, dP (strKind PP w) (.ref 108) (some dx) #[some (.ref f)] kvs) :: r2) ∧
   Up x (dP (strKind PP w) (.ref 108) (some dx) #[some (.ref f)] kvs) (numP w dx f xs) (r1 ++ (x, dP (strKind PP w) (.ref 108) (some dx) #[some (.ref f)] kvs) :: r2) (r1 ++ (x, numP w dx f xs) :: r2) := fun r1 => by
  induction r1 with
  | nil => exact ⟨.head, .head⟩
  | cons p r ih => exact ⟨.tail ih.1, .tail ih.2⟩
 obtain ⟨ua, ub⟩ := u1 r1
 have S₁ := S.upd ua (Heap.ExtBut.refl _ _) ho hp
 have back : ∀ {h'}, St h₀ (r1 ++ (x, dP (strKind PP w) (.ref 108) (some dx) #[some (.ref f)] kvs) :: r2) h' → St h₀ (r1 ++ (x, numP w dx f xs) :: r2) h' := fun S' => S'.weak ub fun o p => ⟨kvs, hk, p⟩
 have oth : ∀ {b : Addr} {P : Pr}, (b, P) ∈ r1 ++ (x, numP w dx f xs) :: r2 → (∀ o, P o → numP w dx f xs o → False) → (b, P) ∈ r1 ++ (x, dP (strKind PP w) (.ref 108) (some dx) #[some (.ref f)] kvs) :: r2 := by
  intro b P hm hne
  rcases List.mem_append.mp hm with hm | hm
  ·exact List.mem_append_left _ hm
  ·rcases List.mem_cons.mp hm with e | hm
   ·cases e
    exact absurd ⟨kvs, hk, hp⟩ (hne o ⟨kvs, hk, hp⟩)
   ·exact List.mem_append_right _ (.tail _ hm)
 have md' := oth md (by rintro o ⟨es, n, rfl, _⟩ ⟨_, _, hc, _⟩; cases hc)
 have mo' := oth mo (by rintro o rfl ⟨_, _, hc, _⟩; cases hc)
 have mc' := oth mc (by rintro o ⟨vs, t, hd, _⟩ ⟨_, _, _, _, _, _, _, hd', _⟩; rw [hd] at hd'; cases hd')
 have mcl' := oth mcl (by intro o hd zr; (refine xEAAAAEEA zr fun zu0 zu1 zu2 zu3 zu4 zu5 zu6 hd' zu8 => ?_; clear zr); rw [show o.data = _ from hd] at hd'; cases hd')
 have ml' := oth ml (by rintro o rfl ⟨_, _, hc, _⟩; cases hc)
 have mcz' := oth mcz (by rintro o ⟨vs, t, hd, _⟩ ⟨_, _, _, _, _, _, _, hd', _⟩; rw [hd] at hd'; cases hd')
 have mcx' := oth mcx (by intro o hd zr; (refine xEAAAAEEA zr fun zu0 zu1 zu2 zu3 zu4 zu5 zu6 hd' zu8 => ?_; clear zr); rw [show o.data = _ from hd] at hd'; cases hd')
 have mx := ua.mem'
 cases hv : valueAt kvs word with
 | some v =>
  (refine xAE (hk.get.1 v hv) fun hm u zq2 => ?_; subst zq2)
  exact fd_hit C S₁ mx hkey hv (q h _ u (back S₁))
 | none =>
  have hm := hk.get.2 hv
  refine fd_miss C S₁ mx hkey hv (not_sys hx) (wpAny_call ?_)
  refine missing_call C S₁ (show A.in1.depth + 2 < recursionLimit from by show A.depth + 2 < _; lia) hh mx md' hkey (not_sys hx) ⟨_, _, mo', rfl⟩ (fun u hu => by cases hu; exact ⟨_, _, _, rfl, ml', rfl⟩) ?_
  intro L h' t' S'
  replace S' := S'.dropHead
  dsimp only
  refine wpAny_call (call_lz C S' (by show A.depth + 1 + 2 < _; (exact Nat.le_of_lt (by assumption))) ml' mcz' mcx' mx md' ⟨_, _, mo', rfl⟩ ?_)
  intro L₂ h₂ t₂ S₂
  replace S₂ := S₂.dropHead
  refine wpAny_call (nl_call C S₂ (by show A.depth + 1 + 1 + 2 < _; assumption) hx mo' mc' mcl' mx (by lia) fun h'' t'' u S'' => ?_)
  have := q h'' t'' u (back S'')
  rw [place_new hm] at this
  (refine (Eq.symm (show (256 + (kvs.length : Int)) = ((256 + xs.length : Nat) : Int) by lia)) ▸ ?_; try with_reducible rfl)
  exact this
end
end
section
variable {w : World} {A : Around} {E : Value → Shared → Prop} {env : Env} {h₀ h : Heap} {g : Array GenState} {d : Drawn} {t : Nat} {os : OsState} {K K' : Led} {mg mb : Str → Option Value} {dx f x cell c' : Addr} {ctv : Value} {fr : Option Value} {xs : List Str} {kvs : List (Str × Value)} {word : Str} {tw : Tok}
theorem ett_in {Q : Value → Shared → Prop} (C : Cx w mg mb h₀) (S : St h₀ K h) (q : Q (.bool (tok word).isSome) ⟨h, g, d, t + 1, os⟩) : wpAny (model PP w) A (compareOp .In (.str word tw) (.ref 207)) Q E ⟨h, g, d, t, os⟩ := by
 refine xEA (ett w (C.X.keeps S.keep)) fun f hm hf => ?_
 refine wpAny_in_of (s := ⟨h, g, d, t, os⟩) (strKind_is PP w word tw) (by decide) hm ?_
 have := hf word
 cases e : tok word with
 | none => rw [e] at this q; rw [this]; exact q
 | some n => rw [e] at this q; obtain ⟨u, hu⟩ := this; rw [hu]; exact q
theorem ett_item {value slice : PySem.Expr} {n : Int} {Q : Value → Shared → Prop} (C : Cx w mg mb h₀) (S : St h₀ K h) (hn : tok word = some n) (q : ∀ u, Q (.int n u) ⟨h, g, d, t + 1, os⟩)
  (hs : subscripted slice false (.ref 207) (.str word tw) = operate [.ref 207, .str word tw] (getItem (.ref 207) (.str word tw)) := by with_unfolding_all rfl) : wpAny (model PP w) A (subscriptTail value slice (.ref 207) (.str word tw)) Q E ⟨h, g, d, t, os⟩ := by
 refine xEA (ett w (C.X.keeps S.keep)) fun f hm hf => ?_
 have := hf word
 rw [hn] at this
 obtain ⟨u, hu⟩ := this
 exact tail_any (s := ⟨h, g, d, t, os⟩) hm.typeIs slot_dict_getitem.lookup (wpAny_getItem_of (strKind_is PP w word tw) hm hu (q u)) hs
theorem num_open {R : Result → Shared → Prop} (C : Cx w mg mb h₀) (S : St h₀ ((x, numP w dx f xs) :: K) h) (hd : A.depth + 6 < recursionLimit) (hh : A.handled = none) (hx : 108 < x) (md : (dx, fzP none) ∈ K) (mo : (f, exP (nlObj mg cell c' ctv)) ∈ K) (mc : (c', codP nlQ) ∈ K) (mcl : (cell, cellP (some (.ref x))) ∈ K)
  (hsz : xs.length ≤ 4000) (q : ∀ h' t' u, St h₀ ((x, numP w dx f (push xs word)) :: K) h' → R (.ok (.ret (.int (numOf xs word) u))) ⟨h', g, d, t', os⟩) :
  codeAny (model PP w) A (.call (.ref 240) ⟨[.ref x, .str word tw], []⟩) R ⟨h, g, d, t, os⟩ := by
 refine' call_T (binds := [("numbers", .ref x), ("word", .str word tw)]) C S ?hroom ?ho ?hcd (fun t => BindsTo.of_eq ?hbind) ?hcell ?hloc ?hnd ?h1 ?h2 ?h3 ?k
 case ho => k_is
 case hcd => k_is
 case hbind => exact rfl
 case hroom => (exact Nat.lt_of_le_of_lt (Nat.le_add_right _ _) (by assumption))
 case hcell => decide
 case hloc => exact rfl
 case hnd => simp only [List.map_cons, List.map_nil]; decide
 case h1 => rfl
 case h2 => rfl
 case h3 => rfl
 intro L h₁ S₁
 dsimp only [List.length_cons, List.length_nil]
 (with_reducible refine k_execs_cons ?_); (with_reducible refine k_Return_some ?_); (with_reducible refine wpAny_IfExp ?_); refine k_isTrue_Compare1 ?_; refine name_L (by assumption) (by exact rfl) (mH) (mT mH) ?_
 refine name_G C S₁ C.g_ett ?_
 refine ett_in C S₁ ?_
 (with_reducible refine tr_b ?_)
 cases hn : tok word with
 | some n =>
  (refine (Eq.symm (Option.isSome_some)) ▸ ?_)
  (with_reducible refine if_t ?_); (with_reducible refine k_Subscript ?_)
  refine name_G C S₁ C.g_ett ?_
  refine name_L (by assumption) (by exact rfl) (mH) (mT mH) ?_
  refine ett_item C S₁ hn fun u => ?_
  dsimp only [retV]
  have e1 : push xs word = xs := by unfold push; (refine (Eq.symm (hn)) ▸ ?_); rfl
  have e2 : numOf xs word = n := by unfold numOf; rw [hn]
  have := q h₁ (t + (0 + 1 + 1) + 1 + 1) u (by rw [e1]; exact S₁.dropHead)
  rw [e2] at this
  exact this
 | none =>
  (refine (Eq.symm (Option.isSome_none)) ▸ ?_)
  (with_reducible refine if_f ?_); (with_reducible refine k_Subscript ?_); refine name_L (by assumption) (by exact rfl) (mH) (mH) ?_; refine name_L (by assumption) (by exact rfl) (mH) (mT mH) ?_
  have e2 : numOf xs word = ((256 + place xs word : Nat) : Int) := by unfold numOf; rw [hn]
  have e1 : push xs word = if word ∈ xs then xs else xs ++ [word] := by unfold push; (refine (Eq.symm (hn)) ▸ ?_); simp
  refine tail_fd (ops := [.ref x, .str word tw]) C S₁ ?_ ?_ (by with_unfolding_all rfl)
  ·obtain ⟨o, ho, kvs, _, hc, _⟩ := S₁.get (List.Mem.tail _ (.head _)); exact ⟨o, ho, hc⟩
  refine num_get_open C S₁.swap (by show A.depth + 1 + 4 < _; (exact Nat.le_of_lt (by assumption))) hh hx (.tail _ md) (.tail _ mo) (.tail _ mc) (.tail _ mcl) hsz fun h₂ t₂ u S₂ => ?_
  dsimp only [retV]
  have := q h₂ t₂ u (by rw [e1]; exact S₂.swap.dropHead)
  rw [e2] at this
  exact this
theorem num_frozen {lz cz cellz : Addr} {ctvz : Value} {R : Result → Shared → Prop} (C : Cx w mg mb h₀) (S : St h₀ K h) (m : (x, numP w dx f xs) ∈ K) (hd : A.depth + 6 < recursionLimit) (hh : A.handled = none) (hx : 108 < x) (md : (dx, fzP (some (.ref lz))) ∈ K)
  (mo : (f, exP (nlObj mg cell c' ctv)) ∈ K) (mc : (c', codP nlQ) ∈ K) (mcl : (cell, cellP (some (.ref x))) ∈ K) (ml : (lz, exP (lzObj mg cellz cz ctvz)) ∈ K) (mcz : (cz, codP lzQ) ∈ K) (mcx : (cellz, cellP (some (.ref x))) ∈ K)
  (hsz : xs.length ≤ 4000) (q : ∀ h' t' u, St h₀ K h' → R (.ok (.ret (.int (numOf xs word) u))) ⟨h', g, d, t', os⟩) :
  codeAny (model PP w) A (.call (.ref 240) ⟨[.ref x, .str word tw], []⟩) R ⟨h, g, d, t, os⟩ := by
 refine' call_T (binds := [("numbers", .ref x), ("word", .str word tw)]) C S ?hroom ?ho ?hcd (fun t => BindsTo.of_eq ?hbind) ?hcell ?hloc ?hnd ?h1 ?h2 ?h3 ?k
 case ho => k_is
 case hcd => k_is
 case hbind => exact rfl
 case hroom => (exact Nat.lt_of_le_of_lt (Nat.le_add_right _ _) (by assumption))
 case hcell => decide
 case hloc => exact rfl
 case hnd => simp only [List.map_cons, List.map_nil]; decide
 case h1 => rfl
 case h2 => rfl
 case h3 => rfl
 intro L h₁ S₁
 dsimp only [List.length_cons, List.length_nil]
 (with_reducible refine k_execs_cons ?_); (with_reducible refine k_Return_some ?_); (with_reducible refine wpAny_IfExp ?_); refine k_isTrue_Compare1 ?_; refine name_L (by assumption) (by exact rfl) (mH) (mT mH) ?_
 refine name_G C S₁ C.g_ett ?_
 refine ett_in C S₁ ?_
 (with_reducible refine tr_b ?_)
 cases hn : tok word with
 | some n =>
  (refine (Eq.symm (Option.isSome_some)) ▸ ?_)
  (with_reducible refine if_t ?_); (with_reducible refine k_Subscript ?_)
  refine name_G C S₁ C.g_ett ?_
  refine name_L (by assumption) (by exact rfl) (mH) (mT mH) ?_
  refine ett_item C S₁ hn fun u => ?_
  dsimp only [retV]
  have e2 : numOf xs word = n := by unfold numOf; rw [hn]
  have := q h₁ (t + (0 + 1 + 1) + 1 + 1) u S₁.dropHead
  rw [e2] at this
  exact this
 | none =>
  (refine (Eq.symm (Option.isSome_none)) ▸ ?_)
  (with_reducible refine if_f ?_); (with_reducible refine k_Subscript ?_); refine name_L (by assumption) (by exact rfl) (mH) (mH) ?_; refine name_L (by assumption) (by exact rfl) (mH) (mT mH) ?_
  have e2 : numOf xs word = ((256 + place xs word : Nat) : Int) := by unfold numOf; rw [hn]
  refine tail_fd (ops := [.ref x, .str word tw]) C S₁ ?_ ?_ (by with_unfolding_all rfl)
  ·obtain ⟨o, ho, kvs, _, hc, _⟩ := S₁.get (List.Mem.tail _ m); exact ⟨o, ho, hc⟩
  refine num_get_frozen C S₁ (.tail _ m) (by show A.depth + 1 + 4 < _; (exact Nat.le_of_lt (by assumption))) hh hx (.tail _ md) (.tail _ mo) (.tail _ mc) (.tail _ mcl) (.tail _ ml) (.tail _ mcz) (.tail _ mcx) hsz fun h₂ t₂ u S₂ => ?_
  dsimp only [retV]
  have := q h₂ t₂ u S₂.dropHead
  rw [e2] at this
  exact this
end
section
section facts
variable (w : World)
theorem pr_ga : findIn (hd.heap_1 w.params) (.ref 203) "__getattribute__" = some (some (.builtin "tuple.__getattribute__")) := by k_is
theorem pr_gh : findIn (hd.heap_1 w.params) (.ref 203) "__getattr__" = some none := by k_is
theorem pr_mro_tuple : mroIn (hd.heap_1 w.params) 203 (.type "tuple") = some true := by k_is
theorem pr_name : findIn (hd.heap_1 w.params) (.ref 203) "name" = some (some (.ref 172)) := by k_is
theorem pr_value : findIn (hd.heap_1 w.params) (.ref 203) "value" = some (some (.ref 175)) := by k_is
theorem pr_get1 : specialIn (hd.heap_1 w.params) (.ref 172) "__get__" = some (some (.ref 61)) := by k_is
theorem pr_get2 : specialIn (hd.heap_1 w.params) (.ref 175) "__get__" = some (some (.ref 61)) := by k_is
theorem pr_tk1 : takesIn (hd.heap_1 w.params) (.ref 172) = some true := by k_is
theorem pr_tk2 : takesIn (hd.heap_1 w.params) (.ref 175) = some true := by k_is
theorem tg_ga : findIn (hd.heap_1 w.params) (.ref 78) "__getattribute__" = some (some (.builtin "object.__getattribute__")) := by k_is
theorem tg_index : findIn (hd.heap_1 w.params) (.ref 78) "index" = some none := by k_is
theorem tg_hasDict : hasDictIn (hd.heap_1 w.params) 78 = true := by k_is
theorem tu_gi : findCls (hd.heap_1 w.params) (.type "tuple") (.type "type") "__getitem__" = some (.val (.builtin "tuple.__getitem__")) := by k_is
theorem tg_inst (w : World) : ∃ o od, (hd.heap_1 w.params).lookup 172 = some o ∧ (hd.heap_1 w.params).lookup 171 = some od ∧ o.cls = .ref 78 ∧ o.dict = some 171 ∧ notCls o = true ∧ ∃ t, lookIn "index" od = some (some (.int 0 t)) := by
 obtain ⟨o, e, a, b, c⟩ : ∃ o, (hd.heap_1 w.params).lookup 172 = some o ∧ (o.cls = .ref 78 ∧ o.dict = some 171 ∧ notCls o = true) := by
  refine' ex_look (P := fun o => o.cls = .ref 78 ∧ o.dict = some 171 ∧ notCls o = true) ?hh ?pf
  case hh => k_is
  case pf => exact ⟨rfl, rfl, rfl⟩
 obtain ⟨od, e', t, q⟩ : ∃ o, (hd.heap_1 w.params).lookup 171 = some o ∧ ∃ t, lookIn "index" o = some (some (.int 0 t)) := by
  refine' ex_look (P := fun o => ∃ t, lookIn "index" o = some (some (.int 0 t))) ?hh ?pf
  case hh => k_is
  case pf => exact ⟨_, rfl⟩
 exact ⟨o, od, e, e', a, b, c, t, q⟩
theorem tg_inst2 (w : World) : ∃ o od, (hd.heap_1 w.params).lookup 175 = some o ∧ (hd.heap_1 w.params).lookup 174 = some od ∧ o.cls = .ref 78 ∧ o.dict = some 174 ∧ notCls o = true ∧ ∃ t, lookIn "index" od = some (some (.int 1 t)) := by
 obtain ⟨o, e, a, b, c⟩ : ∃ o, (hd.heap_1 w.params).lookup 175 = some o ∧ (o.cls = .ref 78 ∧ o.dict = some 174 ∧ notCls o = true) := by
  refine' ex_look (P := fun o => o.cls = .ref 78 ∧ o.dict = some 174 ∧ notCls o = true) ?hh ?pf
  case hh => k_is
  case pf => exact ⟨rfl, rfl, rfl⟩
 obtain ⟨od, e', t, q⟩ : ∃ o, (hd.heap_1 w.params).lookup 174 = some o ∧ ∃ t, lookIn "index" o = some (some (.int 1 t)) := by
  refine' ex_look (P := fun o => ∃ t, lookIn "index" o = some (some (.int 1 t))) ?hh ?pf
  case hh => k_is
  case pf => exact ⟨_, rfl⟩
 exact ⟨o, od, e, e', a, b, c, t, q⟩
end facts
theorem isc_sig : (Manifest.signature? "issubclass").isSome = true := by decide +kernel
theorem o203 (w : World) : ∃ o, (hd.heap_1 w.params).lookup 203 = some o ∧ ∃ cd, o.data = .cls cd := by
 refine' ex_look (P := fun o => ∃ cd, o.data = .cls cd) ?hh ?pf
 case hh => k_is
 case pf => exact ⟨_, rfl⟩
noncomputable def prP (a b : Str) : Pr := fun o => o.cls = .ref 203 ∧ (∃ d, o.dict = some d) ∧ ∃ n t u, o.data = .seq #[.str a t, .str b u] n
theorem entry_tga : entryFor table "tuple.__getattribute__" = some Builtin.«object.__getattribute__» :=
 entryFor_alias (id' := "object.__getattribute__") (by kernel_rfl) (by decide +kernel) (by decide +kernel) (by kernel_rfl)
theorem bind_tga (a : Value) : bindSpecial (.builtin "tuple.__getattribute__") a = pure (.builtin "tuple.__getattribute__", [a]) := by
 unfold bindSpecial
 rw [show typeOf (.builtin "tuple.__getattribute__") = pure (.type "wrapper_descriptor") by show builtinType _ = _; rw [builtinType_eq_fast]; kernel_rfl]
 rfl
theorem args_tga (a b : Value) : argsOk "tuple.__getattribute__" ⟨[a, b], []⟩ := by unfold argsOk; kernel_rfl
variable {w : World} {A : Around} {E : Value → Shared → Prop} {env : Env} {h₀ h : Heap} {g : Array GenState} {d : Drawn} {t : Nat} {os : OsState} {K K' : Led} {mg mb : Str → Option Value} {p : Addr} {na va : Str}
theorem getitem_type {Q : Value × List Value → Shared → Prop} {pl : Sem Bool} (C : Cx w mg mb h₀) (S : St h₀ K h) (q : Q (.builtin "tuple.__getitem__", []) ⟨h, g, d, t + 1, os⟩) :
  wpAny (model PP w) A (getMethod (.type "tuple") "__getitem__" pl) Q E ⟨h, g, d, t, os⟩ := by
 have X := C.X.keeps S.keep
 have hstub : opaqueClassAbove (.type "tuple") = pure none := by unfold opaqueClassAbove; dsimp only; (refine (Eq.symm (show Manifest.isStub "tuple" = false by decide +kernel)) ▸ ?_); rfl
 have ht : typeOf (.type "tuple") = pure (.type "type") := by first | rfl | kernel_rfl
 have L0 : Looks (model PP w) h (typeOf (.type "tuple")) (.type "type") := Looks.of_pure ht
 have hg : findIn (hd.heap_1 w.params) (.type "type") "__getattribute__" = some (some (.builtin "type.__getattribute__")) := type_tga
 have LO : Looks (model PP w) h (opaqueClassAbove (.type "tuple")) none := Looks.of_pure hstub
 unfold getMethod specialOf
 refine wpAny_bind (wpAny_bind (L0.at ((looks_findIn X hg).at ?_)))
 dsimp only
 rw [if_pos canon_tga]
 refine wpAny_bind (wpAny_mono (Q := fun v => Q (v, [])) (E := E) ?_ (fun _ _ z => wpAny_pure z) fun _ _ z => z)
 refine cls_open (s := ⟨h, g, d, t, os⟩) X LO L0 hg (looks_hook X (r := none) (by rfl)) (by show subIn _ _ _ = _; rfl) (tu_gi w) (wpAny_pure ?_)
 show wpAny _ _ (handedOut (.builtin "tuple.__getitem__")) _ _ _
 rw [handedOut_of (by decide +kernel)]; exact wpAny_pure q
theorem isub {Q : Value → Shared → Prop} (C : Cx w mg mb h₀) (S : St h₀ K h) (q : Q (.bool true) ⟨h, g, d, t, os⟩) : wpAny (model PP w) A (call (.builtin "issubclass") [.ref 203, .type "tuple"] []) Q E ⟨h, g, d, t, os⟩ := by
 have X := C.X.keeps S.keep
 refine wpAny_call (codeAny_call_builtin F.plain_issubclass F.entry_issubclass ?_)
 have ok := F.args_issubclass_2 (.ref 203) (.type "tuple")
 simp only [checkBuiltinCall, F.kind_issubclass]
 cases hsig : Manifest.signature? "issubclass" with
 | none => exact absurd (hsig ▸ isc_sig) (by decide)
 | some sig =>
  simp only [argsOk, hsig] at ok
  have h2 : Bind.checkArgs "issubclass" sig ⟨[.ref 203, .type "tuple"], []⟩ = pure () := ok
  simp only []
  rw [h2]
  refine wpAny_pure (issubclass_outer ?_)
  refine xEAE (o203 w) fun o ho cd hcd => ?_
  unfold Builtin.«issubclass.nested»
  dsimp only [rawInt]
  refine wpAny_bind (wpAny_of_eq (a := .type "type") (by first | rfl | kernel_rfl) ?_)
  rw [if_pos (by decide)]
  refine wpAny_bind ?_
  refine wpAny_bind (ks_wpAny_isType_cls (X _ _ ho) hcd (wpAny_bind (wpAny_pure ?_)))
  rw [if_pos (by decide)]
  refine (looks_mroIn X (pr_mro_tuple w)).at ?_
  exact wpAny_pure q
theorem pr_attr {Q : Value → Shared → Prop} {ex : Bool} {name : Str} {tg : Addr} (C : Cx w mg mb h₀) (S : St h₀ K h) (m : (p, prP na va) ∈ K) (hn : findIn (hd.heap_1 w.params) (.ref 203) name = some (some (.ref tg))) (hg : specialIn (hd.heap_1 w.params) (.ref tg) "__get__" = some (some (.ref 61))) (ht : takesIn (hd.heap_1 w.params) (.ref tg) = some true)
  (q : wpAny (model PP w) A.in1 (call (.ref 61) [.ref tg, .ref p, .ref 203] []) (fun v s' => wpAny (model PP w) A (handedOut v) Q E s') (fun e s' => wpAny (model PP w) A (getattributeRaised (.ref p) (.str name t) (.ref 203) e none true ex) Q E s') ⟨h, g, d, t + 1, os⟩) :
  wpAny (model PP w) A (getAttr (.ref p) name ex) Q E ⟨h, g, d, t, os⟩ := by
 have X := C.X.keeps S.keep
 obtain ⟨o, ho, hc, ⟨dx, hdx⟩, n, ta, tb, hd⟩ := S.get m
 have L0 := hc ▸ type_looks (M := model PP w) ho
 have L1 := looks_findIn (M := model PP w) X (pr_ga w)
 have L2 := looks_findIn (M := model PP w) X (pr_gh w)
 have La := looks_findIn (M := model PP w) X hn
 have Lg := looks_specialIn (M := model PP w) X hg
 have Lt := looks_takesIn (M := model PP w) X ht
 have LF : Looks (model PP w) h (Builtin.ObjectAttr.find (.ref p) (.ref 203) name) (.bind (.ref 61) (.ref tg)) :=
  La.andThen (Lg.andThen ((show Looks (model PP w) h (dataDescriptor? (some (.ref tg)) (some (.ref 61))) (some (.ref 61, .ref tg)) from Lt.andThen .now).andThen (Looks.tag .now)))
 unfold getAttr
 refine wpAny_bind (wpAny_mkText ?_)
 unfold getAttrBy
 refine wpAny_holding (wpAny_bind (L0.at (wpAny_bind (L1.at ?_))))
 show wpAny _ _ (getAttrByItsOwn _ _ _ _ _ _) _ _ _
 unfold getAttrByItsOwn hookBefore callGetattribute boundAndCalled
 refine wpAny_bind ?_
 rw [if_pos (show onTheHeap (.ref 203) = true from rfl)]
 refine L2.at ?_
 refine wpAny_bind (wpAny_attempt (wpAny_holding ?_))
 (refine (Eq.symm (show (ex && onTheHeap (.builtin "tuple.__getattribute__")) = false by cases ex <;> rfl)) ▸ ?_; rewrite [bind_tga])
 refine wpAny_bind (wpAny_pure ?_)
 refine call_I (owner := "tuple") (n := "__getattribute__") X ho hc (pr_mro_tuple w) (by decide +kernel) (by decide +kernel) (by decide +kernel) entry_tga (args_tga _ _) ?_
 refine wpAny_bind (wpAny_pure ?_)
 refine wpAny_bind (wpAny_pure (wpAny_bind (L0.at (wpAny_bind (LF.at ?_)))))
 show wpAny _ _ (holding [.ref tg] (call (.ref 61) [.ref tg, .ref p, .ref 203]) >>= ret) _ _ _
 exact wpAny_bind (wpAny_holding (wpAny_mono q (fun v s z => wpAny_pure ⟨v, rfl, z⟩) fun _ _ z => z))
end
section
variable {w : World} {A : Around} {E : Value → Shared → Prop} {env : Env} {h₀ h : Heap} {g : Array GenState} {d : Drawn} {t : Nat} {os : OsState} {K K' : Led} {mg mb : Str → Option Value} {p : Addr} {na va : Str}
theorem tg_call {R : Result → Shared → Prop} {tg dd : Addr} {i : Int} {ti : Tok} {o od : Obj} {x : Str} (C : Cx w mg mb h₀) (S : St h₀ K h) (hdep : A.depth + 2 < recursionLimit) (m : (p, prP na va) ∈ K)
  (hl : (hd.heap_1 w.params).lookup tg = some o) (hld : (hd.heap_1 w.params).lookup dd = some od) (hc : o.cls = .ref 78) (hod : o.dict = some dd) (hnc : notCls o = true) (hi : lookIn "index" od = some (some (.int i ti)))
  (h01 : (i = 0 ∧ x = na) ∨ (i = 1 ∧ x = va)) (q : ∀ h' t' u, St h₀ K h' → R (.ok (.ret (.str x u))) ⟨h', g, d, t', os⟩) :
  codeAny (model PP w) A (.call (.ref 61) ⟨[.ref tg, .ref p, .ref 203], []⟩) R ⟨h, g, d, t, os⟩ := by
 refine' call_T (binds := [("self", .ref tg), ("obj", .ref p), ("objtype", .ref 203)]) C S ?hroom ?ho ?hcd ?hbind ?hcell ?hloc ?hnd ?h1 ?h2 ?h3 ?k
 case ho => k_is
 case hcd => k_is
 case hbind => intro t; exact binds_K (C.X.keeps S.keep) rfl (by k_is) rfl rfl rfl
 case hroom => (exact Nat.lt_of_le_of_lt (Nat.le_add_right _ _) (by assumption))
 case hcell => decide
 case hloc => exact rfl
 case hnd => simp only [List.map_cons, List.map_nil]; decide
 case h1 => rfl
 case h2 => rfl
 case h3 => rfl
 intro L h₁ S₁
 dsimp only [List.length_cons, List.length_nil]
 (with_reducible refine k_execs_cons ?_); (with_reducible refine k_If ?_); refine k_isTrue_Compare1 ?_; refine name_L (by assumption) (by exact rfl) (mH) (mT mH) ?_; (with_reducible refine c_none ?_)
 refine wpAny_is_other (by rfl) (by simp) ?_
 (with_reducible refine tr_b ?_); (with_reducible refine if_f ?_); (with_reducible refine wpAny_execs_nil ?_); (with_reducible refine k_execs_cons ?_); (with_reducible refine k_If ?_)
 refine wpAny_isTrue_Not ?_
 refine wpAny_isTrue_value ?_
 refine k_Call_Name_kw ?_
 refine name_B C S₁ C.b_issubclass ?_
 refine cw_B ?_
 refine k_items_cons ?_
 refine k_Call_Name_kw ?_
 refine name_B C S₁ C.b_type ?_
 obtain ⟨op, hop, hopc, _, n, ta, tb, hopd⟩ := S₁.get (List.Mem.tail _ m)
 refine PyProof.Rows.callWith_type rfl (ea_any rfl ?_)
 refine k_items_cons ?_; refine name_L (by assumption) (by exact rfl) (mH) (mT mH) ?_; (with_reducible refine wpAny_items_nil ?_)
 refine call_type_obj hop (by rw [hopc]; rfl) ?_
 (refine (Eq.symm (hopc)) ▸ ?_)
 refine k_items_cons ?_
 refine name_B C S₁ C.b_tuple ?_
 (with_reducible refine wpAny_items_nil ?_)
 refine isub C S₁ ?_
 (with_reducible refine tr_b ?_)
 try dsimp only [KqF]
 rw [if_neg (by decide)]
 (with_reducible refine wpAny_execs_nil ?_); (with_reducible refine k_execs_cons ?_); (with_reducible refine k_Return_some ?_); refine k_MethodCall ?_
 refine name_B C S₁ C.b_tuple ?_
 refine getitem_type C S₁ ?_
 refine cw_B ?_
 refine k_items_cons ?_; refine name_L (by assumption) (by exact rfl) (mH) (mT mH) ?_; refine k_items_cons ?_
 refine Attribute_any_ ?_
 refine name_L (by assumption) (by exact rfl) (mH) (mH) ?_
 have X₁ := C.X.keeps S₁.keep
 have It : W.InstAt h₁ tg o 78 (some od) := ⟨X₁ _ _ hl, hc, hnc, by rw [hod]; exact X₁ _ _ hld⟩
 refine get_value (s := ⟨h₁, g, d, _, os⟩) X₁ It (tg_ga w) (findObj_own (tg_hasDict w) (tg_index w) (by rfl) hi) rfl ?_
 (with_reducible refine wpAny_items_nil ?_)
 refine call_I (owner := "tuple") (n := "__getitem__") X₁ hop hopc (pr_mro_tuple w) (by decide +kernel) (by decide +kernel) (by decide +kernel) PyProof.Rows.entry_tuple_getitem (PyProof.Rows.args_tuple_getitem _ _) ?_
 show wpAny _ _ (Builtin.Tuple.tupleItemsOf (.ref p) >>= _) _ _ _
 unfold Builtin.Tuple.tupleItemsOf
 refine wpAny_bind (wpAny_bind (wpAny_seqItems (s := ⟨h₁, g, d, _, os⟩) hop hopd (wpAny_pure ?_)))
 refine wpAny_bind (wpAny_typeOf (typeIs_int _ i ti) ?_)
 rw [if_neg (by decide)]
 refine wpAny_bind (wpAny_specialOf (T := "int") (typeIs_int _ i ti) int_index ?_)
 rw [if_neg (by simp)]
 refine wpAny_bind (wpAny_of_eq (a := i) rfl ?_)
 dsimp only [retV]
 rcases h01 with ⟨rfl, rfl⟩ | ⟨rfl, rfl⟩
 ·rw [if_neg (by decide)]
  exact wpAny_pure ⟨_, rfl, q h₁ _ ta S₁.dropHead⟩
 ·rw [if_neg (by decide)]
  exact wpAny_pure ⟨_, rfl, q h₁ _ tb S₁.dropHead⟩
theorem pr_getName {Q : Value → Shared → Prop} {ex : Bool} (C : Cx w mg mb h₀) (S : St h₀ K h) (hdep : A.depth + 3 < recursionLimit) (m : (p, prP na va) ∈ K) (q : ∀ h' t' u, St h₀ K h' → Q (.str na u) ⟨h', g, d, t', os⟩) :
  wpAny (model PP w) A (getAttr (.ref p) "name" ex) Q E ⟨h, g, d, t, os⟩ := by
 obtain ⟨o, od, e, e', a, b, c, u, q'⟩ := tg_inst w
 exact pr_attr C S m (pr_name w) (pr_get1 w) (pr_tk1 w) (wpAny_call (tg_call C S (show A.in1.depth + 2 < recursionLimit from by show A.depth + 2 < _; (exact Nat.le_of_lt (by assumption))) m e e' a b c q' (.inl ⟨rfl, rfl⟩) fun h' t' u S' => wpAny_pure (q h' t' u S')))
theorem pr_getValue {Q : Value → Shared → Prop} {ex : Bool} (C : Cx w mg mb h₀) (S : St h₀ K h) (hdep : A.depth + 3 < recursionLimit) (m : (p, prP na va) ∈ K) (q : ∀ h' t' u, St h₀ K h' → Q (.str va u) ⟨h', g, d, t', os⟩) :
  wpAny (model PP w) A (getAttr (.ref p) "value" ex) Q E ⟨h, g, d, t, os⟩ := by
 obtain ⟨o, od, e, e', a, b, c, u, q'⟩ := tg_inst2 w
 exact pr_attr C S m (pr_value w) (pr_get2 w) (pr_tk2 w) (wpAny_call (tg_call C S (show A.in1.depth + 2 < recursionLimit from by show A.depth + 2 < _; (exact Nat.le_of_lt (by assumption))) m e e' a b c q' (.inr ⟨rfl, rfl⟩) fun h' t' u S' => wpAny_pure (q h' t' u S')))
end
section
variable {prog : Program} {w : World} {A : Around} {E : Value → Shared → Prop} {env : Env} {h₀ h : Heap} {g : Array GenState} {d : Drawn} {t : Nat} {os : OsState} {K K' : Led} {x y : Str} {tx ty : Tok}
theorem all_values : ∀ (l : List (Str × Tok)), All2 isS (strValues l) (l.map (·.1))
 | [] => .nil
 | (s, u) :: l => .cons ⟨u, rfl⟩ (all_values l)
theorem sp_len (x : Str) : (Builtin.Str.spaceWords x (x.length + 1)).length ≤ x.length + 1 := by
 have e1 := (StrLaws.sw_weight x).1
 have e2 := StrLaws.len_le_wsum (Builtin.Str.spaceWords x (x.length + 1))
 (exact Nat.le_trans (by assumption) (by assumption))
theorem split_S {Q : Value → Shared → Prop} (S : St h₀ K h) (hsz : x.length + 2 ≤ sizeLine) (q : ∀ l h' t', St h₀ ((l, lsR isS (Txt.words x)) :: K) h' → Q (.ref l) ⟨h', g, d, t', os⟩) :
  wpAny (model prog w) A (call (.builtin "str.split") [.str x tx] []) Q E ⟨h, g, d, t, os⟩ := by
 refine call_meets F.slot_str_split (typeIs_str _ _ _) F.entry_str_split (F.args_str_split_1 _) (meets_str_split_space x tx (by (exact Nat.le_trans (Nat.le_add_right _ _) (by assumption))) (by have := sp_len x; lia)) ?_
 cases hw : Builtin.Str.spaceWords x (x.length + 1) == [(0, x.length)]
 ·simp only [Bool.false_eq_true, if_false]
  rw [strsFrom_eq]
  have e : (numbered t (PySem.wordsOf x)).map (·.1) = Txt.words x := (numbered_texts _ _).trans (if_neg (ne_true_of_eq_false hw)).symm
  exact q _ _ _ (S.push ⟨strValues (numbered t (PySem.wordsOf x)), e ▸ all_values _, _, rfl⟩ rfl)
 ·simp only [if_true]
  have e : ([(x, tx)] : List (Str × Tok)).map (·.1) = Txt.words x := (if_pos hw).symm
  exact q _ _ _ (S.push ⟨strValues [(x, tx)], e ▸ all_values _, _, rfl⟩ rfl)
theorem gm_split {M : Model} {pl : Sem Bool} {Q : Value × List Value → Shared → Prop} {s : Shared} (q : Q (.builtin "str.split", [.str x tx]) s) : wpAny M A (getMethod (.str x tx) "split" pl) Q E s := GM.split q
end
section
noncomputable def readWord (s : List Str × List Int) (x : Str) : List Str × List Int := (push s.1 x, s.2 ++ [numOf s.1 x])
noncomputable def readRow (xs : List Str) (ws : List Str) : List Str × List Int := ws.foldl readWord (xs, [])
noncomputable def readPair (s : List Str × List (Int × List Int)) (p : Str × Str) : List Str × List (Int × List Int) :=
 ((readRow (push s.1 p.1) (Txt.words p.2)).1, s.2 ++ [(numOf s.1 p.1, (readRow (push s.1 p.1) (Txt.words p.2)).2)])
noncomputable def readAll (prs : List (Str × Str)) : List Str × List (Int × List Int) := prs.foldl readPair ([], [])
theorem push_len (xs : List Str) (x : Str) : (push xs x).length ≤ xs.length + 1 := by
 unfold push
 split
 ·(exact Nat.le_add_right _ _)
 ·simp
theorem row_len : ∀ (ws : List Str) (s : List Str × List Int), (ws.foldl readWord s).1.length ≤ s.1.length + ws.length ∧ (ws.foldl readWord s).2.length = s.2.length + ws.length
 | [], s => ⟨Nat.le_refl _, rfl⟩
 | x :: ws, s => by
  have h := row_len ws (readWord s x)
  have h1 := push_len s.1 x
  simp only [List.foldl_cons, List.length_cons]
  unfold readWord at h ⊢
  simp only [List.length_append, List.length_singleton] at h ⊢
  lia
theorem readPair_len (s : List Str × List (Int × List Int)) (p : Str × Str) {n : Nat} (h : (Txt.words p.2).length ≤ n) : (readPair s p).1.length ≤ s.1.length + 1 + n := by
 have h1 := (row_len (Txt.words p.2) (push s.1 p.1, [])).1
 have h2 := push_len s.1 p.1
 unfold readPair readRow
 dsimp only at h1 ⊢
 lia
theorem readAll_len : ∀ (prs : List (Str × Str)) (s : List Str × List (Int × List Int)) {n : Nat}, (∀ p ∈ prs, (Txt.words p.2).length ≤ n) → (prs.foldl readPair s).1.length ≤ s.1.length + prs.length * (1 + n)
 | [], s, n, _ => by simp
 | p :: prs, s, n, h => by
  have h1 := readAll_len prs (readPair s p) (n := n) (fun q hq => h q (.tail _ hq))
  have h2 := readPair_len s p (h p (.head _))
  (refine (Eq.symm (List.foldl_cons)) ▸ ?_; refine (Eq.symm (List.length_cons)) ▸ ?_; rewrite [Nat.add_mul])
  lia
theorem readAll_snoc (prs : List (Str × Str)) (p : Str × Str) : readAll (prs ++ [p]) = readPair (readAll prs) p := by unfold readAll; rw [List.foldl_append]; rfl
theorem readAll_cnt (prs : List (Str × Str)) : (readAll prs).2.length = prs.length := by
 have key : ∀ (l : List (Str × Str)) (s : List Str × List (Int × List Int)), (l.foldl readPair s).2.length = s.2.length + l.length := by
  intro l
  induction l with
  | nil => exact fun s => rfl
  | cons p l ih =>
   intro s
   rw [List.foldl_cons, ih]
   unfold readPair
   simp
   (exact Nat.add_right_comm _ _ _)
 have := key prs ([], [])
 unfold readAll
 rw [this]
 simp
theorem readAll_pre (prs : List (Str × Str)) (i : Nat) : ∃ tl, (readAll prs).2 = (readAll (prs.take i)).2 ++ tl := by
 have key : ∀ (l : List (Str × Str)) (s : List Str × List (Int × List Int)), ∃ tl, (l.foldl readPair s).2 = s.2 ++ tl := by
  intro l
  induction l with
  | nil => exact fun s => ⟨[], by simp⟩
  | cons p l ih =>
   intro s
   obtain ⟨tl, h⟩ := ih (readPair s p)
   exact ⟨_, by rw [List.foldl_cons, h]; unfold readPair; simp; rfl⟩
 obtain ⟨tl, h⟩ := key (prs.drop i) (readAll (prs.take i))
 refine ⟨tl, ?_⟩
 rw [← h]
 unfold readAll
 rw [← List.foldl_append, List.take_append_drop]
end
section
variable {w : World} {A : Around} {E : Value → Shared → Prop} {env : Env} {h₀ h : Heap} {g : Array GenState} {d : Drawn} {t : Nat} {os : OsState} {K K1 K2 : Led} {mg mb : Str → Option Value}
noncomputable def pairR (K : Led) (v : Value) (y : Str × Str) : Prop := ∃ p, v = .ref p ∧ (p, prP y.1 y.2) ∈ K
theorem f240 (w : World) : ∃ o, (hd.heap_1 w.params).lookup 240 = some o ∧ ∃ fd, o.data = .func fd := by
 refine' ex_look (P := fun o => ∃ fd, o.data = .func fd) ?hh ?pf
 case hh => k_is
 case pf => exact ⟨_, rfl⟩
noncomputable def rulesK (kvs : List (Int × Value)) (lists : Led) (specs : List (Int × List Int)) : Prop := All2 (fun (kv : Int × Value) (s : Int × List Int) => kv.1 = s.1 ∧ ∃ a, kv.2 = .ref a ∧ (a, lsR isI s.2) ∈ lists) kvs specs
theorem rulesK_mono {kvs : List (Int × Value)} {N N' : Led} {specs : List (Int × List Int)} (m : ∀ p, p ∈ N → p ∈ N') (h : rulesK kvs N specs) : rulesK kvs N' specs := All2.imp (fun _ _ z => by (refine xAEA z fun a b c e => ?_; clear z); exact ⟨a, b, c, m _ e⟩) h
theorem rulesK_keys {kvs : List (Int × Value)} {lists : Led} {specs : List (Int × List Int)} (h : rulesK kvs lists specs) : kvs.map (·.1) = specs.map (·.1) := by
 unfold rulesK at h
 induction h with
 | nil => rfl
 | cons r _ ih => (refine (Eq.symm (List.map_cons)) ▸ ?_; refine (Eq.symm (List.map_cons)) ▸ ?_; refine (Eq.symm (ih)) ▸ ?_; refine (Eq.symm (r.1)) ▸ ?_; try with_reducible rfl)
theorem stored_new {kvs : List (Int × Value)} {k : Int} {v : Value} (h : k ∉ kvs.map (·.1)) : stored kvs k v = kvs ++ [(k, v)] := by
 unfold stored
 rw [if_neg]
 rw [List.any_eq_true]
 intro zr; (revert zr; intro zh; refine xEA zh fun kv hkv he => ?_; clear zh)
 exact h (List.mem_map.mpr ⟨kv, hkv, of_decide_eq_true he⟩)
theorem Up.app {a : Addr} {P P' : Pr} {K K' : Led} (u : Up a P P' K K') : ∀ N : Led, Up a P P' (N ++ K) (N ++ K')
 | [] => u
 | p :: N => .tail (Up.app u N)
theorem f105 (w : World) : ∃ o, (hd.heap_1 w.params).lookup 105 = some o ∧ ∃ fd, o.data = .func fd := by
 refine' ex_look (P := fun o => ∃ fd, o.data = .func fd) ?hh ?pf
 case hh => k_is
 case pf => exact ⟨_, rfl⟩
noncomputable def NUM (mg : Str → Option Value) (x dx f cf cell lz cz cellz : Addr) (ctv ctvz : Value) (K : Led) : Led :=
 (lz, exP (lzObj mg cellz cz ctvz)) :: (cz, codP lzQ) :: (cellz, cellP (some (.ref x))) :: (dx, fzP (some (.ref lz))) :: (f, exP (nlObj mg cell cf ctv)) :: (cf, codP nlQ) :: (cell, cellP (some (.ref x))) :: (242, exP (tabObj #[rawInt 164, rawInt 35, .ref cf])) :: (100, exP (fzTab cz)) :: K
theorem perm_mid {α : Type} {a b c x r : α} {l T : List α} : (x :: r :: (l ++ a :: b :: c :: T)).Perm (a :: b :: c :: x :: r :: (l ++ T)) := by
 have h1 : ([x, r] ++ (l ++ ([a, b, c] ++ T))).Perm ([x, r] ++ ([a, b, c] ++ (l ++ T))) := (List.perm_append_comm_assoc l [a, b, c] T).append_left _
 exact h1.trans (List.perm_append_comm_assoc [x, r] [a, b, c] (l ++ T))
theorem read_call {Np : Led} {R : Result → Shared → Prop} {pl : Addr} {prs : List (Str × Str)} (C : Cx w mg mb h₀) (S : St h₀ ((242, exP (tabObj #[])) :: (100, exP (tabObj #[])) :: K) h) (hdep : A.depth + 20 < recursionLimit) (hh : A.handled = none) (hNp : ∀ p ∈ Np, p ∈ K) (mp : (pl, lsR (pairR Np) prs) ∈ K)
  (hlen : prs.length ≤ 5) (hwords : ∀ p ∈ prs, (Txt.words p.2).length ≤ 30 ∧ p.2.length ≤ 2000) (hnd : ((readAll prs).2.map (·.1)).Nodup)
  (q : ∀ tp x dx r kvs lists f cf cell lz cz cellz ctv ctvz h t, 108 < x → 108 < r → rulesK kvs lists (readAll prs).2 → St h₀ ((tp, tpP [.ref x, .ref r]) :: (x, numP w dx f (readAll prs).1) :: (r, dP (intKind PP w) (.type "dict") none #[] kvs) :: (lists ++ NUM mg x dx f cf cell lz cz cellz ctv ctvz K)) h → R (.ok (.ret (.ref tp))) ⟨h, g, d, t, os⟩) :
  codeAny (model PP w) A (.call (.ref 245) ⟨[.ref pl], []⟩) R ⟨h, g, d, t, os⟩ := by
 refine' call_C (binds := [("pairs", .ref pl)]) (bl := [("pairs", .ref pl)]) C S ?hroom ?ho ?hcd (fun t => BindsTo.of_eq ?hbind) ?hkind ?hnd0 ?hbl ?hnd ?h1 ?h2 ?h3 ?k
 case ho => k_is
 case hcd => k_is
 case hbind => exact rfl
 case hroom => (exact Nat.lt_of_le_of_lt (Nat.le_add_right _ _) (by assumption))
 case hkind => intro n y hy; rw [List.mem_singleton] at hy; subst hy; exact .inl rfl
 case hnd0 => decide
 case hbl => intro L y hy; rw [List.mem_singleton] at hy; subst hy; rfl
 case hnd => simp only [List.map_cons, List.map_nil]; decide
 case h1 => rfl
 case h2 => rfl
 case h3 => rfl
 intro L h₁ t₁ S₁
 replace S₁ : St h₀ ((L + 1, cellP none) :: (L, nsP [("pairs", .ref pl)]) :: (242, exP (tabObj #[])) :: (100, exP (tabObj #[])) :: K) h₁ := S₁
 refine k_execs_cons ?_
 refine k_Assign_Name ?_
 refine k_Call_Name_kw ?_
 refine name_G C S₁ C.g_fdd ?_
 refine cw_fd C ?_
 refine k_items_cons ?_
 refine kla_eval rfl ?_
 refine mk_lam (P := 242) (c := 244) (ps := #[]) C S₁ (fun c' => .tail (.tail .head)) C.H3 rfl rfl rfl trivial rfl ?_
 intro f cf ctv h₂ t₂ S₂
 replace S₂ : St h₀ ((f, exP (nlObj mg (L + 1) cf ctv)) :: (cf, codP nlQ) :: (L + 1, cellP none) :: (L, nsP [("pairs", .ref pl)]) :: (242, exP (tabObj #[rawInt 164, rawInt 35, .ref cf])) :: (100, exP (tabObj #[])) :: K) h₂ := S₂
 refine wpAny_items_nil ⟨S₂.keep, ?_⟩
 refine fd_makeS (strKind PP w) C S₂ (.head _) rfl rfl fun x dx h₃ hx S₃ => ?_
 refine store_C S₃ (by exact rfl) (.tail (.tail (.tail (.tail .head)))) fun h₄ S₄ => ?_
 try dsimp only
 refine k_execs_cons ?_
 refine k_Assign_Name ?_
 refine wpAny_Dict_empty ?_
 have S₅ := S₄.push (P := dP (intKind PP w) (.type "dict") none #[] []) (o := { cls := .type "dict", data := .dict #[] }) ⟨rfl, rfl, rfl, #[], 0, rfl, fun _ he => by simp at he, Pairs.nil, List.nodup_nil⟩ rfl
 obtain ⟨r, hr, h₅, eh, S₅⟩ : ∃ r, r = h₄.objs.size ∧ ∃ h₅, h₅ = h₄.push { cls := .type "dict", data := .dict #[] } ∧ St h₀ ((r, dP (intKind PP w) (.type "dict") none #[] []) :: (x, dP (strKind PP w) (.ref 108) (some dx) #[some (.ref f)] []) :: (dx, fzP none) :: (f, exP (nlObj mg (L + 1) cf ctv)) :: (cf, codP nlQ) :: (L + 1, cellP (some (.ref x))) :: (L, nsP [("pairs", .ref pl)]) :: (242, exP (tabObj #[rawInt 164, rawInt 35, .ref cf])) :: (100, exP (tabObj #[])) :: K) h₅ := ⟨_, rfl, _, rfl, S₅⟩
 show wpAny _ _ (storeName _ _ (.ref h₄.objs.size)) _ _ ⟨h₄.push { cls := .type "dict", data := .dict #[] }, g, d, t₂, os⟩
 have hr108 : 108 < r := by
  refine xEA (o108 w) fun o ho zu2 => ?_
  rw [hr]; exact Heap.lt_size (C.X.keeps S₄.keep _ _ ho)
 (refine (eh) ▸ ?_; refine (hr) ▸ ?_; try with_reducible rfl)
 clear eh hr
 refine store_L S₅ (by exact rfl) (.tail (.tail (.tail (.tail (.tail (.tail .head)))))) (.new (by simp only [List.map_cons, List.map_nil]; decide)) fun h₆ S₆ => ?_
 try dsimp only
 refine k_execs_cons ?_
 refine For_ ?_
 let FIX : Led := (dx, fzP none) :: (f, exP (nlObj mg (L + 1) cf ctv)) :: (cf, codP nlQ) :: (L + 1, cellP (some (.ref x))) :: (242, exP (tabObj #[rawInt 164, rawInt 35, .ref cf])) :: (100, exP (tabObj #[])) :: K
 have S₇ : St h₀ ((x, numP w dx f (readAll (prs.take 0)).1) :: (r, dP (intKind PP w) (.type "dict") none #[] []) :: (L, nsP [("rules", .ref r), ("pairs", .ref pl)]) :: ([] ++ FIX)) h₆ := by
  have S₆' : St h₀ ((r, dP (intKind PP w) (.type "dict") none #[] []) :: (x, dP (strKind PP w) (.ref 108) (some dx) #[some (.ref f)] []) :: (dx, fzP none) :: (f, exP (nlObj mg (L + 1) cf ctv)) :: (cf, codP nlQ) :: (L + 1, cellP (some (.ref x))) :: (L, nsP [("rules", .ref r), ("pairs", .ref pl)]) :: (242, exP (tabObj #[rawInt 164, rawInt 35, .ref cf])) :: (100, exP (tabObj #[])) :: K) h₆ := S₆
  have S₆'' := (S₆'.take (.tail (.tail (.tail (.tail (.tail (.tail .head)))))))
  have S8 := (S₆''.take (.tail .head)).take (.tail (.tail .head))
  exact S8.weak .head fun o p => ⟨[], ⟨rfl, fun i kv e => by simp at e⟩, p⟩
 refine name_L (by assumption) (by exact rfl) (mT (mT mH)) (mT mH) ?_
 refine for_lr (R := pairR Np) (xs := prs) (I := fun i K' => ∃ kvs lists, K' = (x, numP w dx f (readAll (prs.take i)).1) :: (r, dP (intKind PP w) (.type "dict") none #[] kvs) :: (L, nsP [("rules", .ref r), ("pairs", .ref pl)]) :: (lists ++ FIX) ∧ rulesK kvs lists (readAll (prs.take i)).2) hh S₇ ?i0 ?hok ?turn ?done
 case i0 => exact ⟨[], [], rfl, .nil⟩
 case hok => intro i K' zr; (revert zr; intro zh; refine xEEA zh fun kvs lists zq2 zu3 => ?_; clear zh; subst zq2); exact .tail _ (.tail _ (.tail _ (List.mem_append_right _ (mT (mT (mT (mT (mT (mT (by assumption))))))))))
 case done =>
  intro K' h₈ t₈ zr S₈; (revert zr; intro zh; refine xEEA zh fun kvs lists zq2 hrk => ?_; clear zh; subst zq2)
  rw [List.take_length] at S₈ hrk
  refine xEAEA (S₈.get (.head _)) fun o ho kvn hkn hpn => ?_
  have S₉ : St h₀ ((x, dP (strKind PP w) (.ref 108) (some dx) #[some (.ref f)] kvn) :: (r, dP (intKind PP w) (.type "dict") none #[] kvs) :: (L, nsP [("rules", .ref r), ("pairs", .ref pl)]) :: (lists ++ FIX)) h₈ := S₈.upd .head (Heap.ExtBut.refl _ _) ho hpn
  have mF : ∀ {q : Addr × Pr}, q ∈ FIX → q ∈ lists ++ FIX := fun hq => List.mem_append_right _ hq
  have m1 : (dx, fzP none) ∈ lists ++ FIX := mF (.head _)
  have m4 : (L + 1, cellP (some (.ref x))) ∈ lists ++ FIX := mF (.tail _ (.tail _ (.tail _ (.head _))))
  refine xEAE (f105 w) fun o105 ho105 fd105 hfd105 => ?_
  clear S₁ S₂ S₃ S₄ S₅ S₆ S₇
  try dsimp only
  refine k_execs_cons ?_
  refine k_Expr_any ?_
  refine k_MethodCall ?_
  refine name_C S₉ (by exact rfl) (.tail _ (.tail _ (.tail _ m4))) ?_
  refine gm_fd C S₉ (.head _) (.tail _ (.tail _ (.tail _ m1))) (fd_freeze w) (ty_freeze w) (by decide) (by decide) ?_
  refine cw_D (o := o105) (fd := fd105) ?_
  refine wpAny_items_nil ⟨⟨C.X.keeps S₉.keep _ _ ho105, hfd105⟩, wpAny_call ?_⟩
  refine freeze_first C S₉ (by show A.depth + 1 + 2 < _; lia) (K₁ := fun c' => (x, dP (strKind PP w) (.ref 108) (some dx) #[some (.ref f)] kvn) :: (r, dP (intKind PP w) (.type "dict") none #[] kvs) :: (L, nsP [("rules", .ref r), ("pairs", .ref pl)]) :: (lists ++ ((dx, fzP none) :: (f, exP (nlObj mg (L + 1) cf ctv)) :: (cf, codP nlQ) :: (L + 1, cellP (some (.ref x))) :: (242, exP (tabObj #[rawInt 164, rawInt 35, .ref cf])) :: (100, exP (fzTab c')) :: K)))
   (K₂ := fun c' lf => (x, dP (strKind PP w) (.ref 108) (some dx) #[some (.ref f)] kvn) :: (r, dP (intKind PP w) (.type "dict") none #[] kvs) :: (L, nsP [("rules", .ref r), ("pairs", .ref pl)]) :: (lists ++ ((dx, fzP (some (.ref lf))) :: (f, exP (nlObj mg (L + 1) cf ctv)) :: (cf, codP nlQ) :: (L + 1, cellP (some (.ref x))) :: (242, exP (tabObj #[rawInt 164, rawInt 35, .ref cf])) :: (100, exP (fzTab c')) :: K)))
   (fun c' => .head _) (fun c' => .tail (.tail (.tail (Up.app (.tail (.tail (.tail (.tail (.tail .head))))) lists)))) (fun c' lf => .tail (.tail (.tail (Up.app .head lists)))) ?_
  intro lz cz ctvz cellz h₁₀ t₁₀ S₁₀
  try dsimp only
  refine k_execs_cons ?_
  refine k_Return_some ?_
  refine k_Tuple ?_
  refine k_items_cons ?_
  refine name_C S₁₀ (by exact rfl) (.tail _ (.tail _ (.tail _ (.tail _ (.tail _ (.tail _ (List.mem_append_right _ (.tail _ (.tail _ (.tail _ (.head _)))))))))) ) ?_
  refine k_items_cons ?_
  refine' name_L S₁₀ ?hL3 (.tail _ (.tail _ (.tail _ (.tail _ (.tail _ (.head _)))))) (.head _) ?_
  case hL3 => conv => lhs; whnf
  refine wpAny_items_nil ?_
  refine n_tup S₁₀ fun tp h₁₁ S₁₁ => ?_
  dsimp only [retV]
  refine q tp x dx r kvs lists f cf (L + 1) lz cz cellz ctv ctvz h₁₁ _ hx hr108 hrk ?_
  have S₁₂ : St h₀ ((tp, tpP [.ref x, .ref r]) :: (lz, exP (lzObj mg cellz cz ctvz)) :: (cz, codP lzQ) :: (cellz, cellP (some (.ref x))) :: (x, numP w dx f (readAll prs).1) :: (r, dP (intKind PP w) (.type "dict") none #[] kvs) :: (lists ++ ((dx, fzP (some (.ref lz))) :: (f, exP (nlObj mg (L + 1) cf ctv)) :: (cf, codP nlQ) :: (L + 1, cellP (some (.ref x))) :: (242, exP (tabObj #[rawInt 164, rawInt 35, .ref cf])) :: (100, exP (fzTab cz)) :: K))) h₁₁ := S₁₁.wk (.keep (fun _ z => z) (.keep (fun _ z => z) (.keep (fun _ z => z) (.keep (fun _ z => z) (.keep (fun o p => ⟨kvn, hkn, p⟩) (.keep (fun _ z => z) (.drop .refl)))))))
  unfold NUM
  exact S₁₂.perm (perm_mid.cons _)
 case turn =>
  rintro i v y K' h₈ it t₈ hy ⟨p, rfl, mpp⟩ ⟨kvs, lists, rfl, hrk⟩ S₈
  clear S₁ S₂ S₃ S₄ S₅ S₆ S₇
  have hwy := hwords y (List.mem_of_getElem? hy)
  have hsn : readAll (prs.take (i + 1)) = readPair (readAll (prs.take i)) y := by (refine (Eq.symm (List.take_add_one)) ▸ ?_; refine (Eq.symm (hy)) ▸ ?_; try with_reducible rfl); exact readAll_snoc _ _
  have hxl : (readAll (prs.take i)).1.length ≤ 200 := by
   have := readAll_len (prs.take i) ([], []) (n := 30) (fun q hq => (hwords q (List.mem_of_mem_take hq)).1)
   have h2 := List.length_take_le' i prs
   unfold readAll
   have h3 : (prs.take i).length * (1 + 30) ≤ 5 * 31 := Nat.mul_le_mul (by (exact Nat.le_trans (by assumption) (by assumption))) (by (exact Nat.le_refl _))
   simp only [List.length_nil] at this
   lia
  generalize hst : readAll (prs.take i) = st at S₈ hrk hsn hxl
  obtain ⟨xs, specs⟩ := st
  dsimp only at S₈ hrk hxl
  have mF : ∀ {q : Addr × Pr}, q ∈ FIX → q ∈ lists ++ FIX := fun hq => List.mem_append_right _ hq
  have m1 : (dx, fzP none) ∈ lists ++ FIX := mF (.head _)
  have m2 : (f, exP (nlObj mg (L + 1) cf ctv)) ∈ lists ++ FIX := mF (.tail _ (.head _))
  have m3 : (cf, codP nlQ) ∈ lists ++ FIX := mF (.tail _ (.tail _ (.head _)))
  have m4 : (L + 1, cellP (some (.ref x))) ∈ lists ++ FIX := mF (.tail _ (.tail _ (.tail _ (.head _))))
  have m5 : (p, prP y.1 y.2) ∈ lists ++ FIX := mF (.tail _ (.tail _ (.tail _ (.tail _ (.tail _ (.tail _ (hNp _ mpp)))))))
  refine xEAE (f240 w) fun o240 ho240 fd240 hfd240 => ?_
  refine asg_L (by assumption) (by exact rfl) (.tail (.tail (.tail .head))) (.new (by simp only [List.map_cons, List.map_nil]; decide)) ?_; intro h₉ S₉
  refine k_execs_cons ?_
  refine k_Assign_Name ?_
  refine k_Call_Name_kw ?_
  refine name_G C S₉ C.g_number ?_
  refine cw_D (o := o240) (fd := fd240) ?_
  refine k_items_cons ?_
  refine name_C S₉ (by exact rfl) (.tail _ (.tail _ (.tail _ (.tail _ m4)))) ?_
  refine k_items_cons ?_
  refine Attribute_any_ ?_
  refine name_L (by assumption) (by exact rfl) (mT (mT (mT mH))) (mH) ?_
  refine pr_getName C S₉ (by show A.depth + 1 + 3 < _; lia) (.tail _ (.tail _ (.tail _ (.tail _ m5)))) fun h₁₀ t₁₀ u₁₀ S₁₀ => ?_
  refine wpAny_items_nil ⟨⟨C.X.keeps S₁₀.keep _ _ ho240, hfd240⟩, wpAny_call ?_⟩
  have S₁₁ := S₁₀.take (.tail .head)
  refine num_open C S₁₁ (by show A.depth + 1 + 6 < _; lia) hh hx (.tail _ (.tail _ (.tail _ m1))) (.tail _ (.tail _ (.tail _ m2))) (.tail _ (.tail _ (.tail _ m3))) (.tail _ (.tail _ (.tail _ m4))) (by (exact Nat.le_trans (by assumption) (by decide))) fun h₁₂ t₁₂ u₁₂ S₁₂ => ?_
  refine store_L S₁₂ (by exact rfl) (.tail (.tail (.tail .head))) (.new (by simp only [List.map_cons, List.map_nil]; decide)) fun h₁₃ S₁₃ => ?_
  try dsimp only
  refine k_execs_cons ?_
  refine wpAny_Assign_Subscript ?_
  refine e_comp (cl := [("numbers", L + 1)]) rfl rfl (by decide) ?_
  refine k_MethodCall ?_
  refine Attribute_any_ ?_
  refine name_L (by assumption) (by exact rfl) (mT (mT (mT mH))) (mT mH) ?_
  refine pr_getValue C S₁₃ (by show A.depth + 1 + 3 < _; lia) (.tail _ (.tail _ (.tail _ (.tail _ m5)))) fun h₁₄ t₁₄ u₁₄ S₁₄ => ?_
  refine gm_split ?_
  refine cw_B ?_
  refine wpAny_items_nil ?_
  refine split_S S₁₄ (szS (by lia)) fun sl h₁₅ t₁₅ S₁₅ => ?_
  have S₁₆ := S₁₅.take (.tail .head)
  have hnum : ∀ j, (((Txt.words y.2).take j).foldl readWord (push xs y.1, [])).1.length ≤ 240 := by
   intro j
   have h1 := (row_len ((Txt.words y.2).take j) (push xs y.1, [])).1
   have h2 := push_len xs y.1
   have h3 := List.length_take_le' j (Txt.words y.2)
   dsimp only at h1
   lia
  refine comp_lr (R := isS) (xs := Txt.words y.2) (by decide) rfl hh (fun j ys K' => K' = (x, numP w dx f (((Txt.words y.2).take j).foldl readWord (push xs y.1, [])).1) :: (sl, lsR isS (Txt.words y.2)) :: (it, itP pl (i + 1)) :: (r, dP (intKind PP w) (.type "dict") none #[] kvs) ::
   (L, nsP [("symbol", .int (numOf xs y.1) u₁₂), ("pair", .ref p), ("rules", .ref r), ("pairs", .ref pl)]) :: (lists ++ FIX) ∧ All2 isI ys (((Txt.words y.2).take j).foldl readWord (push xs y.1, [])).2) S₁₆ ⟨rfl, .nil⟩ ?_ ?_ ?_ ?_
  ·intro j ys K' zr; obtain ⟨rfl, _⟩ := zr; exact .tail _ (.head _)
  ·intro j ys K' zr; obtain ⟨rfl, a2⟩ := zr
   have h1 := (row_len ((Txt.words y.2).take j) (push xs y.1, [])).2
   have h3 := List.length_take_le' j (Txt.words y.2)
   have h4 := a2.length
   simp only [List.length_nil] at h1
   exact szS (by lia)
  ·rintro j v z ys K' h₁₇ t₁₇ Cn D it2 hz ⟨tz, rfl⟩ ⟨rfl, a2⟩ S₁₇ E'
   have hst2 : ((Txt.words y.2).take (j + 1)).foldl readWord (push xs y.1, []) = readWord (((Txt.words y.2).take j).foldl readWord (push xs y.1, [])) z := by (refine (Eq.symm (List.take_add_one)) ▸ ?_; refine (Eq.symm (hz)) ▸ ?_; refine (Eq.symm (List.foldl_append)) ▸ ?_; try with_reducible rfl); rfl
   have hn1 := hnum j
   refine asg_L (by assumption) (by exact rfl) (.head) (.new (by simp only [List.map_cons, List.map_nil]; decide)) ?_; intro h₁₈ S₁₈
   refine wpAny_tests_nil ?_
   rw [if_pos rfl]
   refine k_Call_Name_kw ?_
   refine name_G C S₁₈ C.g_number ?_
   refine cw_D (o := o240) (fd := fd240) ?_
   refine k_items_cons ?_
   refine name_C S₁₈ (by exact rfl) (.tail _ (.tail _ (.tail _ (.tail _ (.tail _ (.tail _ (.tail _ (.tail _ m4)))))))) ?_
   refine k_items_cons ?_
   refine name_L (by assumption) (by exact rfl) (mH) (mH) ?_
   refine wpAny_items_nil ⟨⟨C.X.keeps S₁₈.keep _ _ ho240, hfd240⟩, wpAny_call ?_⟩
   have S₁₉ := S₁₈.take (.tail (.tail (.tail .head)))
   have mm : ∀ {q : Addr × Pr}, q ∈ lists ++ FIX → ∀ {a b c d e f g : Addr × Pr}, q ∈ a :: b :: c :: d :: e :: f :: g :: (lists ++ FIX) := fun hq => .tail _ (.tail _ (.tail _ (.tail _ (.tail _ (.tail _ (.tail _ hq))))))
   refine num_open C S₁₉ (by show A.depth + 1 + 6 < _; lia) hh hx (mm m1) (mm m2) (mm m3) (mm m4) (by (exact Nat.le_trans (by assumption) (by decide))) fun h₂₀ t₂₀ u₂₀ S₂₀ => ?_
   refine (CE_in _ h₂₀ t₂₀ ([("word", .str z tz)]) rfl (⟨rfl, ?_⟩) (?_))
   ·rw [hst2]; exact a2.snoc ⟨_, rfl⟩
   ·(refine (Eq.symm (hst2)) ▸ ?_; try with_reducible rfl)
    exact S₂₀.perm (Tk.perm (.tail (.tail (.tail .head)))).symm
  ·intro ys K' h₁₇ t₁₇ D zr S₁₇; obtain ⟨rfl, a2⟩ := zr
   rw [List.take_length] at S₁₇ a2
   have S₁₈ := S₁₇.closeR a2
   refine' name_L S₁₈ ?hL1 (.tail _ (.tail _ (.tail _ (.tail _ (.tail _ (.head _)))))) (.tail _ (.tail _ (.head _))) ?_
   case hL1 => conv => lhs; whnf
   refine' name_L S₁₈ ?hL2 (.tail _ (.tail _ (.tail _ (.tail _ (.tail _ (.head _)))))) (.head _) ?_
   case hL2 => conv => lhs; whnf
   have hsn' : (readPair (xs, specs) y).2 = specs ++ [(numOf xs y.1, (readRow (push xs y.1) (Txt.words y.2)).2)] := rfl
   have hnew : numOf xs y.1 ∉ kvs.map (·.1) := by
    have hpre : ((readAll (prs.take (i + 1))).2.map (·.1)).Nodup := by
     obtain ⟨tl, htl⟩ := readAll_pre prs (i + 1)
     rw [htl, List.map_append] at hnd
     exact (List.nodup_append.mp hnd).1
    rw [hsn, hsn', List.map_append] at hpre
    have hk : kvs.map (·.1) = specs.map (·.1) := rulesK_keys hrk
    rw [hk]
    intro hm
    exact (List.nodup_append.mp hpre).2.2 _ hm _ (by simp) rfl
   have hst3 : stored kvs (numOf xs y.1) (.ref D) = kvs ++ [(numOf xs y.1, .ref D)] := stored_new hnew
   refine wpAny_setItem_pairs (intKind_is PP w _ _) (S₁₈.isDict (.tail _ (.tail _ (.tail _ (.tail _ (.head _)))))) (fun h₁₉ hd₁₉ hs₁₉ => ?_) (szS ?_)
   ·have S₁₉ := S₁₈.dictUp (.tail (.tail (.tail (.tail .head)))) hd₁₉ hs₁₉.extBut
    rw [hst3] at S₁₉
    try dsimp only
    refine wpAny_execs_nil ?_
    refine ⟨_, _, _, rfl, ⟨kvs ++ [(numOf xs y.1, .ref D)], (D, lsR isI (readRow (push xs y.1) (Txt.words y.2)).2) :: lists, rfl, ?_⟩, ?_⟩
    ·rw [hsn, hsn']
     refine All2.snoc (hrk.imp fun kv s ⟨e, a, e2, m⟩ => ⟨e, a, e2, .tail _ m⟩) ⟨rfl, D, rfl, .head _⟩
    ·(refine (Eq.symm (hsn)) ▸ ?_; try with_reducible rfl)
     have S₂₀ := (S₁₉.take (.tail (.tail (.tail .head)))).take (.tail .head)
     have S₂₁ : St h₀ ((it, itP pl (i + 1)) :: (x, numP w dx f (((Txt.words y.2)).foldl readWord (push xs y.1, [])).1) :: (sl, lsR isS (Txt.words y.2)) :: (r, dP (intKind PP w) (.type "dict") none #[] (kvs ++ [(numOf xs y.1, .ref D)])) ::
      (L, nsP [("symbol", .int (numOf xs y.1) u₁₂), ("pair", .ref p), ("rules", .ref r), ("pairs", .ref pl)]) :: (D, lsR isI (readRow (push xs y.1) (Txt.words y.2)).2) :: (lists ++ FIX)) h₁₉ :=
      S₂₀.perm (Tk.perm (.tail (.tail (.tail (.tail (.tail .head)))))).symm
     exact S₂₁.wk (.keep (fun _ z => z) (.keep (fun _ z => z) (.drop (.keep (fun _ z => z) (.keep (nsP_sub (.cons _ (.cons _ (List.Sublist.refl _)))) .refl)))))
   ·have h1 := hrk.length
    have h2 := readAll_cnt (prs.take i)
    have h3 := List.length_take_le' i prs
    rw [hst] at h2
    dsimp only at h2
    lia
end
section
section
variable (w : World)
theorem o203x : ∃ o, (hd.heap_1 w.params).lookup 203 = some o ∧ (∃ oc od cd sl, o = ⟨oc, od, .cls cd, sl⟩ ∧ cd.abstract = false ∧ cd.hasDel = false ∧ (sl.toList[4]?).join = some .none ∧ cd.mro = [.ref 203, .ref 180, .type "tuple", .type "object"] ∧ cd.bases = [.ref 180]) := by
 refine' ex_look (P := fun o => ∃ oc od cd sl, o = ⟨oc, od, .cls cd, sl⟩ ∧ cd.abstract = false ∧ cd.hasDel = false ∧ (sl.toList[4]?).join = some .none ∧ cd.mro = [.ref 203, .ref 180, .type "tuple", .type "object"] ∧ cd.bases = [.ref 180]) ?hh ?pf
 case hh => k_is
 case pf => exact ⟨_, _, _, _, rfl, rfl, rfl, rfl, rfl, rfl⟩
theorem o180x : ∃ o, (hd.heap_1 w.params).lookup 180 = some o ∧ (∃ oc od cd sl, o = ⟨oc, od, .cls cd, sl⟩ ∧ cd.slotNames = [] ∧ (sl.toList[4]?).join = some .none ∧ cd.mro = [.ref 180, .type "tuple", .type "object"] ∧ cd.bases = [.type "tuple"]) := by
 refine' ex_look (P := fun o => ∃ oc od cd sl, o = ⟨oc, od, .cls cd, sl⟩ ∧ cd.slotNames = [] ∧ (sl.toList[4]?).join = some .none ∧ cd.mro = [.ref 180, .type "tuple", .type "object"] ∧ cd.bases = [.type "tuple"]) ?hh ?pf
 case hh => k_is
 case pf => exact ⟨_, _, _, _, rfl, rfl, rfl, rfl, rfl⟩
theorem pr_call : specialIn (hd.heap_1 w.params) (.ref 203) "__call__" = some (some (.builtin "type.__call__")) := by k_is
theorem pr_type : instIn (hd.heap_1 w.params) (.ref 203) (.type "type") = some true := by k_is
theorem pr_init : findIn (hd.heap_1 w.params) (.ref 203) "__init__" = some (some (.builtin "object.__init__")) := by k_is
theorem pr_self : mroIn (hd.heap_1 w.params) 203 (.ref 203) = some true := by k_is
theorem pr_new : findCls (hd.heap_1 w.params) (.ref 203) (.type "type") "__new__" = some (.get (.builtin "staticmethod.__get__") (.ref 181) .none (.ref 203)) := by k_is
end
theorem madeBy_tuple : Bind.madeBy (.type "tuple") = pure (some "tuple.__new__") := F.called_tuple.made
theorem made_tn : Manifest.canonical "tuple.__new__" = "tuple.__new__" := by decide +kernel
theorem slotNames_tuple : Builtin.Slots.slotNamesOf (.type "tuple") = pure (List.replicate (0 + PySem.cFieldsOf "tuple" + PySem.cFieldsOf "object") Str.empty) := by first | rfl | kernel_rfl
structure PrMakes (M : Model) (h : Heap) : Prop where
 obj : ∃ oc od cd sl, h.get? 203 = some ⟨oc, od, .cls cd, sl⟩ ∧ cd.abstract = false ∧ cd.hasDel = false ∧ cd.mro.isEmpty = false
 made : Looks M h (Bind.madeBy (.ref 203)) none
 base : Looks M h (Bind.staticBase (.ref 203)) (.type "tuple")
 tuple : Looks M h (isSubtype (.ref 203) (.type "tuple")) true
 self : Looks M h (isSubtype (.ref 203) (.ref 203)) true
 call : Looks M h (specialOf (.ref 203) "__call__") (some (.builtin "type.__call__"))
 typ : Looks M h (isInstance (.ref 203) (.type "type")) true
 mro : Looks M h (mroOf (.ref 203)) [.ref 203, .ref 180, .type "tuple", .type "object"]
 init : Looks M h (typeLookup (.ref 203) "__init__") (some (.builtin "object.__init__"))
theorem prHere {M : Model} {h : Heap} (base : Looks M h (Bind.staticBase (.ref 203)) (.type "tuple")) : Looks M h (Bind.madeHere "tuple.__new__" (.ref 203)) () := by
 intro A Q E s k q
 unfold Bind.madeHere
 refine wpAny_bind (base A _ E s k ?_)
 rw [madeBy_tuple]
 refine wpAny_bind (wpAny_pure ?_)
 rw [if_neg (by decide +kernel)]
 exact wpAny_pure q
theorem prMakes {M : Model} {h : Heap} {w : World} (X : (hd.heap_1 w.params).In h) : PrMakes M h := by
 obtain ⟨_, ho, oc, od, cd, sl, rfl, e1, e2, e3, e4, e5⟩ := o203x w
 obtain ⟨_, ho', oc', od', cd', sl', rfl, f1, f3, f4, f5⟩ := o180x w
 have hc : clsIn (hd.heap_1 w.params) 203 = some cd := by unfold clsIn; rw [ho]
 have hc' : clsIn (hd.heap_1 w.params) 180 = some cd' := by unfold clsIn; rw [ho']
 have hm : Looks M h (mroOf (.ref 203)) cd.mro := (looks_clsIn X hc).andThen .now
 have hm' : Looks M h (mroOf (.ref 180)) cd'.mro := (looks_clsIn X hc').andThen .now
 have made : Looks M h (Bind.madeBy (.ref 203)) none := by
  intro A Q E s k q
  unfold Bind.madeBy
  refine wpAny_bind (hm A _ E s k ?_)
  (refine (Eq.symm (e4)) ▸ ?_; rewrite [List.forIn_cons])
  refine wpAny_bind (wpAny_bind (wpAny_bind (wpAny_bind (wpAny_loadPart (k _ _ (X _ _ ho)) (wpAny_pure ?_)))))
  dsimp only
  (refine (Array.getElem?_toList) ▸ ?_; refine (Eq.symm (e3)) ▸ ?_)
  exact wpAny_pure (wpAny_pure (wpAny_pure q))
 have made' : Looks M h (Bind.madeBy (.ref 180)) none := by
  intro A Q E s k q
  unfold Bind.madeBy
  refine wpAny_bind (hm' A _ E s k ?_)
  (refine (Eq.symm (f4)) ▸ ?_; rewrite [List.forIn_cons])
  refine wpAny_bind (wpAny_bind (wpAny_bind (wpAny_bind (wpAny_loadPart (k _ _ (X _ _ ho')) (wpAny_pure ?_)))))
  dsimp only
  (refine (Array.getElem?_toList) ▸ ?_; refine (Eq.symm (f3)) ▸ ?_)
  exact wpAny_pure (wpAny_pure (wpAny_pure q))
 have sol : Looks M h (Builtin.Slots.solid (.ref 180)) (.type "tuple") := by
  intro A Q E s k q
  unfold Builtin.Slots.solid
  refine wpAny_bind (hm' A _ E s k ?_)
  (refine (Eq.symm (f4)) ▸ ?_; rewrite [List.forIn_cons])
  refine wpAny_bind (wpAny_bind (wpAny_bind ?_))
  unfold Builtin.Slots.addsLayout
  refine wpAny_bind (looks_clsIn X hc' A _ E s k ?_)
  dsimp only
  (refine (Eq.symm (f5)) ▸ ?_; refine (Eq.symm (f1)) ▸ ?_; rewrite [List.forIn_cons])
  refine wpAny_bind (wpAny_bind (wpAny_bind (wpAny_of_eq slotNames_tuple (wpAny_pure ?_))))
  dsimp only
  rw [List.forIn_nil]
  refine wpAny_pure (wpAny_pure ?_)
  rw [if_neg (by simp)]
  refine wpAny_pure ?_
  dsimp only
  rw [List.forIn_cons]
  refine wpAny_bind (wpAny_bind (wpAny_pure ?_))
  rw [if_neg (by decide)]
  dsimp only
  rw [if_pos (by decide +kernel)]
  refine wpAny_pure ?_
  exact wpAny_pure (wpAny_pure q)
 have best : Looks M h (Builtin.Slots.bestBase [.ref 180]) (.ref 180) := by
  intro A Q E s k q
  unfold Builtin.Slots.bestBase
  dsimp only
  rw [List.forIn_cons]
  refine wpAny_bind (wpAny_bind (wpAny_bind (sol A _ E s k (wpAny_pure ?_))))
  dsimp only
  rw [List.forIn_nil]
  exact wpAny_pure (wpAny_pure q)
 have best' : Looks M h (Builtin.Slots.bestBase [.type "tuple"]) (.type "tuple") := Looks.of_pure (by first | rfl | kernel_rfl)
 refine ⟨⟨oc, od, cd, sl, X _ _ ho, e1, e2, by rw [e4]; rfl⟩, made, ?_, looks_mroIn X (pr_mro_tuple w), looks_mroIn X (pr_self w), looks_specialIn X (pr_call w), looks_instIn X (pr_type w), e4 ▸ hm, looks_findIn X (pr_init w)⟩
 intro A Q E s k q
 unfold Bind.staticBase
 refine wpAny_bind (hm A _ E s k ?_)
 (refine (Eq.symm (e4)) ▸ ?_; rewrite [List.forIn_cons])
 refine wpAny_bind (wpAny_bind (wpAny_bind (made A _ E s k ?_)))
 rw [if_neg (by decide)]
 refine wpAny_bind (looks_clsIn X hc A _ E s k ?_)
 rw [e5]
 refine wpAny_bind (best A _ E s k (wpAny_pure ?_))
 dsimp only
 rw [List.forIn_cons]
 refine wpAny_bind (wpAny_bind (made' A _ E s k ?_))
 rw [if_neg (by decide)]
 refine wpAny_bind (looks_clsIn X hc' A _ E s k ?_)
 rw [f5]
 refine wpAny_bind (best' A _ E s k (wpAny_pure ?_))
 dsimp only
 rw [List.forIn_cons]
 (refine (Eq.symm (madeBy_tuple)) ▸ ?_)
 refine wpAny_bind (wpAny_bind (wpAny_pure ?_))
 rw [if_pos (by decide)]
 exact wpAny_pure (wpAny_pure (wpAny_pure q))
end
section
theorem tn_kind : builtinKind "tuple.__new__" = some .builtinFn := by decide +kernel
theorem tn_split : splitId "tuple.__new__" = some ("tuple", "__new__") := by decide +kernel
theorem tn_sig : (Manifest.signature? "tuple.__new__").isSome = true := by decide +kernel
theorem tn_args (a b : Value) : argsOk "tuple.__new__" ⟨[a, b], []⟩ := by unfold argsOk; kernel_rfl
section
variable {w : World} {A : Around} {E : Value → Shared → Prop} {env : Env} {h₀ h : Heap} {g : Array GenState} {d : Drawn} {t : Nat} {os : OsState} {K : Led} {mg mb : Str → Option Value}
theorem stopC {M : Model} {A : Around} {v : Value} {Q : List Value → Shared → Prop} {E : Value → Shared → Prop} {s : Shared} (h : wpAny M A (collect v) Q E s) : wpAny M A (collect v) Q E s := h
theorem pr_tnew {R : Result → Shared → Prop} {tp : Addr} {a b : Str} {ta tb : Tok} (C : Cx w mg mb h₀) (S : St h₀ K h) (m : (tp, tpP [.str a ta, .str b tb]) ∈ K)
  (hq : ∀ p h', St h₀ ((p, prP a b) :: K) h' → R (.ok (.ret (.ref p))) ⟨h', g, d, t, os⟩) :
  codeAny (model PP w) A (.call (.builtin "tuple.__new__") ⟨[.ref 203, .ref tp], []⟩) R ⟨h, g, d, t, os⟩ := by
 obtain ⟨⟨oc, od, cd, sl, hC, e1, e2, e4⟩, made, base, tuple, self, call, typ, mro, init⟩ := prMakes (M := model PP w) (C.X.keeps S.keep)
 refine codeAny_call_builtin PySem.F.plain_tuple_new PySem.F.entry_tuple_new ?_
 simp only [checkBuiltinCall, tn_kind, tn_split]
 have ok := tn_args (.ref 203) (.ref tp)
 cases hsig : Manifest.signature? "tuple.__new__" with
 | none => exact absurd (hsig ▸ tn_sig) (by decide)
 | some sig =>
  simp only [argsOk, hsig] at ok
  have h2 : Bind.checkArgs "tuple.__new__" sig ⟨[.ref 203, .ref tp], []⟩ = pure () := ok
  simp only []
  (refine (Eq.symm (h2)) ▸ ?_)
  have here := prHere base
  have mt : Looks (model PP w) h (Bind.madeBy (.type "tuple")) (some "tuple.__new__") := Looks.of_pure madeBy_tuple
  repeat ((fail_if_success (with_reducible refine stopC ?_)); lk)
  (refine xEAE (S.get m) fun o ho n zq3 => ?_; subst zq3)
  refine wpAny_collect_seq (n := n) (T := "tuple") tp (.inr rfl) ho rfl rfl (fun h' hk => ?_) (szS (by show 2 ≤ _; (exact Nat.le_of_ble_eq_true rfl)))
  have S₁ := S.ext hk
  refine wpAny_bind (wpAny_pure ?_)
  repeat lk
  refine nd_load (Heap.get?_push_of_some _ (Heap.get?_push_of_some _ (hk _ _ hC))) ?_
  refine nd_pure ?_
  try dsimp only
  rw [e2]
  refine wpAny_pure ?_
  rw [if_neg (by decide)]
  refine wpAny_pure (wpAny_pure ?_)
  exact hq _ _ ((S₁.ext fun b o e => Heap.get?_push_of_some _ e).push ⟨rfl, ⟨_, rfl⟩, _, _, _, rfl⟩ rfl)
theorem tu_new (w : World) : findCls (hd.heap_1 w.params) (.type "tuple") (.type "type") "__new__" = some (.val (.builtin "tuple.__new__")) := by k_is
theorem new_type {Q : Value × List Value → Shared → Prop} {pl : Sem Bool} (C : Cx w mg mb h₀) (S : St h₀ K h) (q : Q (.builtin "tuple.__new__", []) ⟨h, g, d, t + 1, os⟩) :
  wpAny (model PP w) A (getMethod (.type "tuple") "__new__" pl) Q E ⟨h, g, d, t, os⟩ := by
 have X := C.X.keeps S.keep
 have hstub : opaqueClassAbove (.type "tuple") = pure none := by unfold opaqueClassAbove; try dsimp only; (refine (Eq.symm (show Manifest.isStub "tuple" = false by decide +kernel)) ▸ ?_); rfl
 have ht : typeOf (.type "tuple") = pure (.type "type") := by first | rfl | kernel_rfl
 have L0 : Looks (model PP w) h (typeOf (.type "tuple")) (.type "type") := Looks.of_pure ht
 have hg : findIn (hd.heap_1 w.params) (.type "type") "__getattribute__" = some (some (.builtin "type.__getattribute__")) := type_tga
 have LO : Looks (model PP w) h (opaqueClassAbove (.type "tuple")) none := Looks.of_pure hstub
 unfold getMethod specialOf
 refine wpAny_bind (wpAny_bind (L0.at ((looks_findIn X hg).at ?_)))
 try dsimp only
 rw [if_pos canon_tga]
 refine wpAny_bind (wpAny_mono (Q := fun v => Q (v, [])) (E := E) ?_ (fun _ _ z => wpAny_pure z) fun _ _ z => z)
 refine cls_open (s := ⟨h, g, d, t, os⟩) X LO L0 hg (looks_hook X (r := none) (by rfl)) (by show subIn _ _ _ = _; rfl) (tu_new w) (wpAny_pure ?_)
 show wpAny _ _ (handedOut (.builtin "tuple.__new__")) _ _ _
 rw [handedOut_of (by decide +kernel)]; exact wpAny_pure q
theorem pr_func {R : Result → Shared → Prop} {a b : Str} {ta tb : Tok} (C : Cx w mg mb h₀) (S : St h₀ K h) (hdep : A.depth + 3 < recursionLimit)
  (hq : ∀ p h' t', St h₀ ((p, prP a b) :: K) h' → R (.ok (.ret (.ref p))) ⟨h', g, d, t', os⟩) :
  codeAny (model PP w) A (.call (.ref 130) ⟨[.ref 203, .str a ta, .str b tb], []⟩) R ⟨h, g, d, t, os⟩ := by
 refine' call_T (binds := [("_cls", .ref 203), ("name", .str a ta), ("value", .str b tb)]) C S ?hroom ?ho ?hcd (fun t => BindsTo.of_eq ?hbind) ?hcell ?hloc ?hnd ?h1 ?h2 ?h3 ?k
 case ho => k_is
 case hcd => k_is
 case hbind => exact rfl
 case hroom => (exact Nat.lt_of_le_of_lt (Nat.le_add_right _ _) (by assumption))
 case hcell => decide
 case hloc => exact rfl
 case hnd => simp only [List.map_cons, List.map_nil]; decide
 case h1 => rfl
 case h2 => rfl
 case h3 => rfl
 intro L h₁ S₁
 dsimp only [List.length_cons, List.length_nil]
 (with_reducible refine k_execs_cons ?_); refine k_Expr_any ?_; (with_reducible refine c_str ?_); (with_reducible refine k_execs_cons ?_); (with_reducible refine k_Return_some ?_); refine k_MethodCall ?_
 try dsimp only
 skip
 refine name_B C S₁ C.b_tuple ?_
 refine new_type C S₁ ?_
 refine cw_B ?_
 refine k_items_cons ?_; refine name_L (by assumption) (by exact rfl) (mH) (mH) ?_; refine k_items_cons ?_; (with_reducible refine k_Tuple ?_); refine k_items_cons ?_; refine name_L (by assumption) (by exact rfl) (mH) (mT mH) ?_; refine k_items_cons ?_; refine name_L (by assumption) (by exact rfl) (mH) (mT (mT mH)) ?_; (with_reducible refine wpAny_items_nil ?_)
 refine n_tup S₁ fun tp h₂ S₂ => ?_
 refine wpAny_items_nil ?_
 refine wpAny_call ?_
 refine pr_tnew C S₂ (.head _) fun p h₃ S₃ => ?_
 dsimp only [retV]
 refine hq p h₃ _ (S₃.wk (.keep (fun _ z => z) (.drop (.drop .refl))))
end
end
section
variable {w : World} {A : Around} {E : Value → Shared → Prop} {env : Env} {h₀ h : Heap} {g : Array GenState} {d : Drawn} {t : Nat} {os : OsState} {K : Led} {mg mb : Str → Option Value}
theorem stopG {M : Model} {A : Around} {v : Value} {n : Str} {Q : Value → Shared → Prop} {E : Value → Shared → Prop} {s : Shared} (h : wpAny M A (getAttr v n) Q E s) : wpAny M A (getAttr v n) Q E s := h
theorem pr_reads (w : World) : readsIn (hd.heap_1 w.params) 203 (.type "type") = true := by k_is
theorem rec_181 (w : World) : ∃ rest, recIn (hd.heap_1 w.params) 181 "staticmethod" = some (.ref 130 :: rest) := by
 refine ⟨[], ?_⟩
 k_is
theorem ty_ob_init (w : World) : typeIn (hd.heap_1 w.params) (.builtin "object.__init__") = some (.type "wrapper_descriptor") := by k_is
theorem pr_mro_object (w : World) : mroIn (hd.heap_1 w.params) 203 (.type "object") = some true := by k_is
theorem oi_kind : builtinKind "object.__init__" = some .slot := by decide +kernel
theorem oi_split : splitId "object.__init__" = some ("object", "__init__") := by decide +kernel
theorem oi_plain : plainId "object.__init__" = true := by decide +kernel
theorem oi_args (a b c : Value) : argsOk "object.__init__" ⟨[a, b, c], []⟩ := by unfold argsOk; kernel_rfl
theorem pr_make {R : Result → Shared → Prop} {a b : Str} {ta tb : Tok} (C : Cx w mg mb h₀) (S : St h₀ K h) (hdep : A.depth + 6 < recursionLimit)
  (hq : ∀ p h' t', St h₀ ((p, prP a b) :: K) h' → R (.ok (.ret (.ref p))) ⟨h', g, d, t', os⟩) :
  codeAny (model PP w) A (.call (.ref 203) ⟨[.str a ta, .str b tb], []⟩) R ⟨h, g, d, t, os⟩ := by
 have X := C.X.keeps S.keep
 obtain ⟨⟨oc, od, cd, sl, hC, e1, e2, e4⟩, made, base, tuple, self, call, typ, mro, init⟩ := prMakes (M := model PP w) X
 refine codeAny_of_tree ?_
 show wpAny _ _ (callAny (.ref 203) _) _ _ _
 refine nd_load hC ?_
 show wpAny _ _ (callAny.viaDunder (.ref 203) _) _ _ _
 unfold callAny.viaDunder
 refine wpAny_bind (call.at ?_)
 dsimp only
 rw [tc_bind]
 refine wpAny_bind (wpAny_pure (wpAny_bind (wpAny_pure ?_)))
 refine wpAny_pure (a := Fin.again (.call (.builtin "type.__call__") ⟨[.ref 203, .str a ta, .str b tb], []⟩)) (And.intro rfl ?_)
 refine codeAny_call_builtin_at (Code.quiet_builtin _ (by decide +kernel)) entry_typeCall (check_slot tc_kind tc_split typ (tc_args _ _ _) ?_)
 unfold Builtin.«type.__call__»
 repeat ((fail_if_success (with_reducible refine stopG ?_)); first | simp only [List.isEmpty_cons, Bool.false_eq_true, if_false] | lk)
 obtain ⟨rest, hrec⟩ := rec_181 w
 refine cls_bind X (pr_reads w) (pr_new w) (wpAny_call (sm_get X hrec (handed_on rfl ?_)))
 refine wpAny_bind (wpAny_holding (wpAny_call (pr_func C S (by show A.depth + 1 + 3 < _; lia) fun p h₁ t₁ S₁ => ?_)))
 dsimp only
 obtain ⟨o, ho, hc, ⟨dx, hdx⟩, n, ta', tb', hd⟩ := S₁.get (.head _)
 have k1 : ∀ b o, h₀.get? b = some o → h₁.get? b = some o := S₁.keep
 have X1 := C.X.keeps S₁.keep
 have Y1 := prMakes (M := model PP w) X1
 have L0 := type_looks (M := model PP w) ho
 rw [hc] at L0
 have L1 : Looks (model PP w) h₁ (isInstance (.ref p) (.ref 203)) true := by
  unfold isInstance; exact L0.andThen Y1.self
 refine wpAny_bind (L1.at ?_)
 rw [if_neg (by decide)]
 refine wpAny_bind (wpAny_holding ?_)
 refine special_B (s := ⟨h₁, g, d, t₁, os⟩) X1 ho hc (pr_init w) (.inl (ty_ob_init w)) ?_
 refine call_I (owner := "object") (n := "__init__") X1 ho hc (pr_mro_object w) (.inl oi_kind) oi_split oi_plain PySem.F.entry_object_init (oi_args _ _ _) ?_
 unfold Builtin.«object.__init__»
 dsimp only
 rw [if_pos (by rfl)]
 refine wpAny_bind (L0.at ?_)
 refine wpAny_bind (Y1.init.at ?_)
 refine wpAny_bind (Y1.made.at ?_)
 rw [if_neg (by decide), if_neg (by simp)]
 refine wpAny_pure ⟨_, rfl, ?_⟩
 rw [if_neg (by decide)]
 exact wpAny_pure (hq p h₁ t₁ S₁)
end
section
theorem lookup_map_new : typeLookup (.type "map") "__new__" = pure (some (.builtin "map.__new__")) := by (rewrite [typeLookup_type]; refine (Eq.symm (builtinLookup_eq_fast)) ▸ ?_); kernel_rfl
theorem mro_map : mroOf (.type "map") = pure [.type "map", .type "object"] := by rw [mroOf_type]; kernel_rfl
theorem slot_map_init : Slot "map" "__init__" "object.__init__" :=
 .of (owner := "object") (n := "__init__") (by (rewrite [typeLookup_type]; refine (Eq.symm (builtinLookup_eq_fast)) ▸ ?_); kernel_rfl) (by decide +kernel) (by decide +kernel) (by decide +kernel)
  (by first | exact .inl (by decide +kernel) | exact .inr (by decide +kernel)) (by rw [isSubtype_type]; kernel_rfl)
theorem sub_map : isSubtype (.type "map") (.type "map") = pure true := by rw [isSubtype_type]; kernel_rfl
theorem called_map : TypeCalled "map" "map.__new__" "object.__init__" :=
 ⟨by decide +kernel, by decide +kernel, ⟨_, _, mro_map⟩, madeBy_type mro_map lookup_map_new (by decide +kernel), by decide +kernel, sub_map, slot_map_init⟩
theorem typeCall_map_2 (a b : Value) : checkTypeCall "map" ⟨[a, b], []⟩ = pure () := by kernel_rfl
theorem newCall_map_2 (a b : Value) : checkBuiltinCall "map.__new__" ⟨[.type "map", a, b], []⟩ = pure () := by kernel_rfl
theorem entry_map_new : entryFor table "map.__new__" = some Builtin.«map.__new__» := entryFor_of_tree (by kernel_rfl)
noncomputable def mapObj (f : Value) (mt : Addr) : Obj := { cls := .type "map", data := .fields #[.ref mt, f] }
theorem plain_map_new : plainId "map.__new__" = true := by decide +kernel
section
variable {w : World} {A : Around} {E : Value → Shared → Prop} {env : Env} {h₀ h : Heap} {g : Array GenState} {d : Drawn} {t : Nat} {os : OsState} {K : Led} {mg mb : Str → Option Value}
theorem map_new {Q : Value → Shared → Prop} {l : Addr} {vs : List Value} {f : Value} (S : St h₀ K h) (hl : h.IsList l vs.toArray)
  (q : ∀ mp mt li h', St h₀ ((mp, exP (mapObj f mt)) :: (mt, tpP [.ref li]) :: (li, itP l 0) :: K) h' → Q (.ref mp) ⟨h', g, d, t, os⟩) :
  wpAny (model PP w) A (call (.type "map") [f, .ref l] []) Q E ⟨h, g, d, t, os⟩ := by
 refine callType_codes (Q₁ := fun obj s₁ => s₁.TypeIs obj "map" ∧ Q obj s₁) called_map (typeCall_map_2 _ _) PySem.F.entry_object_init ?_
  fun obj s₁ h₁ => ⟨h₁.1, PySem.F.args_object_init_3 obj _ _, object_init_meets called_map.init.lookup called_map.made (by decide) PP w A.in1 _ s₁ ⟨h₁.1, rfl, h₁.2⟩⟩
 refine codeAny_call_builtin plain_map_new entry_map_new ?_
 rw [newCall_map_2]
 refine wpAny_pure ?_
 unfold Builtin.«map.__new__» Builtin.SmallTypes.newClass
 dsimp only
 (refine (Eq.symm (sub_map)) ▸ ?_)
 refine wpAny_bind (wpAny_bind (wpAny_of_eq (a := true) (by first | rfl | kernel_rfl) ?_))
 rw [if_neg (by decide)]
 refine wpAny_bind (wpAny_pure ?_)
 rw [if_neg (by decide)]
 refine wpAny_pure ?_
 dsimp only
 unfold Builtin.SmallTypes.refuseKeywords
 rw [if_pos (by rfl)]
 refine wpAny_bind (wpAny_pure ?_)
 rw [if_neg (by simp)]
 unfold Builtin.SmallTypes.iterAll
 dsimp only [List.drop, List.headD]
 rw [List.forIn_cons]
 refine wpAny_bind (wpAny_bind (wpAny_bind (wpAny_bind (wpAny_holding (wpAny_pyIter_list hl ?_)))))
 have S₁ : St h₀ ((h.objs.size, itP l 0) :: K) _ := S.push (o := { cls := .type "list_iterator", data := .fields #[.ref l, .int 0 0] }) (P := itP l 0) ⟨rfl, rfl⟩ rfl
 refine wpAny_pure ?_
 dsimp only
 rw [List.forIn_nil]
 refine wpAny_pure (wpAny_pure (wpAny_bind (wpAny_newTuple ?_ (szS (by show 1 ≤ 4096; decide)))))
 have S₂ := S₁.push (P := tpP [.ref h.objs.size]) (o := { cls := .type "tuple", data := .seq #[.ref h.objs.size] }) ⟨_, rfl⟩ rfl
 unfold Builtin.SmallTypes.newRecord
 dsimp only
 refine wpAny_bind (wpAny_newObj_type ?_)
 have S₃ := S₂.push (P := exP (mapObj f (h.push { cls := .type "list_iterator", data := .fields #[.ref l, .int 0 0] }).objs.size)) (o := mapObj f (h.push { cls := .type "list_iterator", data := .fields #[.ref l, .int 0 0] }).objs.size) rfl rfl
 exact wpAny_pure ⟨⟨_, Heap.get?_push_size _ rfl, rfl⟩, q _ _ _ _ S₃⟩
end
end
section
theorem entry_map_next' : entryFor table "map.__next__" = some Builtin.«map.__next__» := entryFor_of_tree (by kernel_rfl)
theorem args_map_next (a : Value) : argsOk "map.__next__" ⟨[a], []⟩ := by unfold argsOk; kernel_rfl
theorem slot_map_next' : Slot "map" "__next__" "map.__next__" :=
 .of (owner := "map") (n := "__next__") (by (rewrite [typeLookup_type]; refine (Eq.symm (builtinLookup_eq_fast)) ▸ ?_); kernel_rfl) (by decide +kernel) (by decide +kernel) (by decide +kernel)
  (by first | exact .inl (by decide +kernel) | exact .inr (by decide +kernel)) (by rw [isSubtype_type]; kernel_rfl)
section
variable {w : World} {A : Around} {E : Value → Shared → Prop} {env : Env} {h₀ h : Heap} {g : Array GenState} {d : Drawn} {t : Nat} {os : OsState} {K : Led} {mg mb : Str → Option Value}
theorem map_item {Q : Option Value → Shared → Prop} {mp mt li l : Addr} {vs : List Value} {f v : Value} {i : Nat} (S : St h₀ ((mp, exP (mapObj f mt)) :: (mt, tpP [.ref li]) :: (li, itP l i) :: K) h) (hl : h.IsList l vs.toArray) (hx : vs[i]? = some v) (hne : l ≠ li)
  (q : ∀ A' E' h' (Q' : Value → Shared → Prop), St h₀ ((mp, exP (mapObj f mt)) :: (mt, tpP [.ref li]) :: (li, itP l (i + 1)) :: K) h' → (∀ r h'' t'', Q (some r) ⟨h'', g, d, t'', os⟩ → Q' r ⟨h'', g, d, t'', os⟩) →
   wpAny (model PP w) A' (call f [v] []) Q' E' ⟨h', g, d, t, os⟩) :
  wpAny (model PP w) A (pyNext (.ref mp)) Q E ⟨h, g, d, t, os⟩ := by
 (refine xEA (S.get (.head _)) fun o ho zq2 => ?_; subst zq2)
 (refine xEAE (S.get (.tail _ (.head _))) fun o2 ho2 n2 zq3 => ?_; subst zq3)
 have hT : Shared.TypeIs ⟨h, g, d, t, os⟩ (.ref mp) "map" := ⟨_, ho, rfl⟩
 unfold pyNext
 refine wpAny_bind (wpAny_attempt (wpAny_callSpecial?_slot (name := Str.ofString "__next__") hT slot_map_next' (wpAny_call_entry slot_map_next' hT entry_map_next' ?_ (args_map_next _))))
 show wpAny _ _ (field (.ref mp) 0 >>= _) _ _ _
 refine wpAny_bind (wpAny_field ho rfl (x := .ref mt) rfl ?_)
 refine wpAny_bind (wpAny_seqItems ho2 rfl ?_)
 dsimp only
 rw [← Array.forIn_toList, List.forIn_cons]
 have hli : h.IsListIter li l i := S.isIter (.tail _ (.tail _ (.head _)))
 refine wpAny_bind (wpAny_bind (wpAny_bind (wpAny_holding (wpAny_nextOf_list_item hli hl (x := v) (by simpa using hx) fun h₁ hl₁ hs₁ => ?_))))
 have S₁ : St h₀ ((mp, exP (mapObj f mt)) :: (mt, tpP [.ref li]) :: (li, itP l (i + 1)) :: K) h₁ := by
  (revert hl₁; intro zh; refine xEAA zh fun o3 ho3 c3 d3 => ?_; clear zh)
  exact S.upd (.tail (.tail .head)) hs₁.extBut ho3 ⟨c3, d3⟩
 refine wpAny_pure ?_
 dsimp only
 rw [List.forIn_nil]
 refine wpAny_pure ?_
 (refine xEA (S₁.get (.head _)) fun o4 ho4 zq2 => ?_; subst zq2)
 refine wpAny_bind (wpAny_field ho4 rfl (x := f) rfl ?_)
 refine wpAny_bind (wpAny_holding (q _ _ h₁ _ S₁ fun r h₂ t₂ hr => ?_))
 refine wpAny_bind (wpAny_letGo ?_)
 exact wpAny_pure ⟨_, rfl, wpAny_pure hr⟩
theorem map_stop {Q : Option Value → Shared → Prop} {mp mt li l : Addr} {vs : List Value} {f : Value} (hh : A.handled = none) (S : St h₀ ((mp, exP (mapObj f mt)) :: (mt, tpP [.ref li]) :: (li, itP l vs.length) :: K) h) (hl : h.IsList l vs.toArray)
  (q : ∀ h', St h₀ K h' → Q none ⟨h', g, d, t, os⟩) :
  wpAny (model PP w) A (pyNext (.ref mp)) Q E ⟨h, g, d, t, os⟩ := by
 (refine xEA (S.get (.head _)) fun o ho zq2 => ?_; subst zq2)
 (refine xEAE (S.get (.tail _ (.head _))) fun o2 ho2 n2 zq3 => ?_; subst zq3)
 have hT : Shared.TypeIs ⟨h, g, d, t, os⟩ (.ref mp) "map" := ⟨_, ho, rfl⟩
 unfold pyNext
 refine wpAny_bind (wpAny_attempt (wpAny_callSpecial?_slot (name := Str.ofString "__next__") hT slot_map_next' (wpAny_call_entry slot_map_next' hT entry_map_next' ?_ (args_map_next _))))
 show wpAny _ _ (field (.ref mp) 0 >>= _) _ _ _
 refine wpAny_bind (wpAny_field ho rfl (x := .ref mt) rfl ?_)
 refine wpAny_bind (wpAny_seqItems ho2 rfl ?_)
 dsimp only
 rw [← Array.forIn_toList, List.forIn_cons]
 have hli : h.IsListIter li l vs.length := S.isIter (.tail _ (.tail _ (.head _)))
 refine wpAny_bind (wpAny_bind (wpAny_bind (wpAny_holding (wpAny_nextOf_list_end hh hli hl (by simp) fun h₁ e hs₁ he => ?_))))
 (revert he; intro zh; refine xEA zh fun oe he1 he2 => ?_; clear zh)
 have S₁ : St h₀ K h₁ := by
  have S' : St h₀ ((li, itP l vs.length) :: K) h := S.dropHead.dropHead
  refine ⟨fun b o e => hs₁ b o (fun q => ?_) (S'.keep b o e), fun p hp => ?_, fun p hp => S'.new p (.tail _ hp), (List.nodup_cons.mp S'.nd).2⟩
  ·have := S'.new _ (List.Mem.head _); rw [q, this] at e; cases e
  ·refine xEA (S'.ent p (.tail _ hp)) fun o e x => ?_
   exact ⟨o, hs₁ _ _ (fun q => (List.nodup_cons.mp S'.nd).1 (List.mem_map.mpr ⟨p, hp, q⟩)) e, x⟩
 refine wpAny_bind (wpAny_isInstance (T := "StopIteration") (b := true) ⟨_, he1, he2⟩ isSubtype_stop ?_)
 exact wpAny_pure (q _ S₁)
end
end
section
section
variable {w : World} {A : Around} {E : Value → Shared → Prop} {env : Env} {h₀ h : Heap} {g : Array GenState} {d : Drawn} {t : Nat} {os : OsState} {K : Led} {mg mb : Str → Option Value}
theorem strip_S {Q : Value → Shared → Prop} {x : Str} {tx : Tok} (hs : x.length ≤ sizeLine) (q : ∀ t' k, Q (.str (Txt.strip x) t') ⟨h, g, d, k, os⟩) : wpAny (model PP w) A (call (.builtin "str.strip") [.str x tx] []) Q E ⟨h, g, d, t, os⟩ :=
 SC.strip (s := ⟨h, g, d, t, os⟩) (fun t' k => q t' k) hs
theorem map_loop {R : Result → Shared → Prop} {res : Value} {mp mt li l S₀ : Addr} {vs : List Value} {ys : List Str} (hh : A.handled = none) (hlen : vs.length ≤ sizeLine) (ha : All2 isS vs ys) (hys : ∀ y ∈ ys, y.length ≤ sizeLine) (m : (l, lsP vs) ∈ K)
  (q : ∀ rs h t, All2 isS rs (ys.map Txt.strip) → St h₀ ((S₀, lsP rs) :: K) h → R (.ok (.ret res)) ⟨h, g, d, t, os⟩) :
  ∀ (k i : Nat) (rs : List Value) (h : Heap) (t : Nat), ys.length - i = k → i ≤ ys.length → All2 isS rs ((ys.take i).map Txt.strip) → St h₀ ((mp, exP (mapObj (.builtin "str.strip") mt)) :: (mt, tpP [.ref li]) :: (li, itP l i) :: (S₀, lsP rs) :: K) h →
   codeAny (model PP w) A (.builtin "list.extend.loop" ⟨[.ref S₀, .ref mp, res], []⟩) R ⟨h, g, d, t, os⟩ := by
 intro k
 have hl2 := ha.length
 induction k with
 | zero =>
  intro i rs h t hk hi G S
  have e : i = vs.length := by lia
  subst e
  refine codeAny_builtin PySem.F.entry_extend_loop ?_
  rw [Around.under_plainId PySem.F.plain_extend_loop _]
  show wpAny _ A.in1 (pyNext (.ref mp) >>= _) _ _ _
  refine wpAny_bind (map_stop (A := A.in1) hh S (S.isList (.tail _ (.tail _ (.tail _ (.tail _ m))))) fun h' S' => ?_)
  rw [hl2, List.take_length] at G
  exact wpAny_pure (q rs h' t G S')
 | succ k ih =>
  intro i rs h t hk hi G S
  have hi' : i < vs.length := by lia
  refine codeAny_builtin PySem.F.entry_extend_loop ?_
  rw [Around.under_plainId PySem.F.plain_extend_loop _]
  show wpAny _ A.in1 (pyNext (.ref mp) >>= _) _ _ _
  have hiy : i < ys.length := by lia
  (refine xEAE (ha.get (List.getElem?_eq_getElem hiy)) fun v hv ty zq3 => ?_; subst zq3)
  have hne : l ≠ li := by
   have n1 := (List.nodup_cons.mp (List.nodup_cons.mp (List.nodup_cons.mp S.nd).2).2).1
   intro e
   exact n1 (List.mem_map.mpr ⟨(l, lsP vs), .tail _ m, e⟩)
  refine wpAny_bind (map_item S (S.isList (.tail _ (.tail _ (.tail _ (.tail _ m))))) hv hne fun A' E' h₁ Q' S₁ hQ => strip_S (hys _ (List.getElem_mem hiy)) fun t' k' => hQ _ h₁ k' ?_)
  show wpAny _ A.in1 (updateSeq S₀ (·.push (.str (Txt.strip ys[i]) t')) >>= _) _ _ _
  (refine xEAE (S₁.get (.tail _ (.tail _ (.tail _ (.head _))))) fun o ho c zq3 => ?_; subst zq3)
  have hl := G.length
  simp only [List.length_map, List.length_take] at hl
  refine wpAny_bind ?_
  refine wpAny_updateSeq ho rfl (wpAny_pure ⟨plainId_quiet PySem.F.plain_extend_loop _, ?_⟩) (by rw [List.size_toArray]; lia) (by show (rs.toArray.push _).size ≤ sizeLine + 1; rw [Array.size_push, List.size_toArray]; lia)
  have e := Heap.get?_update_self (Obj.mapSeq (·.push (Value.str (Txt.strip ys[i]) t'))) ho rfl
  have S₂ : St h₀ ((mp, exP (mapObj (.builtin "str.strip") mt)) :: (mt, tpP [.ref li]) :: (li, itP l (i + 1)) :: (S₀, lsP (rs ++ [.str (Txt.strip ys[i]) t'])) :: K) (h₁.update S₀ (Obj.mapSeq (·.push (Value.str (Txt.strip ys[i]) t')))) :=
   S₁.upd (.tail (.tail (.tail .head))) (Heap.SameBut.update ..).extBut e ⟨_, by rw [← List.push_toArray]; rfl⟩
  refine ih (i + 1) _ _ _ (by lia) (by assumption) ?_ S₂
  (refine (Eq.symm (List.take_add_one)) ▸ ?_; refine (Eq.symm (List.getElem?_eq_getElem hiy)) ▸ ?_; refine (Eq.symm (List.map_append)) ▸ ?_)
  exact G.snoc ⟨t', rfl⟩
end
end
section
theorem slot_map_iter : Slot "map" "__iter__" "map.__iter__" :=
 .of (owner := "map") (n := "__iter__") (by (rewrite [typeLookup_type]; refine (Eq.symm (builtinLookup_eq_fast)) ▸ ?_); kernel_rfl) (by decide +kernel) (by decide +kernel) (by decide +kernel)
  (by first | exact .inl (by decide +kernel) | exact .inr (by decide +kernel)) (by rw [isSubtype_type]; kernel_rfl)
theorem entry_map_iter : entryFor table "map.__iter__" = some Builtin.«dict_keyiterator.__iter__» :=
 entryFor_alias (id' := "dict_keyiterator.__iter__") (by kernel_rfl) (by first | rfl | decide +kernel | (unfold String.splitOn; simp +decide [String.splitOnAux])) (by decide +kernel) (by kernel_rfl)
theorem args_map_iter (a : Value) : argsOk "map.__iter__" ⟨[a], []⟩ := by unfold argsOk; kernel_rfl
theorem map_no_len : typeLookup (.type "map") "__len__" = pure none := by (rewrite [typeLookup_type]; refine (Eq.symm (builtinLookup_eq_fast)) ▸ ?_); kernel_rfl
theorem map_no_hint : typeLookup (.type "map") "__length_hint__" = pure none := by (rewrite [typeLookup_type]; refine (Eq.symm (builtinLookup_eq_fast)) ▸ ?_); kernel_rfl
end
section
section
variable {w : World} {A : Around} {E : Value → Shared → Prop} {env : Env} {h₀ h : Heap} {g : Array GenState} {d : Drawn} {t : Nat} {os : OsState} {K : Led} {mg mb : Str → Option Value}
theorem map_self {Q : Value → Shared → Prop} {s : Shared} {mp : Addr} (hT : s.TypeIs (.ref mp) "map") (h : Q (.ref mp) s) : wpAny (model PP w) A (pyIter (.ref mp)) Q E s := by
 refine wpAny_pyIter_slot hT slot_map_iter (wpAny_call_entry slot_map_iter hT entry_map_iter ?_ (args_map_iter _))
 show wpAny _ _ (ret (.ref mp)) _ _ s
 exact wpAny_pure ⟨_, rfl, "map", _, hT, slot_map_next'.lookup, h⟩
theorem map_collect {Q : List Value → Shared → Prop} {mp mt li l : Addr} {vs : List Value} {ys : List Str} (hh : A.handled = none) (hlen : vs.length ≤ sizeLine) (ha : All2 isS vs ys) (hys : ∀ y ∈ ys, y.length ≤ sizeLine) (m : (l, lsP vs) ∈ K)
  (S : St h₀ ((mp, exP (mapObj (.builtin "str.strip") mt)) :: (mt, tpP [.ref li]) :: (li, itP l 0) :: K) h)
  (q : ∀ rs S₀ h t, All2 isS rs (ys.map Txt.strip) → St h₀ ((S₀, lsP rs) :: K) h → Q rs ⟨h, g, d, t, os⟩) :
  wpAny (model PP w) A (collect (.ref mp)) Q E ⟨h, g, d, t, os⟩ := by
 unfold collect
 refine wpAny_bind (wpAny_runValue (codeAny_builtin PySem.F.entry_proto_collect ?_))
 rw [Around.under_plainId PySem.F.plain_proto_collect _]
 show wpAny _ A.in1 (newList [] >>= fun l => again (.builtin "list.__iadd__" ⟨[l, .ref mp], []⟩)) _ _ _
 refine wpAny_bind (wpAny_newObj_type ?_)
 refine wpAny_pure ⟨plainId_quiet PySem.F.plain_list_iadd _, codeAny_builtin PySem.F.entry_list_iadd ?_⟩
 rw [Around.under_plainId PySem.F.plain_list_iadd _]
 have S₁ := S.push (P := lsP []) (o := { cls := .type "list", data := .seq ([] : List Value).toArray }) ⟨0, rfl⟩ rfl
 show wpAny _ A.in1 (Builtin.List.listExtendWith (.ref h.objs.size) (.ref mp) (.ref h.objs.size)) _ _ _
 unfold Builtin.List.listExtendWith
 (refine xEA (S₁.get (.tail _ (.head _))) fun o ho zq2 => ?_; subst zq2)
 have hT : Shared.TypeIs ⟨h.push { cls := .type "list", data := .seq ([] : List Value).toArray }, g, d, t, os⟩ (.ref mp) "map" := ⟨_, ho, rfl⟩
 refine wpAny_bind (wpAny_typeOf hT ?_)
 have hSI : h.objs.size ≠ mp := fun e => (List.nodup_cons.mp S₁.nd).1 (by rw [e]; exact .head _)
 have h1 : Builtin.List.listSameRef (.ref h.objs.size) (.ref mp) = false := by simp [Builtin.List.listSameRef, hSI]
 have h2 : (Value.type "map" == Value.type "list") = false := by decide
 have h3 : (Value.type "map" == Value.type "tuple") = false := by decide
 simp only [h1, h2, h3, Bool.or_false, Bool.false_eq_true, if_false]
 refine wpAny_bind (map_self hT ?_)
 refine wpAny_bind (wpAny_holding ?_)
 unfold Builtin.List.listLengthHint
 refine wpAny_bind (wpAny_specialOf hT map_no_len ?_)
 show wpAny _ A.in1 (specialOf (Value.ref mp) (Str.ofString "__length_hint__") >>= _) _ _ _
 refine wpAny_bind (wpAny_specialOf hT map_no_hint ?_)
 refine wpAny_pure ?_
 rw [Bool.true_or, if_pos rfl]
 refine wpAny_bind (wpAny_rule ?_)
 refine wpAny_bind ?_
 show wpAny _ _ (updateSeq h.objs.size (·.push .none) >>= fun _ => updateSeq h.objs.size (·.pop)) _ _ _
 have S₃ : St h₀ ((mp, exP (mapObj (.builtin "str.strip") mt)) :: (mt, tpP [.ref li]) :: (li, itP l 0) :: (h.objs.size, lsP []) :: K) _ := S₁.perm (List.perm_middle (l₁ := [(mp, exP (mapObj (.builtin "str.strip") mt)), (mt, tpP [.ref li]), (li, itP l 0)]))
 (refine xEAE (S₃.get (.tail _ (.tail _ (.tail _ (.head _))))) fun o3 ho3 c3 zq3 => ?_; subst zq3)
 refine wpAny_bind (wpAny_updateSeq ho3 rfl ?_)
 have e4 := Heap.get?_update_self (Obj.mapSeq (·.push Value.none)) ho3 rfl
 refine wpAny_updateSeq (hz := by seq_fits) e4 rfl ?_
 have e5 := Heap.get?_update_self (Obj.mapSeq (·.pop)) e4 rfl
 have S₄ := (S₃.upd (P' := lsP []) (.tail (.tail (.tail .head))) (fun b o hb e => (Heap.get?_update_other _ _ (Ne.symm hb)).trans ((Heap.get?_update_other _ _ (Ne.symm hb)).trans e)) e5 ⟨_, rfl⟩)
 refine wpAny_pure ⟨plainId_quiet PySem.F.plain_extend_loop _, map_loop (A := A) (w := w) hh hlen ha hys m (fun rs h' t' G S' => ?_) _ 0 [] _ _ rfl (Nat.zero_le _) (by simpa using All2.nil) S₄⟩
 dsimp only
 (refine xEAE (S'.get (.head _)) fun o6 ho6 c6 zq3 => ?_; subst zq3)
 refine wpAny_bind (wpAny_load ho6 ?_)
 exact wpAny_pure (q rs h.objs.size h' t' G S')
end
end
section
section
variable {w : World} {A : Around} {E : Value → Shared → Prop} {env : Env} {h₀ h : Heap} {g : Array GenState} {d : Drawn} {t : Nat} {os : OsState} {K : Led} {mg mb : Str → Option Value}
theorem split1_S {Q : Value → Shared → Prop} {x y : Str} {tx ty tk : Tok} (S : St h₀ K h) (h1 : (decide (x.length < y.length) || decide (Builtin.Str.strKind x < Builtin.Str.strKind y)) = false) (hy : (y.length == 0) = false) (hf : (Builtin.Str.occurrences x y 0 x.length (limitOf x 1)).isEmpty = false)
  (hsz : x.length ≤ sizeLine) (hsz2 : (Builtin.Str.partsBetween x (Builtin.Str.occurrences x y 0 x.length (limitOf x 1)) y.length).length ≤ sizeLine)
  (q : ∀ l h' t', St h₀ ((l, lsR isS (Builtin.Str.partsBetween x (Builtin.Str.occurrences x y 0 x.length (limitOf x 1)) y.length)) :: K) h' → Q (.ref l) ⟨h', g, d, t', os⟩) :
  wpAny (model PP w) A (call (.builtin "str.split") [.str x tx, .str y ty, .int 1 tk] []) Q E ⟨h, g, d, t, os⟩ := by
 refine call_meets PySem.F.slot_str_split (typeIs_str _ _ _) PySem.F.entry_str_split (by unfold argsOk; kernel_rfl) (meets_str_split_sep_max x y 1 tx ty tk (by decide) h1 hy hf hsz hsz2) ?_
 rw [strsFrom_eq]
 exact q _ _ _ (S.push ⟨strValues (numbered t _), by have := all_values (numbered t (Builtin.Str.partsBetween x (Builtin.Str.occurrences x y 0 x.length (limitOf x 1)) y.length)); rwa [numbered_texts] at this, _, rfl⟩ rfl)
end
end
section
section
variable {w : World} {A : Around} {E : Value → Shared → Prop} {env : Env} {h₀ h : Heap} {g : Array GenState} {d : Drawn} {t : Nat} {os : OsState} {K : Led} {mg mb : Str → Option Value}
theorem st_strip (w : World) : findCls (hd.heap_1 w.params) (.type "str") (.type "type") "strip" = some (.val (.builtin "str.strip")) := by k_is
theorem strip_attr {Q : Value → Shared → Prop} {ex : Bool} (C : Cx w mg mb h₀) (S : St h₀ K h) (q : Q (.builtin "str.strip") ⟨h, g, d, t + 1, os⟩) :
  wpAny (model PP w) A (getAttr (.type "str") "strip" ex) Q E ⟨h, g, d, t, os⟩ := by
 have X := C.X.keeps S.keep
 have hstub : opaqueClassAbove (.type "str") = pure none := by unfold opaqueClassAbove; dsimp only; (refine (Eq.symm (show Manifest.isStub "str" = false by decide +kernel)) ▸ ?_); rfl
 have ht : typeOf (.type "str") = pure (.type "type") := by first | rfl | kernel_rfl
 have L0 : Looks (model PP w) h (typeOf (.type "str")) (.type "type") := Looks.of_pure ht
 have hg : findIn (hd.heap_1 w.params) (.type "type") "__getattribute__" = some (some (.builtin "type.__getattribute__")) := type_tga
 have LO : Looks (model PP w) h (opaqueClassAbove (.type "str")) none := Looks.of_pure hstub
 refine cls_open (s := ⟨h, g, d, t, os⟩) X LO L0 hg (looks_hook X (r := none) (by rfl)) (by show subIn _ _ _ = _; rfl) (st_strip w) (wpAny_pure ?_)
 show wpAny _ _ (handedOut (.builtin "str.strip")) _ _ _
 rw [handedOut_of (by decide +kernel)]; exact wpAny_pure q
end
end
section
section
variable {w : World} {A : Around} {E : Value → Shared → Prop} {env : Env} {h₀ h : Heap} {g : Array GenState} {d : Drawn} {t : Nat} {os : OsState} {K : Led} {mg mb : Str → Option Value}
theorem pr_keep (w : World) : keepIn (hd.heap_1 w.params) (.ref 203) = true := by k_is
structure ParseOk (x a b : Str) : Prop where
 kind : (decide (x.length < (Str.ofString "=").length) || decide (Builtin.Str.strKind x < Builtin.Str.strKind (Str.ofString "="))) = false
 found : (Builtin.Str.occurrences x (Str.ofString "=") 0 x.length (limitOf x 1)).isEmpty = false
 parts : ∃ p q, Builtin.Str.partsBetween x (Builtin.Str.occurrences x (Str.ofString "=") 0 x.length (limitOf x 1)) (Str.ofString "=").length = [p, q] ∧ Txt.strip p = a ∧ Txt.strip q = b ∧ p.length ≤ 4096 ∧ q.length ≤ 4096
 size : x.length ≤ 4096
theorem parse_func {R : Result → Shared → Prop} {x a b : Str} {tx : Tok} (C : Cx w mg mb h₀) (S : St h₀ K h) (hdep : A.depth + 12 < recursionLimit) (hh : A.handled = none) (hp : ParseOk x a b)
  (hq : ∀ p h' t', St h₀ ((p, prP a b) :: K) h' → R (.ok (.ret (.ref p))) ⟨h', g, d, t', os⟩) :
  codeAny (model PP w) A (.call (.ref 197) ⟨[.ref 203, .str x tx], []⟩) R ⟨h, g, d, t, os⟩ := by
 refine' call_T (binds := [("cls", .ref 203), ("text", .str x tx)]) C S ?hroom ?ho ?hcd (fun t => BindsTo.of_eq ?hbind) ?hcell ?hloc ?hnd ?h1 ?h2 ?h3 ?k
 case ho => k_is
 case hcd => k_is
 case hbind => exact rfl
 case hroom => (exact Nat.lt_of_le_of_lt (Nat.le_add_right _ _) (by assumption))
 case hcell => decide
 case hloc => exact rfl
 case hnd => simp only [List.map_cons, List.map_nil]; decide
 case h1 => rfl
 case h2 => rfl
 case h3 => rfl
 intro L h₁ S₁
 dsimp only [List.length_cons, List.length_nil]
 refine k_execs_cons ?_
 refine k_Return_some ?_
 refine k_Call_Name_kw ?_
 refine name_L (by assumption) (by exact rfl) (mH) (mH) ?_
 refine callWith_S (K := hd.heap_1 w.params) (C.X) (pr_keep w) ?_
 refine k_Call_Name_kw ?_
 refine name_B C S₁ C.b_map ?_
 refine PyProof.Rows.callWith_type rfl (ea_any rfl ?_)
 refine k_items_cons ?_
 refine Attribute_any_ ?_
 refine name_B C S₁ C.b_str ?_
 refine strip_attr C S₁ ?_
 refine k_items_cons ?_
 refine k_MethodCall ?_
 refine name_L (by assumption) (by exact rfl) (mH) (mT mH) ?_
 refine gm_split ?_
 refine cw_B ?_
 refine k_items_cons ?_; (with_reducible refine c_str ?_); refine k_items_cons ?_; (with_reducible refine c_int ?_); (with_reducible refine wpAny_items_nil ?_)
 obtain ⟨hk, hf, ⟨p, q, hparts, ha, hb, hpl, hql⟩, hsz⟩ := hp
 refine split1_S S₁ hk rfl hf (szS hsz) (szS (by rw [hparts]; exact Nat.le_of_ble_eq_true rfl)) fun l h₂ t₂ S₂ => ?_
 rw [hparts] at S₂
 refine wpAny_items_nil ?_
 refine xEAEA (S₂.get (.head _)) fun o e vs av po => ?_
 have S₃ := S₂.upd .head (Heap.ExtBut.refl _ _) e po
 have hlen := av.length
 refine map_new S₃ (S₃.isList (.head _)) fun mp mt li h₄ S₄ => ?_
 unfold StarOf notIterableAtAll
 (refine xEA (S₄.get (.head _)) fun om hom zq2 => ?_; subst zq2)
 have hT : Shared.TypeIs ⟨h₄, g, d, t₂, os⟩ (.ref mp) "map" := ⟨_, hom, rfl⟩
 refine wpAny_bind (wpAny_specialOf hT slot_map_iter.lookup (wpAny_pure ⟨rfl, ?_⟩))
 refine map_collect hh (szS (by rw [hlen]; exact Nat.le_of_ble_eq_true rfl)) av (fun y hy => szS ?_) (.head _) S₄ fun rs S₀ h₅ t₅ Grs S₅ => ⟨C.X.keeps S₅.keep, ?_⟩
 ·rcases List.mem_cons.mp hy with rfl | hy
  ·exact hpl
  ·rw [List.mem_singleton] at hy; subst hy; exact hql
 rw [List.map_cons, List.map_cons, List.map_nil, ha, hb] at Grs
 cases Grs with
 | cons r1 Grs =>
 cases Grs with
 | cons r2 Grs =>
 cases Grs
 obtain ⟨ta, rfl⟩ := r1
 obtain ⟨tb, rfl⟩ := r2
 refine wpAny_call (pr_make C S₅ (by show A.depth + 1 + 6 < _; lia) fun pa h₆ t₆ S₆ => ?_)
 dsimp only [retV]
 exact hq pa h₆ t₆ (S₆.wk (.keep (fun _ z => z) (.drop (.drop (.drop .refl)))))
end
end
section
section
variable {w : World} {A : Around} {E : Value → Shared → Prop} {env : Env} {h₀ h : Heap} {g : Array GenState} {d : Drawn} {t : Nat} {os : OsState} {K : Led} {mg mb : Str → Option Value}
theorem pr_parse (w : World) : findCls (hd.heap_1 w.params) (.ref 203) (.type "type") "parse" = some (.get (.builtin "classmethod.__get__") (.ref 199) .none (.ref 203)) := by k_is
theorem pr_tga (w : World) : specialIn (hd.heap_1 w.params) (.ref 203) "__getattribute__" = some (some (.builtin "type.__getattribute__")) := by k_is
theorem fn197 (w : World) : fnIn (hd.heap_1 w.params) 197 = true := by k_is
theorem rec199 (w : World) : ∃ rest, recIn (hd.heap_1 w.params) 199 "classmethod" = some (.ref 197 :: rest) := by
 have h : ∃ o, (hd.heap_1 w.params).lookup 199 = some o ∧ ∃ d n sl rest, o = ⟨.type "classmethod", d, .fields ⟨.ref 197 :: rest⟩, sl⟩ ∧ n = 0 := by
  refine' ex_look (P := fun o => ∃ d n sl rest, o = ⟨.type "classmethod", d, .fields ⟨.ref 197 :: rest⟩, sl⟩ ∧ n = 0) ?hh ?pf
  case hh => k_is
  case pf => exact ⟨_, _, _, _, rfl, rfl⟩
 (revert h; intro zh; refine xEAEEEEA zh fun zu0 e d n sl rest zq6 zu7 => ?_; clear zh; subst zq6)
 exact ⟨rest, by unfold recIn; rw [e]; rfl⟩
theorem cw_meth {M : Model} {F : Frag} {q g : Addr} {self : Value} {first : List Value} {args : List (Bool × Sem Value)} {pos : Pos} {Q : Value → Shared → Prop} {s : Shared} (hf : fnIn F g = true)
  (hh : wpAny M A (spliced args) (fun vs s' => MethP F q g self s'.heap ∧ wpAny M A (call (.ref q) (first ++ vs) []) Q E s') E s) (hp : args.any (·.1) = false := by rfl) :
  wpAny M A (callWith pos (.ref q) first args []) Q E s := callWith_of (by rw [hp]; rfl) (keeps_M hf) (ea_any hp hh)
theorem gm_parse {pl : Sem Bool} {Q : Value × List Value → Shared → Prop} (C : Cx w mg mb h₀) (S : St h₀ K h) (q : ∀ m h', St h₀ ((m, exP (methodObj (.ref 197) (.ref 203))) :: K) h' → Q (.ref m, []) ⟨h', g, d, t + 1, os⟩) :
  wpAny (model PP w) A (getMethod (.ref 203) "parse" pl) Q E ⟨h, g, d, t, os⟩ := by
 have X := C.X.keeps S.keep
 obtain ⟨rest, hrec⟩ := rec199 w
 refine method_cls (s := ⟨h, g, d, t, os⟩) X (pr_tga w) (cls_bind (s := ⟨h, g, d, t, os⟩) X (pr_reads w) (pr_parse w) (wpAny_call (cm_get (s := ⟨h, g, d, t + 1, os⟩) X hrec (handed_on rfl ?_))))
 exact q _ _ (S.push rfl rfl)
theorem parse_call {R : Result → Shared → Prop} {x a b : Str} {tx : Tok} {m : Addr} (C : Cx w mg mb h₀) (S : St h₀ K h) (hm : (m, exP (methodObj (.ref 197) (.ref 203))) ∈ K) (hdep : A.depth + 12 < recursionLimit) (hh : A.handled = none) (hp : ParseOk x a b)
  (hq : ∀ p h' t', St h₀ ((p, prP a b) :: K) h' → R (.ok (.ret (.ref p))) ⟨h', g, d, t', os⟩) :
  codeAny (model PP w) A (.call (.ref m) ⟨[.str x tx], []⟩) R ⟨h, g, d, t, os⟩ := by
 (refine xEA (S.get hm) fun o ho zq2 => ?_; subst zq2)
 exact method_call (s := ⟨h, g, d, t, os⟩) ho (parse_func C S hdep hh hp hq)
end
end
section
noncomputable def Sk (A : Around) (l : List Env) (K : Led) : Prop := A.frames = some l ∧ ∀ env ∈ l, env.scope.kind ≠ .module ∧ ∃ L b, env.frame = some L ∧ (L, nsP b) ∈ K
theorem Sk.mono {A : Around} {l : List Env} {K K' : Led} (x : Sk A l K) (m : ∀ p ∈ K, p ∈ K') : Sk A l K' := ⟨x.1, fun env he => by refine xAEEA (x.2 env he) fun a L b c d => ?_; exact ⟨a, L, b, c, m _ d⟩⟩
theorem Sk.push {A : Around} {env : Env} {l : List Env} {K : Led} {L : Addr} {b : List (Str × Value)} (x : Sk A l K) (hk : env.scope.kind ≠ .module) (hf : env.frame = some L) (m : (L, nsP b) ∈ K) : Sk (A.deeper env) (env :: l) K :=
 ⟨Around.frames_deeper x.1, fun e he => by
  rcases List.mem_cons.mp he with rfl | he
  ·exact ⟨hk, L, b, hf, m⟩
  ·exact x.2 e he⟩
theorem nsP_nf {b : List (Str × Value)} {o : Obj} (x : nsP b o) : ∀ vs, o.data ≠ .fields vs := by
 (revert x; intro zh; refine xEEEA zh fun es ep m d zu4 => ?_; clear zh)
 intro vs q; rw [d] at q; cases q
theorem nsP_sl {b : List (Str × Value)} {o : Obj} (x : nsP b o) (sl : Array (Option Value)) : nsP b { o with slots := sl } := x
theorem Sk.funs {A : Around} {l : List Env} {K : Led} {h₀ h : Heap} (x : Sk A l K) (S : St h₀ K h) : h.FunFrames h₀ l := by
 have y := x.2
 clear x
 induction l with
 | nil => trivial
 | cons env l ih =>
  refine xAEEA (y env (.head _)) fun hk L b hf m => ?_
  refine xEA (S.get m) fun o ho p => ?_
  exact ⟨hk, ⟨L, o, hf, S.new _ m, ho, nsP_nf p⟩, ih fun e he => y e (.tail _ he)⟩
noncomputable def InB (B h : Heap) (K : Led) : Prop := ∀ p ∈ K, (∃ b o, h.get? p.1 = some o ∧ nsP b o ∧ ∀ o, nsP b o → p.2 o) ∨ (∃ o, B.get? p.1 = some o ∧ p.2 o)
theorem InB.slots {B h h' : Heap} {K : Led} (x : InB B h K) (u : h.UpToSlots h') : InB B h' K := fun p hp => (x p hp).imp (fun ⟨b, o, e, n, f⟩ => by
  obtain ⟨sl, e'⟩ := u _ _ e (nsP_nf n)
  exact ⟨b, _, e', nsP_sl n sl, f⟩) id
structure Rz (h₀ : Heap) (K : Led) (l : List Env) (cls : Value) (e : Addr) (vs : List Value) (h : Heap) : Prop where
 new : ∀ p ∈ K, h₀.get? p.1 = none
 nd : (K.map (·.1)).Nodup
 fly : ∃ B t, h₀.StaysIn B ∧ InB B h K ∧ Heap.FlyingW B l e cls (.ref t) h ∧ B.get? t = none ∧ h.TupAt t vs
structure Hz (h₀ : Heap) (K : Led) (l : List Env) (cls : Value) (e : Addr) (vs : List Value) (L : Addr) (h : Heap) : Prop where
 new : ∀ p ∈ K, h₀.get? p.1 = none
 nd : (K.map (·.1)).Nodup
 held : ∃ B t, h₀.StaysIn B ∧ InB B h K ∧ Heap.HeldW B l e cls (.ref t) L h ∧ B.get? t = none ∧ h.TupAt t vs
theorem InB.st {h₀ B h : Heap} {K : Led} (x : InB B h K) (k : h₀.StaysIn B) (k' : B.StaysIn h) (n : ∀ p ∈ K, h₀.get? p.1 = none) (nd : (K.map (·.1)).Nodup) : St h₀ K h :=
 ⟨fun b o e => k' _ _ (k b o e), fun p hp => by
  rcases x p hp with ⟨b, o, e, m, f⟩ | ⟨o, e, m⟩
  ·exact ⟨o, e, f o m⟩
  ·exact ⟨o, k' _ _ e, m⟩, n, nd⟩
theorem Rz.st {h₀ h : Heap} {K : Led} {l : List Env} {cls : Value} {e : Addr} {vs : List Value} (x : Rz h₀ K l cls e vs h) : St h₀ K h :=
 by refine xEEAAA (x.fly) fun zu0 zu1 k i f zu5 => ?_; exact i.st k f.1 x.new x.nd
theorem Hz.st {h₀ h : Heap} {K : Led} {l : List Env} {cls : Value} {e : Addr} {vs : List Value} {L : Addr} (x : Hz h₀ K l cls e vs L h) : St h₀ K h :=
 by refine xEEAAA (x.held) fun zu0 zu1 k i f zu5 => ?_; exact i.st k f.1 x.new x.nd
theorem InB.wk {B h : Heap} {K K' : Led} (x : InB B h K) (w : Wk K K') : InB B h K' := fun p hp => by
 refine xEA (w.at p hp) fun P m f => ?_
 rcases x _ m with ⟨b, o, e, n, g⟩ | ⟨o, e, n⟩
 ·exact .inl ⟨b, o, e, n, fun o z => f o (g o z)⟩
 ·exact .inr ⟨o, e, f o n⟩
theorem Rz.wk {h₀ h : Heap} {K K' : Led} {l : List Env} {cls : Value} {e : Addr} {vs : List Value} (x : Rz h₀ K l cls e vs h) (w : Wk K K') : Rz h₀ K' l cls e vs h :=
 by refine xEEAAA (x.fly) fun B t a b c d => ?_; exact
 ⟨fun p hp => by refine xEA (w.at p hp) fun P m zu2 => ?_; exact x.new (p.1, P) m, x.nd.sublist w.keys, B, t, a, b.wk w, c, d⟩
theorem InB.perm {B h : Heap} {K K' : Led} (x : InB B h K) (w : K'.Perm K) : InB B h K' := fun p hp => x p (w.mem_iff.mp hp)
theorem Rz.perm {h₀ h : Heap} {K K' : Led} {l : List Env} {cls : Value} {e : Addr} {vs : List Value} (x : Rz h₀ K l cls e vs h) (w : K'.Perm K) : Rz h₀ K' l cls e vs h :=
 by refine xEEAAA (x.fly) fun B t a b c d => ?_; exact
 ⟨fun p hp => x.new p (w.mem_iff.mp hp), (w.map _).nodup_iff.mpr x.nd, B, t, a, b.perm w, c, d⟩
section
variable {M : Model} {A : Around} {E : Value → Shared → Prop} {h₀ h h' : Heap} {g : Array GenState} {d : Drawn} {t : Nat} {os : OsState} {K : Led} {l : List Env} {env : Env} {e : Addr} {cls : Value} {vs : List Value} {Q : Unit → Shared → Prop} {L : Addr}
theorem led_inj : ∀ {K : Led}, (K.map (·.1)).Nodup → ∀ {a : Addr} {P P' : Pr}, (a, P) ∈ K → (a, P') ∈ K → P = P'
 | [], _, _, _, _, m, _ => nomatch m
 | p :: K, nd, a, P, P', m, m' => by
  rw [List.map_cons, List.nodup_cons] at nd
  have out : ∀ {P : Pr}, (a, P) ∈ K → p.1 ≠ a := fun {P} m e => nd.1 (e ▸ List.mem_map.mpr ⟨(a, P), m, rfl⟩)
  rcases List.mem_cons.mp m with e1 | m1
  ·rcases List.mem_cons.mp m' with e2 | m2
   ·rw [← e1] at e2; cases e2; rfl
   ·exact absurd (by (refine (e1) ▸ ?_; try with_reducible rfl)) (out m2)
  ·rcases List.mem_cons.mp m' with e2 | m2
   ·exact absurd (by (refine (e2) ▸ ?_; try with_reducible rfl)) (out m1)
   ·exact led_inj nd.2 m1 m2
theorem up_of_keeps (k : ∀ b o, h.get? b = some o → h'.get? b = some o) : h.UpToSlots h' := Heap.UpToSlots.of_keeps k
theorem raise_leave (S : St h₀ K h) (x : Sk A (env :: l) K) (hx : Heap.MadeExcOf h h' e cls vs) (q : ∀ h'', Rz h₀ K l cls e vs h'' → Q () ⟨h'', g, d, t, os⟩) :
  wpAny M A (leaving env (.ref e)) Q E ⟨h', g, d, t, os⟩ := by
 refine xAEEA (x.2 env (.head _)) fun hk L b hf m => ?_
 have ff := x.funs S
 have hin : ∀ e ∈ env :: l, ∀ a, e.frame = some a → a ∈ (env :: l).filterMap (·.frame) := fun e he a ha => List.mem_filterMap.mpr ⟨e, he, ha⟩
 have st : h₀.StaysIn (hideAll h ((env :: l).filterMap (·.frame))) := fun b o q => hideAll_get _ (S.keep b o q) fun hm => by
  rw [(ff.mem hm).1] at q; cases q
 refine wpAny_leaves_madeW (base := hideAll h ((env :: l).filterMap (·.frame))) (s := ⟨h', g, d, t, os⟩) x.1 hf (fun b o q => of_hideAll _ q) (funFrames_hide ff hin) hx fun h'' t' x1 x2 x3 x4 => q h'' ⟨S.new, S.nd, _, t', st, ?_, x1, x3, x2⟩
 intro p hp
 by_cases hm : p.1 ∈ (env :: l).filterMap (·.frame)
 ·left
  refine xEA (List.mem_filterMap.mp hm) fun env' he' hf' => ?_
  refine xAEEA (x.2 env' he') fun zu0 L' b' hf2 m' => ?_
  rw [hf'] at hf2; cases hf2
  have := led_inj S.nd (a := p.1) (P := p.2) hp m'
  refine xEA (S.get m') fun o ho n => ?_
  obtain ⟨sl, e'⟩ := ((Heap.UpToSlots.of_keeps hx.keeps).trans x4) _ _ ho (nsP_nf n)
  exact ⟨b', _, e', nsP_sl n sl, fun o z => by rw [this]; exact z⟩
 ·right
  refine xEA (S.ent p hp) fun o ho n => ?_
  exact ⟨o, hideAll_get _ ho hm, n⟩
theorem fly_leave (hfr : A.frames = some (env :: l)) (hf : env.frame = some L) (x : Rz h₀ K (env :: l) cls e vs h) (q : ∀ h', Rz h₀ K l cls e vs h' → Q () ⟨h', g, d, t, os⟩) :
  wpAny M A (leaving env (.ref e)) Q E ⟨h, g, d, t, os⟩ := by
 refine xEEAAAA (x.fly) fun B t' a b c d' f => ?_
 exact wpAny_leaves_onW (s := ⟨h, g, d, t, os⟩) hfr hf c fun h' x1 x2 => q h' ⟨x.new, x.nd, B, t', a, b.slots x2, x1, d', f.of_slots x2⟩
theorem fly_note (hfr : A.frames = some (env :: l)) (hf : env.frame = some L) (x : Rz h₀ K (env :: l) cls e vs h) (q : ∀ h', Hz h₀ K (env :: l) cls e vs L h' → Q () ⟨h', g, d, t, os⟩) :
  wpAny M A (noteFrame (.ref e) env) Q E ⟨h, g, d, t, os⟩ := by
 refine xEEAAAA (x.fly) fun B t' a b c d' f => ?_
 exact wpAny_looks_onW (s := ⟨h, g, d, t, os⟩) hfr hf c fun h' x1 x2 => q h' ⟨x.new, x.nd, B, t', a, b.slots x2, x1, d', f.of_slots x2⟩
theorem held_lands (x : Hz h₀ K l cls e vs L h) (q : ∀ h', Rz h₀ K l cls e vs h' → Q () ⟨h', g, d, t, os⟩) :
  wpAny M A (setFlight (.ref e) none) Q E ⟨h, g, d, t, os⟩ := by
 refine xEEAAAA (x.held) fun B t' a b c d' f => ?_
 exact wpAny_landsW (s := ⟨h, g, d, t, os⟩) c fun h' x1 x2 => q h' ⟨x.new, x.nd, B, t', a, b.slots x2, x1, d', f.of_slots x2⟩
theorem fly_lands (x : Rz h₀ K l cls e vs h) (q : ∀ h', Rz h₀ K l cls e vs h' → Q () ⟨h', g, d, t, os⟩) :
  wpAny M A (setFlight (.ref e) none) Q E ⟨h, g, d, t, os⟩ := by
 refine xEEAAAA (x.fly) fun B t' a b c d' f => ?_
 exact lands_againW (s := ⟨h, g, d, t, os⟩) c fun h' x1 x2 => q h' ⟨x.new, x.nd, B, t', a, b.slots x2, x1, d', f.of_slots x2⟩
theorem held_leave (hf : env.frame = some L) (x : Hz h₀ K (env :: l) cls e vs L h) (q : ∀ h', Rz h₀ K l cls e vs h' → Q () ⟨h', g, d, t, os⟩) :
  wpAny M A (leaving env (.ref e)) Q E ⟨h, g, d, t, os⟩ := by
 refine xEEAAAA (x.held) fun B t' a b c d' f => ?_
 unfold leaving
 refine wpAny_bind (wpAny_noteFrame_againW (s := ⟨h, g, d, t, os⟩) hf c.2.2.2 ?_)
 refine held_lands x fun h' x' => q h' ?_
 obtain ⟨B, t', a, b, ⟨c1, c2, ⟨_, _, c3⟩, c4⟩, d', f⟩ := x'.fly
 exact ⟨x'.new, x'.nd, B, t', a, b, ⟨c1, c2, c3, c4⟩, d', f⟩
theorem fly_loop (hfr : A.frames = some (env :: l)) (hf : env.frame = some L) (x : Rz h₀ K (env :: l) cls e vs h) (q : ∀ h', Hz h₀ K (env :: l) cls e vs L h' → E (.ref e) ⟨h', g, d, t, os⟩) :
  notedBy M A env (fun e s' => cameBackBy M A env E e s') (.ref e) ⟨h, g, d, t, os⟩ := by
 unfold notedBy
 refine fly_note hfr hf x fun h' x' => ?_
 unfold cameBackBy
 obtain ⟨B, t', a, b, ⟨c1, c2, c3, c4⟩, d', f⟩ := x'.held
 obtain ⟨oe, ws, T, oT, ts, he, hc, hd, h1, hnT, hTe, hT, hdT, h3⟩ := c4
 refine wpAny_bind (wpAny_field (s := ⟨h', g, d, t, os⟩) he hd h1 ?_)
 rw [if_neg (by simp)]
 unfold setFlight
 refine wpAny_bind (wpAny_field (s := ⟨h', g, d, t, os⟩) he hd h1 ?_)
 (refine (Eq.symm (if_pos (show (Value.ref T != Value.none) = true from by simp))) ▸ ?_; refine (Eq.symm (hf)) ▸ ?_; try with_reducible rfl)
 have hsz3 : 3 < ts.size := (Array.getElem?_eq_some_iff.mp h3).1
 refine wpAny_setField (s := ⟨h', g, d, t, os⟩) hT hdT hsz3 (q _ ?_)
 have other : ∀ b, b ≠ T → (h'.update T (Obj.mapFields (·.setIfInBounds 3 (((some L) : Option Addr).elim Value.none fun f => rawInt f)))).get? b = h'.get? b :=
  fun b hb => Heap.get?_update_other _ _ (Ne.symm hb)
 have noRecord : ∀ b o, h'.get? b = some o → (∀ vs, o.data ≠ .fields vs) → b ≠ T := fun b o hb hnf q => by
  rw [q, hT] at hb; injection hb with hb; subst hb; exact hnf ts hdT
 have up : h'.UpToSlots (h'.update T (Obj.mapFields (·.setIfInBounds 3 (((some L) : Option Addr).elim Value.none fun f => rawInt f)))) := fun b o e hn => ⟨o.slots, (other b (noRecord b o e hn)).trans e⟩
 refine ⟨x'.new, x'.nd, B, t', a, b.slots up, ⟨fun b o hbo => (other b fun q => by rw [q, hnT] at hbo; cases hbo).trans (c1 b o hbo), c2, c3.of_keeps fun b o hb hnf => ⟨o, (other b (noRecord b o hb hnf)).trans hb, rfl⟩, ?_⟩, d', f.of_slots up⟩
 exact ⟨oe, ws, T, _, _, (other e (Ne.symm hTe)).trans he, hc, hd, h1, hnT, hTe, Heap.get?_update_self _ hT (Obj.isFreed_of_fields (Obj.data_mapFields hdT _)), Obj.data_mapFields hdT _, by simp [hsz3]⟩
end
end
section
noncomputable def exEP (cls : Value) (t : Addr) : Pr := fun o => o.cls = cls ∧ ∃ vs, o.data = .fields vs ∧ vs[0]? = some (.ref t)
noncomputable def tuP (vs : List Value) : Pr := fun o => ∃ n, o.cls = .type "tuple" ∧ o.data = .seq vs.toArray n
theorem Rz.more {h₀ h : Heap} {K : Led} {l : List Env} {cls : Value} {e : Addr} {vs : List Value} (x : Rz h₀ K l cls e vs h) : ∃ t, St h₀ ((e, exEP cls t) :: (t, tuP vs) :: K) h := by
 refine xEEAAAA (x.fly) fun B t a b c d' f => ?_
 refine xEEAAA (c.first) fun oe ws he hec hed he0 => ?_
 (revert f; intro zh; refine xEEAA zh fun ot n ht htc htd => ?_; clear zh)
 have S := x.st
 have hB : ∀ b, B.get? b = none → h₀.get? b = none := fun b hb => by
  cases q : h₀.get? b with
  | none => rfl
  | some o => have := a b o q; rw [hb] at this; cases this
 have ap : ∀ {a : Addr} {o : Obj}, B.get? a = none → h.get? a = some o → (∀ es ep, o.data ≠ .dict es ep) → ∀ p ∈ K, p.1 ≠ a := by
  intro a o hn ho hd p hp q
  rcases b p hp with ⟨b', o', e', n', _⟩ | ⟨o', e', _⟩
  ·rw [q, ho] at e'; cases e'
   (revert n'; intro zh; refine xEEEA zh fun es ep zu2 dd zu4 => ?_; clear zh)
   exact hd es ep dd
  ·rw [q, hn] at e'; cases e'
 have hte : t ≠ e := by rintro rfl; rw [he] at ht; cases ht; rw [hed] at htd; cases htd
 refine ⟨t, (S.add ht ⟨n, htc, htd⟩ (hB _ d') (ap d' ht fun es ep q => by rw [htd] at q; cases q)).add he ⟨hec, ws, hed, he0⟩ (hB _ c.2.1) ?_⟩
 intro p hp
 rcases List.mem_cons.mp hp with rfl | hp
 ·exact hte
 ·exact ap c.2.1 he (fun es ep q => by rw [hed] at q; cases q) p hp
section
variable {w : World} {A : Around} {E : Value → Shared → Prop} {env : Env} {h₀ h : Heap} {g : Array GenState} {d : Drawn} {t : Nat} {os : OsState} {K K' : Led} {mg mb : Str → Option Value} {L e : Addr} {b : List (Str × Value)} {n : Str}
theorem str_exc {Q : Value → Shared → Prop} {te : Addr} {m : Str} {u : Tok} (S : St h₀ K h) (me : (e, exEP (.type "ValueError") te) ∈ K) (mt : (te, tuP [.str m u]) ∈ K) (hu : A.units + 2 < cLine) (q : Q (.str m u) ⟨h, g, d, t, os⟩) :
  wpAny (model PP w) A (call (.type "str") [.ref e] []) Q E ⟨h, g, d, t, os⟩ := by
 obtain ⟨oe, he, hec, vs, hed, he0⟩ := S.get me
 refine xEAEA (S.get mt) fun ot ht k htc htd => ?_
 exact PySem.P.str_of_exc_one (s := ⟨h, g, d, t, os⟩) PySem.F.excStr_ValueError hu ⟨oe, vs, he, hec, hed, he0⟩ ⟨ot, k, ht, htc, htd⟩ q
theorem nm_goes {M : Model} {v : Value} {pos : Pos} {Q : Unit → Shared → Prop} (S : St h₀ K h) (hL : env.locals = L) (u : Up L (nsP ((n, v) :: b)) (nsP b) K K') (q : ∀ h', St h₀ K' h' → Q () ⟨h', g, d, t + 1, os⟩)
  (hx : env.kindOf n = some .local := by rfl) (hp : (env.scope.kind == .class || (env.scope.kind == .module && env.locals != env.globals)) = false := by rfl) :
  wpAny M A (do bindName env n .none; unbindBehindTheSuite env n pos) Q E ⟨h, g, d, t, os⟩ := by
 subst hL
 refine xEAA (S.ns u.mem) fun f ns hf nd => ?_
 refine wpAny_nameGoes_keeps (s := ⟨h, g, d, t, os⟩) hx ns hp fun h' v' ns' hs => q h' ?_
 rw [List.map_cons, List.nodup_cons] at nd
 refine xEA (nsP_of ns' (b := b) (fun p hp => by
  rw [if_neg (fun q => nd.1 (by (refine (q) ▸ ?_); exact List.mem_map.mpr ⟨p, hp, rfl⟩))]; exact hf p (.tail _ hp)) nd.2) fun o e x' => ?_
 exact S.upd u hs.extBut e x'
theorem caught_S {qual : Str} {scope : Scope} {fa : Addr} {cd : Value} {cl : List (Str × Addr)} {l : List Env} {vs : List Value} {np pos : Pos} {b₀ : Stmt} {suite : List Stmt} {rest : List ExceptHandler} {Q : Flow → Shared → Prop}
  (C : Cx w mg mb h₀) (hfr : A.frames = some (envX qual scope L fa cd cl :: l)) (X : Rz h₀ K (envX qual scope L fa cd cl :: l) (.type "ValueError") e vs h) (u : Up L (nsP b) (nsP ((n, .ref e) :: b)) K K')
  (hn : (b.map (·.1)).contains n = false) (hk : scope.kind = .function) (hx : (envX qual scope L fa cd cl).kindOf ("ValueError" : Str) = some .globalImplicit) (hlo : (envX qual scope L fa cd cl).kindOf n = some .local)
  (k : ∀ te h' t' E'', St h₀ ((e, exEP (.type "ValueError") te) :: (te, tuP vs) :: K') h' → wpAny (model PP w) (A.mark (some (.ref e))) (execs (b₀ :: suite) (envX qual scope L fa cd cl))
   (fun f s₄ => wpAny (model PP w) A (do bindName (envX qual scope L fa cd cl) n .none; unbindBehindTheSuite (envX qual scope L fa cd cl) n pos) (fun _ s₅ => Q f s₅) E s₄) E'' ⟨h', g, d, t', os⟩) :
  wpAny (model PP w) A (noteFrame (.ref e) (envX qual scope L fa cd cl)) (fun _ s₂ => wpAny (model PP w) A (setFlight (.ref e) none) (fun _ s₃ =>
   wpAny (model PP w) A (handleBy (.ref e) (envX qual scope L fa cd cl) (.ExceptHandler (some (.Name "ValueError" np)) (some n) (b₀ :: suite) pos :: rest)) Q E s₃) E s₂) E ⟨h, g, d, t, os⟩ := by
 refine fly_note hfr rfl X fun h₁ H => ?_
 refine held_lands H fun h₂ X2 => ?_
 refine xEEAAA (X2.fly) fun zu0 zu1 zu2 zu3 c zu5 => ?_
 refine xEA (c.there) fun ob hob hobc => ?_
 refine wpAny_handleBy_builtin_as (s := ⟨h₂, g, d, t, os⟩) (X := "ValueError") (T := "ValueError") (b := true) PySem.F.isExc_ValueError PySem.F.notTuple_ValueError (by rw [isSubtype_type]; kernel_rfl) ?_
 refine name_B C X2.st C.b_valueError ⟨rfl, ⟨ob, hob, hobc⟩, ?_⟩ rfl rfl hk hx (by decide)
 refine if_t ?_
 refine fly_lands X2 fun h₃ X3 => ?_
 obtain ⟨te, S₃⟩ := X3.more
 exact store_L S₃ rfl (.tail (.tail u)) (.new hn) (fun h₄ S₄ => k te h₄ _ _ S₄) hlo (by show (scope.kind == .class || (scope.kind == .module && _)) = false; (refine (Eq.symm (hk)) ▸ ?_); rfl)
end
end
section
theorem All2.snoc_inv {α β : Type} {R : α → β → Prop} {y : β} : ∀ {as : List α} {bs : List β}, All2 R as (bs ++ [y]) → ∃ as' a, as = as' ++ [a] ∧ All2 R as' bs ∧ R a y
 | _, [], .cons r .nil => ⟨[], _, rfl, .nil, r⟩
 | _, b :: bs, .cons r h => by
  (refine xEEAA (All2.snoc_inv h) fun as' a zq2 h' r' => ?_; subst zq2)
  exact ⟨_ :: as', a, rfl, .cons r h', r'⟩
section
variable {prog : Program} {w : World} {A : Around} {E : Value → Shared → Prop} {env : Env} {h₀ h : Heap} {g : Array GenState} {d : Drawn} {t : Nat} {os : OsState} {K K' : Led} {x : Str} {pos : Pos} {v : Value} {l b : Addr} {vs ws : List Value} {α : Type} {R : Value → α → Prop} {xs ys : List α} {y : α}
theorem lr_popLast {Q : Value → Shared → Prop} (S : St h₀ K h) (u : Up l (lsR R (xs ++ [y])) (lsR R xs) K K') (q : ∀ v h', R v y → St h₀ K' h' → Q v ⟨h', g, d, t, os⟩) (hsz : xs.length + 1 ≤ sizeLine) :
  wpAny (model prog w) A (call (.builtin "list.pop") [.ref l] []) Q E ⟨h, g, d, t, os⟩ := by
 (refine xEAEAE (S.get u.mem) fun o e vs a n zq5 => ?_; subst zq5)
 (refine xEEAA (a.snoc_inv) fun vs' v zq2 a' r => ?_; subst zq2)
 have hl := a'.length
 have hk : (vs' ++ [v]).toArray.size - 1 = vs'.length := by (refine (Eq.symm (List.size_toArray)) ▸ ?_; refine (Eq.symm (List.length_append)) ▸ ?_; try with_reducible rfl); rfl
 have hy : (vs' ++ [v]).toArray[(vs' ++ [v]).toArray.size - 1]? = some v := by rw [hk]; simp
 refine call_meets PySem.F.slot_list_pop ⟨_, e, rfl⟩ PySem.F.entry_list_pop (PySem.F.args_list_pop_1 _) (PySem.MeetsSeq.list_pop_last l _ n v hy (by (refine (Eq.symm (List.size_toArray)) ▸ ?_; refine (Eq.symm (List.length_append)) ▸ ?_; refine (Eq.symm (List.length_singleton)) ▸ ?_; try with_reducible rfl); lia)) ⟨e, q v _ r ?_⟩
 refine S.upd u (Heap.SameBut.update ..).extBut (Heap.get?_update_self _ e rfl) ⟨vs', a', n + 1, ?_⟩
 have e1 : (vs' ++ [v]).toArray.eraseIdxIfInBounds ((vs' ++ [v]).toArray.size - 1) = vs'.toArray := by rw [hk, kl_erase, List.append_nil]
 show (⟨_, _, .seq ((vs' ++ [v]).toArray.eraseIdxIfInBounds ((vs' ++ [v]).toArray.size - 1)) (if ((vs' ++ [v]).toArray.eraseIdxIfInBounds ((vs' ++ [v]).toArray.size - 1)).size == (vs' ++ [v]).toArray.size then n else n + 1), _⟩ : Obj) = _
 (refine (Eq.symm (e1)) ▸ ?_; rewrite [if_neg (by simp)]; try with_reducible rfl)
theorem lr_pop0 {Q : Value → Shared → Prop} {u : Tok} (S : St h₀ K h) (up : Up l (lsR R (y :: xs)) (lsR R xs) K K') (q : ∀ v h', R v y → St h₀ K' h' → Q v ⟨h', g, d, t, os⟩) (hsz : xs.length + 1 ≤ sizeLine) :
  wpAny (model prog w) A (call (.builtin "list.pop") [.ref l, .int 0 u] []) Q E ⟨h, g, d, t, os⟩ := by
 (refine xEAEAE (S.get up.mem) fun o e vs a n zq5 => ?_; subst zq5)
 cases a with
 | @cons v _ vs' _ r a' =>
 have hl := a'.length
 refine call_meets PySem.F.slot_list_pop ⟨_, e, rfl⟩ PySem.F.entry_list_pop (PySem.F.args_list_pop_2 _ _) (PySem.MeetsSeq.list_pop_at l _ n 0 u 0 v (by decide) (seqIndex_of (by decide) (by rw [List.size_toArray, List.length_cons]; lia)) (by simp) (by rw [List.size_toArray, List.length_cons]; lia)) ⟨e, q v _ r ?_⟩
 refine S.upd up (Heap.SameBut.update ..).extBut (Heap.get?_update_self _ e rfl) ⟨vs', a', n + 1, ?_⟩
 have e1 : (v :: vs').toArray.eraseIdxIfInBounds 0 = vs'.toArray := kl_erase [] vs' v
 show (⟨_, _, .seq ((v :: vs').toArray.eraseIdxIfInBounds 0) (if ((v :: vs').toArray.eraseIdxIfInBounds 0).size == (v :: vs').toArray.size then n else n + 1), _⟩ : Obj) = _
 (refine (Eq.symm (e1)) ▸ ?_; rewrite [if_neg (by simp)]; try with_reducible rfl)
theorem lr_extend {Q : Value → Shared → Prop} (S : St h₀ K h) (u : Up l (lsR R xs) (lsR R (xs ++ ys)) K K') (m : (b, lsR R ys) ∈ K) (q : ∀ h', St h₀ K' h' → Q .none ⟨h', g, d, t, os⟩) (hsz : xs.length + ys.length ≤ sizeLine) :
  wpAny (model prog w) A (call (.builtin "list.extend") [.ref l, .ref b] []) Q E ⟨h, g, d, t, os⟩ := by
 (refine xEAEAE (S.get u.mem) fun o e vs a n zq5 => ?_; subst zq5)
 (refine xEAEAE (S.get m) fun o2 e2 ws a2 n2 zq5 => ?_; subst zq5)
 have hl := a.length
 have hl2 := a2.length
 have hsz' : vs.toArray.size + ws.toArray.size ≤ sizeLine := by (refine (Eq.symm (List.size_toArray)) ▸ ?_; refine (Eq.symm (List.size_toArray)) ▸ ?_; try with_reducible rfl); lia
 refine call_meets PySem.F.slot_list_extend ⟨_, e, rfl⟩ PySem.F.entry_list_extend (PySem.F.args_list_extend_2 _ _) (AutoSeq1.list_extend_list_list_0 l vs.toArray n b ws.toArray n2 (extend_door hsz') (Nat.le_trans (Nat.le_add_right _ _) hsz')) ⟨e, e2, q _ ?_⟩
 refine S.upd u (Heap.SameBut.update ..).extBut (Heap.get?_update_self _ e (by rw [mapSeq_app]; rfl)) ⟨vs ++ ws, a.append a2, (if (vs.toArray ++ ws.toArray).size == vs.toArray.size then n else n + 1), ?_⟩
 (rewrite [mapSeq_app]; refine (Eq.symm (show vs.toArray ++ ws.toArray = (vs ++ ws).toArray by simp)) ▸ ?_; try with_reducible rfl)
theorem lr_last {value slice : PySem.Expr} {u : Tok} {Q : Value → Shared → Prop} (S : St h₀ K h) (m : (l, lsR R (xs ++ [y])) ∈ K) (q : ∀ v, R v y → Q v ⟨h, g, d, t, os⟩) (hsz : xs.length < 1000000)
  (hs : subscripted slice false (.ref l) (.int (-1) u) = operate [.ref l, .int (-1) u] (getItem (.ref l) (.int (-1) u)) := by with_unfolding_all rfl) :
  wpAny (model prog w) A (subscriptTail value slice (.ref l) (.int (-1) u)) Q E ⟨h, g, d, t, os⟩ := by
 (refine xEAEAE (S.get m) fun o e vs a n zq5 => ?_; subst zq5)
 (refine xEEAA (a.snoc_inv) fun vs' v zq2 a' r => ?_; subst zq2)
 have hl := a'.length
 have hil : h.IsList l (vs' ++ [v]).toArray := ⟨_, e, rfl, n, rfl⟩
 refine tail_any (s := ⟨h, g, d, t, os⟩) hil.typeIs slot_list_getitem.lookup (wpAny_getItem_list_neg (s := ⟨h, g, d, t, os⟩) (l := l) (items := (vs' ++ [v]).toArray) (k := -1) hil (by decide) ?_ ?_ ?_ (q v r)) hs
 all_goals first | decide | ((refine (Eq.symm (List.size_toArray)) ▸ ?_; refine (Eq.symm (List.length_append)) ▸ ?_; refine (Eq.symm (List.length_singleton)) ▸ ?_; try with_reducible rfl); lia) | skip
 (refine (Eq.symm (List.size_toArray)) ▸ ?_; refine (Eq.symm (List.length_append)) ▸ ?_; refine (Eq.symm (List.length_singleton)) ▸ ?_; try with_reducible rfl)
 have : (-1 + ((vs'.length + 1 : Nat) : Int)).toNat = vs'.length := by lia
 rw [this]; simp
end
section
variable {prog : Program} {w : World} {A : Around} {E : Value → Shared → Prop} {h₀ h : Heap} {g : Array GenState} {d : Drawn} {t : Nat} {os : OsState} {K K' : Led} {Kt : Type} [DecidableEq Kt] {knd : KeyKind prog w Kt} {kvs : List (Kt × Value)} {a : Addr} {k : Kt} {key v : Value}
theorem dx_in {Q : Value → Shared → Prop} (S : St h₀ K h) (m : (a, dP knd (.type "dict") none #[] kvs) ∈ K) (hkey : knd.is k key = true) (hs : (a == sysModules) = false) (q : Q (.bool (valueAt kvs k).isSome) ⟨h, g, d, t + 1, os⟩) :
  wpAny (model prog w) A (compareOp .In key (.ref a)) Q E ⟨h, g, d, t, os⟩ := wpAny_in_of (s := ⟨h, g, d, t, os⟩) hkey hs (S.isDict m).mapOf q
theorem dx_notIn {Q : Value → Shared → Prop} (S : St h₀ K h) (m : (a, dP knd (.type "dict") none #[] kvs) ∈ K) (hkey : knd.is k key = true) (hs : (a == sysModules) = false) (q : Q (.bool (!(valueAt kvs k).isSome)) ⟨h, g, d, t + 1, os⟩) :
  wpAny (model prog w) A (compareOp .NotIn key (.ref a)) Q E ⟨h, g, d, t, os⟩ := wpAny_notIn_of (s := ⟨h, g, d, t, os⟩) hkey hs (S.isDict m).mapOf q
theorem dx_item {value slice : PySem.Expr} {Q : Value → Shared → Prop} (S : St h₀ K h) (m : (a, dP knd (.type "dict") none #[] kvs) ∈ K) (hkey : knd.is k key = true) (hv : valueAt kvs k = some v) (q : Q v ⟨h, g, d, t + 1, os⟩)
  (hs : subscripted slice false (.ref a) key = operate [.ref a, key] (getItem (.ref a) key)) : wpAny (model prog w) A (subscriptTail value slice (.ref a) key) Q E ⟨h, g, d, t, os⟩ :=
 tail_any (s := ⟨h, g, d, t, os⟩) (S.isDict m).typeIs slot_dict_getitem.lookup (wpAny_getItem_of hkey (S.isDict m).mapOf hv q) hs
end
section
variable {prog : Program} {w : World} {A : Around} {E : Value → Shared → Prop} {env : Env} {h : Heap} {g : Array GenState} {d : Drawn} {t : Nat} {os : OsState}
theorem e_neg {e : PySem.Expr} {pos : Pos} {Q : Value → Shared → Prop} (q : wpAny (model prog w) A (eval e env) (fun v s => wpAny (model prog w) A (unaryOp .USub v) Q E s) E ⟨h, g, d, t, os⟩) :
  wpAny (model prog w) A (eval (.UnaryOp .USub e pos) env) Q E ⟨h, g, d, t, os⟩ := UnaryOp_ q
theorem neg_ii {a : Int} {u : Tok} {Q : Value → Shared → Prop} (q : Q (.int (-a) t) ⟨h, g, d, t + 1, os⟩) : wpAny (model prog w) A (unaryOp .USub (.int a u)) Q E ⟨h, g, d, t, os⟩ := neg_int q
end
end
section
theorem All2.drop {α β : Type} {R : α → β → Prop} : ∀ {as : List α} {bs : List β}, All2 R as bs → ∀ k : Nat, All2 R (as.drop k) (bs.drop k) := by
 intro as bs h
 induction h with
 | nil => intro k; cases k <;> exact .nil
 | cons r h ih =>
  intro k
  cases k with
  | zero => exact .cons r h
  | succ k => exact ih k
theorem All2.take {α β : Type} {R : α → β → Prop} : ∀ {as : List α} {bs : List β}, All2 R as bs → ∀ k : Nat, All2 R (as.take k) (bs.take k) := by
 intro as bs h
 induction h with
 | nil => intro k; cases k <;> exact .nil
 | cons r h ih =>
  intro k
  cases k with
  | zero => exact .nil
  | succ k => exact .cons r (ih k)
theorem All2.any {α β : Type} {R : α → β → Prop} {f : α → Bool} {p : β → Bool} (hf : ∀ a b, R a b → f a = p b) : ∀ {as : List α} {bs : List β}, All2 R as bs → as.any f = bs.any p
 | _, _, .nil => rfl
 | _, _, .cons r h => by (refine (Eq.symm (List.any_cons)) ▸ ?_; refine (Eq.symm (List.any_cons)) ▸ ?_; refine (Eq.symm (hf _ _ r)) ▸ ?_; refine (Eq.symm (h.any hf)) ▸ ?_; try with_reducible rfl)
noncomputable def vEqI (k : Int) (v : Value) : Bool := match v with | .int i _ => i == k | _ => false
noncomputable def vEqS (k : Str) (v : Value) : Bool := match v with | .str i _ => i == k | _ => false
theorem eqg_str (a b : Str) (t u : Tok) : PySem.MeetsSeq.EqGives (.str a t) (.str b u) (a == b) := by
 have := PySem.SeqRoads2.EqGives.str a b t u
 rwa [PySem.SeqAt.str_beq] at this
section
variable {prog : Program} {w : World} {A : Around} {E : Value → Shared → Prop} {env : Env} {h₀ h : Heap} {g : Array GenState} {d : Drawn} {t : Nat} {os : OsState} {K K' : Led} {x : Str} {pos p : Pos} {v : Value} {l b : Addr} {vs ws : List Value} {α : Type} {R : Value → α → Prop} {xs ys : List α} {y : α}
theorem lr_copy {Q : Value → Shared → Prop} (S : St h₀ K h) (m : (l, lsR R xs) ∈ K) (q : ∀ D h', St h₀ ((D, lsR R xs) :: K) h' → Q (.ref D) ⟨h', g, d, t, os⟩) (hsz : xs.length ≤ sizeLine) :
  wpAny (model prog w) A (call (.type "list") [.ref l] []) Q E ⟨h, g, d, t, os⟩ := by
 (refine xEAEAE (S.get m) fun o e vs a n zq5 => ?_; subst zq5)
 refine call_list_seq (s := ⟨h, g, d, t, os⟩) l (.inl rfl) e rfl rfl (fun h' c' hk hD => q _ h' ?_) (by rw [List.size_toArray, a.length]; exact hsz)
 exact (S.ext hk).add hD ⟨vs, a, c', rfl⟩ (S.none_of_lt (Nat.le_refl _)) fun p hp q => Nat.lt_irrefl _ (by have := S.lt (a := p.1) (P := p.2) hp; rw [q] at this; exact this)
theorem sl_from {Q : Value → Shared → Prop} {k : Nat} {u : Tok} (S : St h₀ K h) (m : (l, lsR R xs) ∈ K) (q : ∀ D h', St h₀ ((D, lsR R (xs.drop k)) :: K) h' → Q (.ref D) ⟨h', g, d, t, os⟩) (hsz : xs.length ≤ sizeLine) :
  ∃ l' items lo hi, Value.ref l = .ref l' ∧ h.IsList l' items ∧ items.size ≤ sizeLine ∧ IsPart (.int k u) lo ∧ IsPart .none hi ∧
   Q (.ref (h.objs.size + 1)) ⟨(h.push { cls := .type "slice", data := .fields #[.int k u, .none, .none] }).push { cls := .type "list", data := .seq (slicePick items lo hi none) }, g, d, t, os⟩ := by
 refine xEAA (S.openR m) fun vs a hl zu3 => ?_
 refine ⟨l, vs.toArray, some (k : Int), none, rfl, hl, by rw [List.size_toArray, a.length]; exact hsz, .int _ _, .none, ?_⟩
 rw [slicePick_from']
 have S₁ := (S.ext (h' := h.push { cls := .type "slice", data := .fields #[.int k u, .none, .none] }) fun b o e => Heap.get?_push_of_some _ e).push (P := lsR R (xs.drop k)) (o := { cls := .type "list", data := .seq (vs.drop k).toArray }) ⟨vs.drop k, a.drop k, 0, rfl⟩ rfl
 rw [Heap.size_push] at S₁
 exact q _ _ (by simpa using S₁)
theorem sl_upto {Q : Value → Shared → Prop} {k : Nat} {u : Tok} (S : St h₀ K h) (m : (l, lsR R xs) ∈ K) (q : ∀ D h', St h₀ ((D, lsR R (xs.take k)) :: K) h' → Q (.ref D) ⟨h', g, d, t, os⟩) (hsz : xs.length ≤ sizeLine) :
  ∃ l' items lo hi, Value.ref l = .ref l' ∧ h.IsList l' items ∧ items.size ≤ sizeLine ∧ IsPart .none lo ∧ IsPart (.int k u) hi ∧
   Q (.ref (h.objs.size + 1)) ⟨(h.push { cls := .type "slice", data := .fields #[.none, .int k u, .none] }).push { cls := .type "list", data := .seq (slicePick items lo hi none) }, g, d, t, os⟩ := by
 refine xEAA (S.openR m) fun vs a hl zu3 => ?_
 refine ⟨l, vs.toArray, none, some (k : Int), rfl, hl, by rw [List.size_toArray, a.length]; exact hsz, .none, .int _ _, ?_⟩
 rw [slicePick_upto']
 have S₁ := (S.ext (h' := h.push { cls := .type "slice", data := .fields #[.none, .int k u, .none] }) fun b o e => Heap.get?_push_of_some _ e).push (P := lsR R (xs.take k)) (o := { cls := .type "list", data := .seq (vs.take k).toArray }) ⟨vs.take k, a.take k, 0, rfl⟩ rfl
 rw [Heap.size_push] at S₁
 exact q _ _ (by simpa using S₁)
noncomputable def SlF (h₀ : Heap) (R : Value → α → Prop) (xs : List α) (f : Nat → List α → List α) (Q : Value → Shared → Prop) (o vl : Value) (s₂ : Shared) : Prop :=
 ∃ l k u K, o = .ref l ∧ vl = .int ((k : Nat) : Int) u ∧ St h₀ K s₂.heap ∧ (l, lsR R xs) ∈ K ∧ xs.length ≤ sizeLine ∧ ∀ D h', St h₀ ((D, lsR R (f k xs)) :: K) h' → Q (.ref D) { s₂ with heap := h' }
theorem SlF_in {h₀ : Heap} {R : Value → α → Prop} {xs : List α} {f : Nat → List α → List α} {Q : Value → Shared → Prop} {o vl : Value} {s₂ : Shared} (l : Addr) (k : Nat) (u : Tok) (K : Led) (h1 : o = .ref l) (h2 : vl = .int ((k : Nat) : Int) u) (S : St h₀ K s₂.heap) (m : (l, lsR R xs) ∈ K) (hz : xs.length ≤ sizeLine) (q : ∀ D h', St h₀ ((D, lsR R (f k xs)) :: K) h' → Q (.ref D) { s₂ with heap := h' }) : SlF h₀ R xs f Q o vl s₂ := ⟨l, k, u, K, h1, h2, S, m, hz, q⟩
theorem e_from {value lo : PySem.Expr} {Q : Value → Shared → Prop} {s : Shared} (R : Value → α → Prop) (xs : List α) (h : wpAny (model prog w) A (eval value env) (fun o s₁ => wpAny (model prog w) A (eval lo env) (fun vl s₂ => SlF h₀ R xs (fun k l => l.drop k) Q o vl s₂) E s₁) E s)
  (ht : ∀ o r, letTemporaryGo value o r = pure () := by intro _ _; rfl) :
  wpAny (model prog w) A (eval (.Subscript value (.Slice (some lo) none none p) pos) env) Q E s := by
 refine wpAny_Subscript_list_slice (wpAny_mono h (fun o s₁ h₁ => wpAny_evalPart_some (wpAny_mono h₁ (fun vl s₂ h₂ => wpAny_evalPart_none ?_) fun _ _ e => e)) fun _ _ e => e) ht
 obtain ⟨l, k, u, K, rfl, rfl, S, m, hsz, q⟩ := h₂
 obtain ⟨hp, g, d, t, os⟩ := s₂
 exact sl_from (Q := Q) S m q hsz
theorem e_upto {value lo : PySem.Expr} {Q : Value → Shared → Prop} {s : Shared} (R : Value → α → Prop) (xs : List α) (h : wpAny (model prog w) A (eval value env) (fun o s₁ => wpAny (model prog w) A (eval lo env) (fun vl s₂ => SlF h₀ R xs (fun k l => l.take k) Q o vl s₂) E s₁) E s)
  (ht : ∀ o r, letTemporaryGo value o r = pure () := by intro _ _; rfl) :
  wpAny (model prog w) A (eval (.Subscript value (.Slice none (some lo) none p) pos) env) Q E s := by
 refine wpAny_Subscript_list_slice (wpAny_mono h (fun o s₁ h₁ => wpAny_evalPart_none (wpAny_evalPart_some (wpAny_mono h₁ (fun vl s₂ h₂ => ?_) fun _ _ e => e))) fun _ _ e => e) ht
 obtain ⟨l, k, u, K, rfl, rfl, S, m, hsz, q⟩ := h₂
 obtain ⟨hp, g, d, t, os⟩ := s₂
 exact sl_upto (Q := Q) S m q hsz
theorem in_S {k : Str} {u : Tok} {ns : List Str} {Q : Value → Shared → Prop} (S : St h₀ K h) (m : (l, lsR isS ns) ∈ K) (q : Q (.bool (ns.any fun n => n == k)) ⟨h, g, d, t, os⟩) : wpAny (model prog w) A (compareOp .In (.str k u) (.ref l)) Q E ⟨h, g, d, t, os⟩ := by
 (refine xEAEAE (S.get m) fun o e vs a n zq5 => ?_; subst zq5)
 refine PySem.SeqRoads2.in_list (s := ⟨h, g, d, t, os⟩) (vEqS k) (fun y hy => ?_) e ?_
 ·have hy' : y ∈ vs := by simpa using hy
  obtain ⟨i, hi⟩ := List.mem_iff_getElem?.mp hy'
  (refine xEAE (a.get' hi) fun b zu1 u' zq3 => ?_; subst zq3)
  exact eqg_str _ _ _ _
 ·(refine (Array.any_toList) ▸ ?_; try with_reducible rfl)
  rw [show (vs.toArray.toList.any (vEqS k)) = ns.any (fun n => n == k) from a.any fun v n ⟨t, e⟩ => by subst e; rfl]
  exact q
theorem notIn_S {k : Str} {u : Tok} {ns : List Str} {Q : Value → Shared → Prop} (S : St h₀ K h) (m : (l, lsR isS ns) ∈ K) (q : Q (.bool (!ns.any fun n => n == k)) ⟨h, g, d, t, os⟩) : wpAny (model prog w) A (compareOp .NotIn (.str k u) (.ref l)) Q E ⟨h, g, d, t, os⟩ := by
 (refine xEAEAE (S.get m) fun o e vs a n zq5 => ?_; subst zq5)
 refine PySem.SeqRoads2.notIn_list (s := ⟨h, g, d, t, os⟩) (vEqS k) (fun y hy => ?_) e ?_
 ·have hy' : y ∈ vs := by simpa using hy
  obtain ⟨i, hi⟩ := List.mem_iff_getElem?.mp hy'
  (refine xEAE (a.get' hi) fun b zu1 u' zq3 => ?_; subst zq3)
  exact eqg_str _ _ _ _
 ·(refine (Array.any_toList) ▸ ?_; try with_reducible rfl)
  rw [show (vs.toArray.toList.any (vEqS k)) = ns.any (fun n => n == k) from a.any fun v n ⟨t, e⟩ => by subst e; rfl]
  exact q
theorem in_T2 {k a b : Int} {u ua ub : Tok} {Q : Value → Shared → Prop} (S : St h₀ K h) (m : (l, tpP [.int a ua, .int b ub]) ∈ K) (q : Q (.bool (decide (k = a ∨ k = b))) ⟨h, g, d, t, os⟩) : wpAny (model prog w) A (compareOp .In (.int k u) (.ref l)) Q E ⟨h, g, d, t, os⟩ := by
 (refine xEAE (S.get m) fun o e n zq3 => ?_; subst zq3)
 refine PySem.SeqRoads2.in_tuple (s := ⟨h, g, d, t, os⟩) (vEqI k) (fun y hy => ?_) e ?_
 ·have hy' : y ∈ [Value.int a ua, .int b ub] := by simpa using hy
  rcases List.mem_cons.mp hy' with rfl | hy'
  ·exact PySem.MeetsSeq.EqGives.int _ _ _ _
  ·rw [List.mem_singleton] at hy'; subst hy'; exact PySem.MeetsSeq.EqGives.int _ _ _ _
 ·(refine (Array.any_toList) ▸ ?_; try with_reducible rfl)
  have : ([Value.int a ua, .int b ub].toArray.toList.any (vEqI k)) = decide (k = a ∨ k = b) := by
   show ((a == k) || ((b == k) || false)) = _
   rw [Bool.eq_iff_iff]
   simp only [Bool.or_false, Bool.or_eq_true, beq_iff_eq, decide_eq_true_eq]
   exact ⟨fun h => h.imp Eq.symm Eq.symm, fun h => h.imp Eq.symm Eq.symm⟩
  rw [this]; exact q
theorem ix_S {k : Str} {u : Tok} {ns : List Str} {j : Nat} {Q : Value → Shared → Prop} (S : St h₀ K h) (m : (l, lsR isS ns) ∈ K) (hj : ns.findIdx? (fun s => decide (s = k)) = some j) (hsz : ns.length ≤ 4096) (q : Q (.int j t) ⟨h, g, d, t + 1, os⟩) :
  wpAny (model prog w) A (call (.builtin "list.index") [.ref l, .str k u] []) Q E ⟨h, g, d, t, os⟩ := by
 (refine xEAEAE (S.get m) fun o e vs a n zq5 => ?_; subst zq5)
 have hl := a.length
 refine xEA (List.findIdx?_eq_some_iff_getElem.mp hj) fun hlt hk hno => ?_
 have hv : ∀ i (hi : i < vs.length), vEqS k vs[i] = decide (ns[i]'(by lia) = k) := by
  intro i hi
  refine xEAE (a.get' (List.getElem?_eq_getElem hi)) fun b hb u' e' => ?_
  rw [List.getElem?_eq_getElem (by lia)] at hb
  cases hb
  rw [e', Bool.eq_iff_iff]
  show ((ns[i]'(by lia)) == k) = true ↔ _
  simp
 refine call_meets PySem.F.slot_list_index ⟨_, e, rfl⟩ PySem.F.entry_list_index (PySem.F.args_list_index_2 _ _) (PySem.MeetsSeq.list_index l vs.toArray n (.str k u) (vEqS k) (fun y hy => ?_) j (by rw [List.size_toArray]; lia) (by lia) ?_ ?_) ⟨e, q⟩
 ·have hy' : y ∈ vs := by simpa using hy
  obtain ⟨i, hi⟩ := List.mem_iff_getElem?.mp hy'
  (refine xEAE (a.get' hi) fun b zu1 u' zq3 => ?_; subst zq3)
  exact eqg_str _ _ _ _
 ·simp only [List.getElem_toArray]; (refine (Eq.symm (hv j (by lia))) ▸ ?_; try with_reducible rfl); exact hk
 ·intro i hi hij
  simp only [List.getElem_toArray]
  rw [hv i (by rw [List.size_toArray] at hi; exact hi)]
  have := hno i hij
  simpa using this
end
end
section
noncomputable def look? {α : Type} (l : List (Int × α)) (k : Int) : Option α := (l.find? fun p => decide (p.1 = k)).map (·.2)
theorem look?_mem {α : Type} {l : List (Int × α)} {k : Int} {v : α} (h : look? l k = some v) : (k, v) ∈ l := by
 unfold look? at h
 (refine xEA (Option.map_eq_some_iff.mp h) fun p hp zq2 => ?_; subst zq2)
 have h1 := List.find?_some hp
 have : p.1 = k := of_decide_eq_true h1
 have h2 := List.mem_of_find?_eq_some hp
 (refine (this) ▸ ?_; try with_reducible rfl); exact h2
theorem look?_none {α : Type} {l : List (Int × α)} {k : Int} : look? l k = none ↔ ∀ p ∈ l, p.1 ≠ k := by
 unfold look?
 rw [Option.map_eq_none_iff, List.find?_eq_none]
 simp
theorem look?_app {α : Type} {l l' : List (Int × α)} {k : Int} : look? (l ++ l') k = (look? l k).or (look? l' k) := by
 unfold look?
 rw [List.find?_append]
 cases List.find? (fun p => decide (p.1 = k)) l <;> rfl
structure GS where
 kept : List (Int × List Int)
 fr : Bool
 runs : List Int
noncomputable def partsF (f : GS → Int → (Int ⊕ List Int) × GS) : GS → List Int → List Int → (Int ⊕ List Int) × GS
 | s, [], acc => (.inr acc, s)
 | s, p :: ps, acc => match f s p with
  | (.inl b, s') => (.inl b, s')
  | (.inr r, s') => partsF f s' ps (acc ++ r)
noncomputable def lookF (specs : List (Int × List Int)) : Nat → GS → Int → (Int ⊕ List Int) × GS
 | n, s, sym =>
  if sym < 256 then (.inr [sym], { s with fr := s.fr || decide (sym = 54) })
  else match look? s.kept sym with
   | some row => (.inr row, s)
   | none => match look? specs sym with
    | none => (.inl sym, { s with runs := s.runs ++ [sym] })
    | some parts => match n with
     | 0 => (.inl sym, s)
     | n + 1 => match partsF (lookF specs n) { s with runs := s.runs ++ [sym] } parts [] with
      | (.inl b, s') => (.inl b, s')
      | (.inr row, s') => (.inr row, if s.fr then s' else { s' with kept := s'.kept ++ [(sym, row)] })
theorem lookF_term {specs n s sym} (h : sym < 256) : lookF specs n s sym = (.inr [sym], { s with fr := s.fr || decide (sym = 54) }) := by
 unfold lookF; rw [if_pos h]
theorem lookF_kept {specs n s sym row} (h : ¬ sym < 256) (hk : look? s.kept sym = some row) : lookF specs n s sym = (.inr row, s) := by
 unfold lookF; (refine (Eq.symm (if_neg h)) ▸ ?_; refine (Eq.symm (hk)) ▸ ?_; try with_reducible rfl)
theorem lookF_none {specs n s sym} (h : ¬ sym < 256) (hk : look? s.kept sym = none) (hr : look? specs sym = none) : lookF specs n s sym = (.inl sym, { s with runs := s.runs ++ [sym] }) := by
 unfold lookF; (refine (Eq.symm (if_neg h)) ▸ ?_; refine (Eq.symm (hk)) ▸ ?_; refine (Eq.symm (hr)) ▸ ?_; try with_reducible rfl)
theorem lookF_rule {specs n s sym parts} (h : ¬ sym < 256) (hk : look? s.kept sym = none) (hr : look? specs sym = some parts) : lookF specs (n + 1) s sym = match partsF (lookF specs n) { s with runs := s.runs ++ [sym] } parts [] with
  | (.inl b, s') => (Sum.inl b, s')
  | (.inr row, s') => (Sum.inr row, if s.fr then s' else { s' with kept := s'.kept ++ [(sym, row)] }) := by
 rw [lookF, if_neg h, hk, hr]
theorem partsF_app (f : GS → Int → (Int ⊕ List Int) × GS) (s : GS) (ps qs : List Int) (acc : List Int) : partsF f s (ps ++ qs) acc = match partsF f s ps acc with
  | (.inl b, s') => (Sum.inl b, s')
  | (.inr a, s') => partsF f s' qs a := by
 induction ps generalizing s acc with
 | nil => rfl
 | cons q ps ih =>
  rw [List.cons_append, partsF, partsF]
  cases hq : f s q with
  | mk a b =>
   cases a with
   | inl x => rfl
   | inr r => exact ih b (acc ++ r)
theorem partsF_snoc (f : GS → Int → (Int ⊕ List Int) × GS) (s : GS) (ps : List Int) (p : Int) (acc : List Int) : partsF f s (ps ++ [p]) acc = match partsF f s ps acc with
  | (.inl b, s') => (Sum.inl b, s')
  | (.inr a, s') => match f s' p with
   | (.inl b, s'') => (Sum.inl b, s'')
   | (.inr r, s'') => (Sum.inr (a ++ r), s'') := by
 rw [partsF_app]
 cases partsF f s ps acc with
 | mk a b =>
  cases a with
  | inl x => rfl
  | inr r => rfl
structure WfR (specs : List (Int × List Int)) (rk : Int → Nat) : Prop where
 key : ∀ k parts, look? specs k = some parts → 256 ≤ k ∧ 1 ≤ rk k ∧ rk k ≤ 5
 len : ∀ k parts, look? specs k = some parts → parts.length ≤ 26 ∧ (parts.filter fun p => (look? specs p).isSome).length ≤ 2
 low : ∀ k parts, look? specs k = some parts → ∀ p ∈ parts, 0 ≤ p ∧ rk p < rk k
noncomputable def TB (z : Nat) : Nat → Nat
 | 0 => 1
 | r + 1 => 26 + 2 * TB z r + z
noncomputable def UB : Nat → Nat
 | 0 => 1
 | r + 1 => 2 + 2 * UB r
theorem TB_pos (z : Nat) : ∀ r, 1 ≤ TB z r
 | 0 => Nat.le_refl _
 | r + 1 => by unfold TB; lia
theorem TB_mono (z : Nat) {r r' : Nat} (h : r ≤ r') : TB z r ≤ TB z r' := by
 induction h with
 | refl => exact Nat.le_refl _
 | step _ ih => refine Nat.le_trans ih ?_; show _ ≤ 26 + 2 * TB z _ + z; lia
theorem TB_z (z : Nat) : ∀ r, 1 ≤ r → TB z r + 1 ≤ TB (z + 1) r
 | 0, h => absurd h (by decide)
 | r + 1, _ => by
  have : TB z r ≤ TB (z + 1) r := by
   cases r with
   | zero => exact Nat.le_refl _
   | succ r => exact Nat.le_of_succ_le (TB_z z (r + 1) (by (exact Nat.le_of_ble_eq_true rfl)))
  show 26 + 2 * TB z r + z + 1 ≤ 26 + 2 * TB (z + 1) r + (z + 1)
  lia
theorem UB_mono {r r' : Nat} (h : r ≤ r') : UB r ≤ UB r' := by
 induction h with
 | refl => exact Nat.le_refl _
 | step _ ih => refine Nat.le_trans ih ?_; show _ ≤ 2 + 2 * UB _; lia
theorem UB_pos : ∀ r, 1 ≤ UB r
 | 0 => Nat.le_refl _
 | r + 1 => by unfold UB; lia
structure Inv (specs : List (Int × List Int)) (rk : Int → Nat) (z : Nat) (kept : List (Int × List Int)) : Prop where
 key : ∀ p ∈ kept, 256 ≤ p.1 ∧ (look? specs p.1).isSome = true
 len : ∀ p ∈ kept, p.2.length ≤ TB z (rk p.1)
 nd : (kept.map (·.1)).Nodup
structure LookOk (specs : List (Int × List Int)) (rk : Int → Nat) (z r : Nat) (s : GS) (x : (Int ⊕ List Int) × GS) : Prop where
 inv : Inv specs rk z x.2.kept
 add : ∃ add, x.2.kept = s.kept ++ add ∧ ∀ p ∈ add, rk p.1 ≤ r
 row : ∀ row, x.1 = .inr row → row.length ≤ TB z r
 runs : ∃ rn, x.2.runs = s.runs ++ rn ∧ rn.length ≤ UB r
noncomputable def cnt (specs : List (Int × List Int)) (ps : List Int) : Nat := (ps.filter fun p => (look? specs p).isSome).length
theorem cnt_cons {specs p ps} : cnt specs (p :: ps) = (if (look? specs p).isSome then 1 else 0) + cnt specs ps := by
 unfold cnt
 rw [List.filter_cons]
 split
 ·rw [List.length_cons]; (exact Nat.add_comm _ _)
 ·lia
structure PartsOk (specs : List (Int × List Int)) (rk : Int → Nat) (z r : Nat) (s : GS) (ps : List Int) (acc : List Int) (x : (Int ⊕ List Int) × GS) : Prop where
 inv : Inv specs rk z x.2.kept
 add : ∃ add, x.2.kept = s.kept ++ add ∧ ∀ p ∈ add, rk p.1 ≤ r
 row : ∀ row, x.1 = .inr row → row.length ≤ acc.length + ps.length + cnt specs ps * TB z r
 runs : ∃ rn, x.2.runs = s.runs ++ rn ∧ rn.length ≤ cnt specs ps * UB r + 1
 runs0 : ∀ row, x.1 = .inr row → ∃ rn, x.2.runs = s.runs ++ rn ∧ rn.length ≤ cnt specs ps * UB r
theorem parts_ok {specs : List (Int × List Int)} {rk : Int → Nat} {z n r : Nat} (W : WfR specs rk) (hr : r ≤ n)
  (ih : ∀ s sym, rk sym ≤ n → Inv specs rk z s.kept → LookOk specs rk z (rk sym) s (lookF specs n s sym)) :
  ∀ (ps : List Int) (s : GS) (acc : List Int), (∀ p ∈ ps, rk p ≤ r) → Inv specs rk z s.kept → PartsOk specs rk z r s ps acc (partsF (lookF specs n) s ps acc)
 | [], s, acc, _, I => ⟨I, ⟨[], by simp [partsF], fun _ h => nomatch h⟩, fun row h => by cases h; simp, ⟨[], by simp [partsF], by simp⟩, fun _ _ => ⟨[], by simp [partsF], by simp⟩⟩
 | p :: ps, s, acc, hp, I => by
  have hp0 := hp p (.head _)
  have L := ih s p (by (exact Nat.le_trans (by assumption) (by assumption))) I
  have hT := TB_mono z hp0
  have hU := UB_mono hp0
  have one : ∀ row, (lookF specs n s p).1 = .inr row → row.length ≤ 1 + (if (look? specs p).isSome then 1 else 0) * TB z r ∧ ∃ rn, (lookF specs n s p).2.runs = s.runs ++ rn ∧ rn.length ≤ (if (look? specs p).isSome then 1 else 0) * UB r := by
   intro row h
   by_cases h1 : p < 256
   ·rw [lookF_term h1] at h ⊢
    cases h
    exact ⟨by simp, [], by simp, by simp⟩
   ·cases hk : look? s.kept p with
    | some row' =>
     have hh := h
     rw [lookF_kept h1 hk] at h ⊢
     cases h
     have m := look?_mem hk
     (refine (Eq.symm (if_pos (I.key _ m).2)) ▸ ?_; try with_reducible rfl)
     have := I.len _ m
     dsimp only at this
     exact ⟨by lia, [], by simp, by simp⟩
    | none =>
     cases hs : look? specs p with
     | none => rw [lookF_none h1 hk hs] at h; cases h
     | some parts =>
      (refine (Eq.symm (if_pos (show (some parts).isSome = true from rfl))) ▸ ?_; try with_reducible rfl)
      have a := L.row row h
      refine xEA (L.runs) fun rn e b => ?_
      exact ⟨by lia, rn, e, by lia⟩
  have cc := cnt_cons (specs := specs) (p := p) (ps := ps)
  refine xEA (L.add) fun add ea ha => ?_
  show PartsOk specs rk z r s (p :: ps) acc (match lookF specs n s p with | (.inl b, s') => (Sum.inl b, s') | (.inr r, s') => partsF (lookF specs n) s' ps (acc ++ r))
  refine xEA (L.runs) fun rn er hrn => ?_
  have Li := L.inv
  cases hq : lookF specs n s p with
  | mk a s' =>
   rw [hq] at one ea er Li
   dsimp only at one ea er Li
   cases a with
   | inl b =>
    refine ⟨Li, ⟨add, ea, fun q m => Nat.le_trans (ha q m) hp0⟩, (fun row h => by cases h), ⟨rn, er, ?_⟩, fun row h => by cases h⟩
    by_cases hs : (look? specs p).isSome = true
    ·(refine (Eq.symm (cc)) ▸ ?_; refine (Eq.symm (if_pos hs)) ▸ ?_; rewrite [Nat.add_mul]; try with_reducible rfl); lia
    ·have h1 : ¬ p < 256 := fun h1 => by rw [lookF_term h1] at hq; cases hq
     cases hk : look? s.kept p with
     | some row' => rw [lookF_kept h1 hk] at hq; cases hq
     | none =>
      have hn : look? specs p = none := by cases e : look? specs p with | none => rfl | some _ => rw [e] at hs; exact absurd rfl hs
      rw [lookF_none h1 hk hn] at hq
      cases hq
      have : rn = [p] := List.append_cancel_left er.symm
      rw [this]; simp
   | inr row =>
    refine xAEA (one row rfl) fun o1 rn' er' o2 => ?_
    have P := parts_ok W hr ih ps s' (acc ++ row) (fun q m => hp q (.tail _ m)) Li
    dsimp only
    refine xEA (P.add) fun add' ea' ha' => ?_
    refine xEA (P.runs) fun rn2 e2 b2 => ?_
    have hsplit : ∀ X : Nat, cnt specs (p :: ps) * X = (if (look? specs p).isSome then 1 else 0) * X + cnt specs ps * X := fun X => by rw [cc, Nat.add_mul]
    refine ⟨P.inv, ⟨add ++ add', by (refine (Eq.symm (ea')) ▸ ?_; refine (Eq.symm (ea)) ▸ ?_; rewrite [List.append_assoc]; try with_reducible rfl), fun q m => ?_⟩, fun row' h => ?_, ⟨rn' ++ rn2, by (refine (Eq.symm (e2)) ▸ ?_; refine (Eq.symm (er')) ▸ ?_; rewrite [List.append_assoc]; try with_reducible rfl), ?_⟩, fun row' h => ?_⟩
    ·rcases List.mem_append.mp m with m | m
     ·exact Nat.le_trans (ha q m) hp0
     ·exact ha' q m
    ·have := P.row row' h
     rw [List.length_append] at this
     rw [hsplit, List.length_cons]
     lia
    ·rw [hsplit, List.length_append]; omega
    ·refine xEA (P.runs0 row' h) fun rn3 e3 b3 => ?_
     refine ⟨rn' ++ rn3, by (refine (Eq.symm (e3)) ▸ ?_; refine (Eq.symm (er')) ▸ ?_; rewrite [List.append_assoc]; try with_reducible rfl), ?_⟩
     rw [hsplit, List.length_append]; omega
theorem look_ok {specs : List (Int × List Int)} {rk : Int → Nat} {z : Nat} (W : WfR specs rk) :
  ∀ (n : Nat) (s : GS) (sym : Int), rk sym ≤ n → Inv specs rk z s.kept → LookOk specs rk z (rk sym) s (lookF specs n s sym) := by
 intro n
 induction n with
 | zero =>
  intro s sym hr I
  by_cases h1 : sym < 256
  ·rw [lookF_term h1]
   exact ⟨I, ⟨[], by simp, fun _ h => nomatch h⟩, fun row h => by cases h; exact TB_pos z _, ⟨[], by simp, by simp⟩⟩
  ·cases hk : look? s.kept sym with
   | some row =>
    rw [lookF_kept h1 hk]
    exact ⟨I, ⟨[], by simp, fun _ h => nomatch h⟩, fun row h => by cases h; exact I.len _ (look?_mem hk), ⟨[], by simp, by simp⟩⟩
   | none =>
    cases hs : look? specs sym with
    | none =>
     rw [lookF_none h1 hk hs]
     exact ⟨I, ⟨[], by simp, fun _ h => nomatch h⟩, (fun row h => by cases h), ⟨[sym], rfl, UB_pos _⟩⟩
    | some parts => have := W.key _ _ hs; lia
 | succ n ih =>
  intro s sym hr I
  by_cases h1 : sym < 256
  ·rw [lookF_term h1]
   exact ⟨I, ⟨[], by simp, fun _ h => nomatch h⟩, fun row h => by cases h; exact TB_pos z _, ⟨[], by simp, by simp⟩⟩
  ·cases hk : look? s.kept sym with
   | some row =>
    rw [lookF_kept h1 hk]
    exact ⟨I, ⟨[], by simp, fun _ h => nomatch h⟩, fun row h => by cases h; exact I.len _ (look?_mem hk), ⟨[], by simp, by simp⟩⟩
   | none =>
    cases hs : look? specs sym with
    | none =>
     rw [lookF_none h1 hk hs]
     exact ⟨I, ⟨[], by simp, fun _ h => nomatch h⟩, (fun row h => by cases h), ⟨[sym], rfl, UB_pos _⟩⟩
    | some parts =>
     rw [lookF_rule h1 hk hs]
     refine xAA (W.key _ _ hs) fun w1 w2 w3 => ?_
     obtain ⟨w4, w5⟩ := W.len _ _ hs
     obtain ⟨r, hr'⟩ : ∃ r, rk sym = r + 1 := ⟨rk sym - 1, by lia⟩
     have P := parts_ok (z := z) (n := n) (r := r) W (by lia) ih parts { s with runs := s.runs ++ [sym] } [] (fun p hp => by have := (W.low _ _ hs p hp).2; lia) I
     refine xEA (P.add) fun add ea ha => ?_
     have hnk : ∀ p ∈ s.kept ++ add, p.1 ≠ sym := by
      intro p hp
      rcases List.mem_append.mp hp with hp | hp
      ·exact look?_none.mp hk p hp
      ·intro e; have := ha p hp; rw [e] at this; lia
     have hc : cnt specs parts ≤ 2 := w5
     have hU : cnt specs parts * UB r ≤ 2 * UB r := Nat.mul_le_mul_right _ hc
     have hT : cnt specs parts * TB z r ≤ 2 * TB z r := Nat.mul_le_mul_right _ hc
     have uU : UB (r + 1) = 2 + 2 * UB r := rfl
     have uT : TB z (r + 1) = 26 + 2 * TB z r + z := rfl
     refine xEA (P.runs) fun rn er hrn => ?_
     have Pi := P.inv
     have Pr := P.row
     cases hq : partsF (lookF specs n) { s with runs := s.runs ++ [sym] } parts [] with
     | mk a s' =>
      rw [hq] at ea er Pi Pr
      dsimp only at ea er Pi Pr
      cases a with
      | inl b =>
       refine ⟨Pi, ⟨add, ea, fun p hp => by have := ha p hp; lia⟩, (fun row h => by cases h), ⟨[sym] ++ rn, by dsimp only; rw [er, List.append_assoc], ?_⟩⟩
       (refine (Eq.symm (hr')) ▸ ?_; refine (Eq.symm (uU)) ▸ ?_; refine (Eq.symm (List.length_append)) ▸ ?_; refine (Eq.symm (List.length_singleton)) ▸ ?_; try with_reducible rfl); lia
      | inr row =>
       have hl := Pr row rfl
       simp only [List.length_nil] at hl
       dsimp only
       by_cases hf : s.fr = true
       ·rw [if_pos hf]
        refine ⟨Pi, ⟨add, ea, fun p hp => by have := ha p hp; lia⟩, (fun row' h => by cases h; rw [hr', uT]; lia), ⟨[sym] ++ rn, by dsimp only; rw [er, List.append_assoc], ?_⟩⟩
        (refine (Eq.symm (hr')) ▸ ?_; refine (Eq.symm (uU)) ▸ ?_; refine (Eq.symm (List.length_append)) ▸ ?_; refine (Eq.symm (List.length_singleton)) ▸ ?_; try with_reducible rfl); lia
       ·rw [if_neg hf]
        refine ⟨⟨fun p hp => ?_, fun p hp => ?_, ?_⟩, ⟨add ++ [(sym, row)], by dsimp only; rw [ea, List.append_assoc], fun p hp => ?_⟩, (fun row' h => by cases h; rw [hr', uT]; lia), ⟨[sym] ++ rn, by dsimp only; rw [er, List.append_assoc], ?_⟩⟩
        ·rcases List.mem_append.mp hp with hp | hp
         ·exact Pi.key p hp
         ·rw [List.mem_singleton] at hp; subst hp; exact ⟨w1, by dsimp only; rw [hs]; rfl⟩
        ·rcases List.mem_append.mp hp with hp | hp
         ·exact Pi.len p hp
         ·rw [List.mem_singleton] at hp; subst hp; dsimp only; rw [hr', uT]; lia
        ·dsimp only
         rw [List.map_append, List.nodup_append]
         refine ⟨Pi.nd, by simp, fun a ha b hb => ?_⟩
         simp only [List.map_cons, List.map_nil, List.mem_singleton] at hb
         subst hb
         (refine xEA (List.mem_map.mp ha) fun p hp zq2 => ?_; subst zq2)
         rw [ea] at hp
         exact hnk p hp
        ·rcases List.mem_append.mp hp with hp | hp
         ·have := ha p hp; lia
         ·rw [List.mem_singleton] at hp; subst hp; exact Nat.le_refl _
        ·(refine (Eq.symm (hr')) ▸ ?_; refine (Eq.symm (uU)) ▸ ?_; refine (Eq.symm (List.length_append)) ▸ ?_; refine (Eq.symm (List.length_singleton)) ▸ ?_; try with_reducible rfl); lia
end
section
structure Tl where
 told : Int ⊕ List Int
 runs : List Int
 keys : List Int
noncomputable abbrev DSt := List (Int × List Int) × Bool
noncomputable def app0 (kept : List (Int × List Int)) (sym : Int) : List (Int × List Int) := kept.map fun p => if p.1 = sym then (p.1, p.2 ++ [0]) else p
noncomputable def drop0 (kept : List (Int × List Int)) (sym : Int) : List (Int × List Int) := kept.filter fun p => decide (p.1 ≠ sym)
noncomputable def mid (specs : List (Int × List Int)) (n : Nat) (s : DSt) (e : Int × Int) : List (Int × List Int) :=
 if e.2 < 4 then app0 (lookF specs n ⟨s.1, s.2, []⟩ e.1).2.kept e.1 else (lookF specs n ⟨s.1, s.2, []⟩ e.1).2.kept
noncomputable def fin (specs : List (Int × List Int)) (n : Nat) (s : DSt) (e : Int × Int) : List (Int × List Int) :=
 if e.2 = 4 ∨ e.2 = 5 then drop0 (mid specs n s e) e.1 else mid specs n s e
noncomputable def deedF (specs : List (Int × List Int)) (n : Nat) (s : DSt) (e : Int × Int) : Tl × DSt :=
 (⟨(lookF specs n ⟨s.1, s.2, []⟩ e.1).1, (lookF specs n ⟨s.1, s.2, []⟩ e.1).2.runs, (fin specs n s e).map (·.1)⟩, (fin specs n s e, (lookF specs n ⟨s.1, s.2, []⟩ e.1).2.fr))
noncomputable def deedsF (specs : List (Int × List Int)) (n : Nat) (s : DSt) (es : List (Int × Int)) : List Tl × DSt :=
 es.foldl (fun a e => (a.1 ++ [(deedF specs n a.2 e).1], (deedF specs n a.2 e).2)) ([], s)
theorem deedsF_snoc (specs n s es e) : deedsF specs n s (es ++ [e]) = ((deedsF specs n s es).1 ++ [(deedF specs n (deedsF specs n s es).2 e).1], (deedF specs n (deedsF specs n s es).2 e).2) := by
 unfold deedsF; rw [List.foldl_append]; rfl
theorem app0_keys (kept : List (Int × List Int)) (sym : Int) : (app0 kept sym).map (·.1) = kept.map (·.1) := by
 unfold app0
 rw [List.map_map]
 apply List.map_congr_left
 intro p _
 show (if p.1 = sym then (p.1, p.2 ++ [0]) else p).1 = p.1
 split <;> rfl
theorem app0_none {kept : List (Int × List Int)} {sym : Int} (h : look? kept sym = none) : app0 kept sym = kept := by
 unfold app0
 conv => rhs; rw [← List.map_id kept]
 apply List.map_congr_left
 intro p hp
 rw [if_neg (look?_none.mp h p hp)]; rfl
theorem Inv.up {specs : List (Int × List Int)} {rk : Int → Nat} {z : Nat} {kept : List (Int × List Int)} (W : WfR specs rk) (I : Inv specs rk z kept) : Inv specs rk (z + 1) kept :=
 ⟨I.key, fun p hp => by
  have h1 := I.len p hp
  have h2 := (I.key p hp).2
  cases e : look? specs p.1 with
  | none => rw [e] at h2; cases h2
  | some v => have h3 := TB_z z (rk p.1) (W.key _ _ e).2.1; lia, I.nd⟩
theorem Inv.app {specs : List (Int × List Int)} {rk : Int → Nat} {z : Nat} {kept : List (Int × List Int)} (W : WfR specs rk) (I : Inv specs rk z kept) (sym : Int) : Inv specs rk (z + 1) (app0 kept sym) := by
 have U := I.up W
 refine ⟨fun p hp => ?_, fun p hp => ?_, by rw [app0_keys]; exact I.nd⟩
 ·(refine xEA (List.mem_map.mp hp) fun q hq zq2 => ?_; subst zq2)
  have := I.key q hq
  split <;> exact this
 ·(refine xEA (List.mem_map.mp hp) fun q hq zq2 => ?_; subst zq2)
  split
  ·have h1 := I.len q hq
   have h2 := (I.key q hq).2
   cases e : look? specs q.1 with
   | none => rw [e] at h2; cases h2
   | some v =>
    have h3 := TB_z z (rk q.1) (W.key _ _ e).2.1
    simp only [List.length_append, List.length_singleton]; (exact Nat.lt_of_le_of_lt (by assumption) (by assumption))
  ·exact U.len q hq
theorem Inv.drop {specs : List (Int × List Int)} {rk : Int → Nat} {z : Nat} {kept : List (Int × List Int)} (I : Inv specs rk z kept) (sym : Int) : Inv specs rk z (drop0 kept sym) :=
 ⟨fun p hp => I.key p ((List.mem_filter.mp hp).1), fun p hp => I.len p ((List.mem_filter.mp hp).1), I.nd.sublist ((List.filter_sublist).map _)⟩
theorem mid_inv {specs : List (Int × List Int)} {rk : Int → Nat} {z n : Nat} {s : DSt} {e : Int × Int} (W : WfR specs rk) (I : Inv specs rk z s.1) (hn : rk e.1 ≤ n) : Inv specs rk (z + 1) (mid specs n s e) := by
 have L := look_ok (z := z) W n ⟨s.1, s.2, []⟩ e.1 hn I
 unfold mid
 split
 ·exact L.inv.app W _
 ·exact L.inv.up W
theorem fin_inv {specs : List (Int × List Int)} {rk : Int → Nat} {z n : Nat} {s : DSt} {e : Int × Int} (W : WfR specs rk) (I : Inv specs rk z s.1) (hn : rk e.1 ≤ n) : Inv specs rk (z + 1) (fin specs n s e) := by
 have M := mid_inv W I hn
 unfold fin
 split
 ·exact M.drop _
 ·exact M
theorem look_runs {specs : List (Int × List Int)} {rk : Int → Nat} {z n : Nat} {s : DSt} {sym : Int} (W : WfR specs rk) (I : Inv specs rk z s.1) (hn : rk sym ≤ n) (h5 : rk sym ≤ 5) : (lookF specs n ⟨s.1, s.2, []⟩ sym).2.runs.length ≤ 94 := by
 have L := look_ok (z := z) W n ⟨s.1, s.2, []⟩ sym hn I
 refine xEA (L.runs) fun rn e b => ?_
 rw [e]
 have : UB (rk sym) ≤ UB 5 := UB_mono h5
 have h5 : UB 5 = 94 := rfl
 simpa using (by (exact Nat.le_trans (by assumption) (by assumption)) : rn.length ≤ 94)
theorem look_err {specs : List (Int × List Int)} {rk : Int → Nat} {z : Nat} (W : WfR specs rk) {n : Nat} {s : GS} {sym b : Int} (hn : rk sym ≤ n) (I : Inv specs rk z s.kept) (h : (lookF specs n s sym).1 = .inl b) : look? (lookF specs n s sym).2.kept sym = none := by
 by_cases h1 : sym < 256
 ·rw [lookF_term h1] at h; cases h
 ·cases hk : look? s.kept sym with
  | some row => rw [lookF_kept h1 hk] at h; cases h
  | none =>
   cases hs : look? specs sym with
   | none => rw [lookF_none h1 hk hs]; exact hk
   | some parts =>
    cases n with
    | zero => have := W.key _ _ hs; lia
    | succ n =>
     rw [lookF_rule h1 hk hs] at h ⊢
     have k1 := W.key _ _ hs
     have P := parts_ok (z := z) (n := n) (r := rk sym - 1) W (by lia) (look_ok W n) parts { s with runs := s.runs ++ [sym] } [] (fun p hp => by have := (W.low _ _ hs p hp).2; lia) I
     refine xEA (P.add) fun add e ha => ?_
     have hno : look? (s.kept ++ add) sym = none := by
      (refine (Eq.symm (look?_app)) ▸ ?_; refine (Eq.symm (hk)) ▸ ?_)
      show look? add sym = none
      rw [look?_none]
      intro p hp q
      have := ha p hp
      rw [q] at this; omega
     cases hq : partsF (lookF specs n) { s with runs := s.runs ++ [sym] } parts [] with
     | mk a s' =>
      rw [hq] at h e
      cases a with
      | inl b' => dsimp only at e ⊢; rw [e]; exact hno
      | inr row => cases h
end
section
structure MS where
 kept : List (Int × List Int)
 fr : Bool
 todo : List Int
 told : List Int
 begun : List (Nat × Bool)
 runs : List Int
structure MOk (σ : MS) : Prop where
 todo : σ.todo.length ≤ 100000
 told : σ.told.length ≤ 100000
 begun : σ.begun.length ≤ 100000
 runs : σ.runs.length ≤ 100000
 kept : σ.kept.length ≤ 1000
 row : ∀ p ∈ σ.kept, p.2.length ≤ 100000
inductive Step (specs : List (Int × List Int)) : MS → MS → Prop
 | shutOpen {kept fr rest told begun runs sym st} : look? kept sym = none → 256 ≤ sym → Step specs ⟨kept, fr, -sym :: rest, told, begun ++ [(st, true)], runs⟩ ⟨kept ++ [(sym, told.drop st)], fr, rest, told, begun, runs⟩
 | shut {kept fr rest told begun runs sym st} : 256 ≤ sym → Step specs ⟨kept, fr, -sym :: rest, told, begun ++ [(st, false)], runs⟩ ⟨kept, fr, rest, told, begun, runs⟩
 | term {kept fr one rest told begun runs} : 0 ≤ one → one < 256 → Step specs ⟨kept, fr, one :: rest, told, begun, runs⟩ ⟨kept, fr || decide (one = 54), rest, told ++ [one], begun, runs⟩
 | kept {kept fr one rest told begun runs row} : 256 ≤ one → look? kept one = some row → Step specs ⟨kept, fr, one :: rest, told, begun, runs⟩ ⟨kept, fr, rest, told ++ row, begun, runs⟩
 | rule {kept fr one rest told begun runs parts} : 256 ≤ one → look? kept one = none → look? specs one = some parts →
   Step specs ⟨kept, fr, one :: rest, told, begun, runs⟩ ⟨kept, fr, parts ++ [-one] ++ rest, told, begun ++ [(told.length, !fr)], runs ++ [one]⟩
noncomputable abbrev MRes := (Int ⊕ List Int) × GS
inductive Runs (specs : List (Int × List Int)) : Nat → MS → MRes → Prop
 | fin {kept fr told begun runs} : MOk ⟨kept, fr, [], told, begun, runs⟩ → Runs specs 0 ⟨kept, fr, [], told, begun, runs⟩ (.inr told, ⟨kept, fr, runs⟩)
 | err {kept fr one rest told begun runs} : MOk ⟨kept, fr, one :: rest, told, begun, runs⟩ → 256 ≤ one → one < 100000 → look? kept one = none → look? specs one = none → Runs specs 1 ⟨kept, fr, one :: rest, told, begun, runs⟩ (.inl one, ⟨kept, fr, runs ++ [one]⟩)
 | step {σ σ' k x} : MOk σ → Step specs σ σ' → Runs specs k σ' x → Runs specs (k + 1) σ x
noncomputable def VB (r : Nat) : Nat := 4 ^ (r + 1)
theorem UB_VB : ∀ r, UB r ≤ VB r
 | 0 => by decide
 | r + 1 => by
  have := UB_VB r
  unfold VB at this ⊢
  rw [Nat.pow_succ]
  show 2 + 2 * UB r ≤ _
  have : 0 < 4 ^ (r + 1) := Nat.pow_pos (by decide)
  lia
theorem VB_mono {r r' : Nat} (h : r ≤ r') : VB r ≤ VB r' := Nat.pow_le_pow_right (by decide) (by (exact Nat.succ_le_succ (by assumption)))
theorem VB_pos (r : Nat) : 0 < VB r := Nat.pow_pos (by decide)
theorem VB_succ (r : Nat) : VB (r + 1) = 4 * VB r := by unfold VB; rw [Nat.pow_succ]; lia
theorem nodup_len {α : Type} [DecidableEq α] : ∀ {l m : List α}, l.Nodup → (∀ a ∈ l, a ∈ m) → l.length ≤ m.length
 | [], _, _, _ => Nat.zero_le _
 | a :: l, m, nd, h => by
  have hm := h a (.head _)
  rw [List.nodup_cons] at nd
  have := nodup_len (l := l) (m := m.erase a) nd.2 fun b hb =>
   (List.mem_erase_of_ne (fun e : b = a => nd.1 (e ▸ hb))).mpr (h b (.tail _ hb))
  rw [List.length_erase_of_mem hm] at this
  have hp := List.length_pos_of_mem hm
  rw [List.length_cons]; lia
theorem Inv.size {specs : List (Int × List Int)} {rk : Int → Nat} {z : Nat} {kept : List (Int × List Int)} (I : Inv specs rk z kept) : kept.length ≤ specs.length := by
 have := nodup_len (l := kept.map (·.1)) (m := specs.map (·.1)) I.nd fun a ha => by
  (refine xEA (List.mem_map.mp ha) fun p hp zq2 => ?_; subst zq2)
  have h := (I.key p hp).2
  cases e : look? specs p.1 with
  | none => rw [e] at h; cases h
  | some v => exact List.mem_map.mpr ⟨_, look?_mem e, rfl⟩
 simpa using this
structure Gd (specs : List (Int × List Int)) (rk : Int → Nat) (z : Nat) : Prop where
 W : WfR specs rk
 hz : TB z 5 ≤ 100000
 hb : ∀ k parts, look? specs k = some parts → ∀ p ∈ parts, p < 100000
structure Room (z r : Nat) (rest told : List Int) (begun : List (Nat × Bool)) (runs : List Int) : Prop where
 todo : rest.length + 27 * r + 1 ≤ 100000
 told : told.length + 3 * TB z r ≤ 100000
 begun : begun.length + r ≤ 100000
 runs : runs.length + VB r ≤ 100000
theorem row_le {specs : List (Int × List Int)} {rk : Int → Nat} {z : Nat} {kept : List (Int × List Int)} (D : Gd specs rk z) (I : Inv specs rk z kept) : ∀ p ∈ kept, p.2.length ≤ 100000 := fun p hp => by
 have h1 := I.len p hp
 have h2 := (I.key p hp).2
 cases e : look? specs p.1 with
 | none => rw [e] at h2; cases h2
 | some v =>
  have h3 := TB_mono z (D.W.key _ _ e).2.2
  have := D.hz; lia
noncomputable def Does (specs : List (Int × List Int)) (s : GS) (sym : Int) (rest told : List Int) (begun : List (Nat × Bool)) (y : MRes) : Prop := match y.1 with
 | .inr row => ∀ k x, Runs specs k ⟨y.2.kept, y.2.fr, rest, told ++ row, begun, y.2.runs⟩ x → ∃ k', Runs specs k' ⟨s.kept, s.fr, sym :: rest, told, begun, s.runs⟩ x
 | .inl _ => ∃ k', Runs specs k' ⟨s.kept, s.fr, sym :: rest, told, begun, s.runs⟩ y
noncomputable def DoesAll (specs : List (Int × List Int)) (s : GS) (ps rest told : List Int) (begun : List (Nat × Bool)) (acc : List Int) (y : MRes) : Prop := match y.1 with
 | .inr row => ∀ k x, Runs specs k ⟨y.2.kept, y.2.fr, rest, told ++ row, begun, y.2.runs⟩ x → ∃ k', Runs specs k' ⟨s.kept, s.fr, ps ++ rest, told ++ acc, begun, s.runs⟩ x
 | .inl _ => ∃ k', Runs specs k' ⟨s.kept, s.fr, ps ++ rest, told ++ acc, begun, s.runs⟩ y
theorem does_parts {specs : List (Int × List Int)} {rk : Int → Nat} {z n r : Nat} (D : Gd specs rk z) (hr : r ≤ n) (h5 : r ≤ 4)
  (ih : ∀ s sym rest told begun, rk sym ≤ n → 0 ≤ sym → sym < 100000 → Inv specs rk z s.kept → Room z (rk sym) rest told begun s.runs → Does specs s sym rest told begun (lookF specs n s sym)) :
  ∀ (ps : List Int) (s : GS) (acc rest told : List Int) (begun : List (Nat × Bool)), (∀ p ∈ ps, rk p ≤ r ∧ 0 ≤ p ∧ p < 100000) → Inv specs rk z s.kept →
   ps.length + rest.length + 27 * r + 1 ≤ 100000 → told.length + acc.length + ps.length + cnt specs ps * TB z r + 3 * TB z r ≤ 100000 → begun.length + r ≤ 100000 → s.runs.length + cnt specs ps * UB r + VB r ≤ 100000 →
   DoesAll specs s ps rest told begun acc (partsF (lookF specs n) s ps acc)
 | [], s, acc, rest, told, begun, _, _, _, _, _, _ => fun k x h => ⟨k, h⟩
 | p :: ps, s, acc, rest, told, begun, hp, I, b1, b2, b3, b4 => by
  refine xAA (hp p (.head _)) fun hp0 hp1 hp2 => ?_
  have hT := TB_mono z hp0
  have hV := VB_mono hp0
  have hcc := cnt_cons (specs := specs) (p := p) (ps := ps)
  rw [List.length_cons] at b1 b2
  rw [hcc, Nat.add_mul] at b2 b4
  have P1 := parts_ok (z := z) (n := n) (r := r) D.W hr (look_ok D.W n) [p] s [] (fun q hq => by rw [List.mem_singleton] at hq; subst hq; exact hp0) I
  have e1 : partsF (lookF specs n) s [p] [] = match lookF specs n s p with | (.inl b, s') => (Sum.inl b, s') | (.inr r, s') => (Sum.inr ([] ++ r), s') := rfl
  have D0 := ih s p (ps ++ rest) (told ++ acc) begun (by (exact Nat.le_trans (by assumption) (by assumption))) hp1 hp2 I ⟨by rw [List.length_append]; lia, by rw [List.length_append]; lia, by lia, by lia⟩
  have L := look_ok (z := z) D.W n s p (by (exact Nat.le_trans (by assumption) (by assumption))) I
  unfold DoesAll
  rw [partsF]
  cases hq : lookF specs n s p with
  | mk a s' =>
   rw [hq] at D0 L e1
   cases a with
   | inl b =>
    unfold Does at D0
    exact D0
   | inr row =>
    unfold Does at D0
    rw [e1] at P1
    have hc1 : cnt specs [p] = if (look? specs p).isSome then 1 else 0 := by rw [cnt_cons]; rfl
    refine xEA (P1.runs0 _ rfl) fun rn ern hrn => ?_
    have hrow := P1.row _ rfl
    rw [hc1] at hrn hrow
    simp only [List.nil_append, List.length_nil, List.length_singleton] at hrow
    dsimp only at ern
    have all := does_parts D hr h5 ih ps s' (acc ++ row) rest told begun (fun q m => hp q (.tail _ m)) L.inv (by lia) (by (refine (Eq.symm (List.length_append)) ▸ ?_); lia) b3 (by (refine (Eq.symm (ern)) ▸ ?_; refine (Eq.symm (List.length_append)) ▸ ?_); lia)
    unfold DoesAll at all
    dsimp only
    dsimp only at D0
    rw [List.append_assoc] at D0
    cases hy : (partsF (lookF specs n) s' ps (acc ++ row)).1 with
    | inl b =>
     rw [hy] at all
     obtain ⟨k, hk⟩ := all
     exact D0 k _ hk
    | inr row2 =>
     rw [hy] at all
     intro k x hx
     obtain ⟨k1, h1⟩ := all k x hx
     exact D0 k1 x h1
theorem does_look {specs : List (Int × List Int)} {rk : Int → Nat} {z : Nat} (D : Gd specs rk z) (hn5 : specs.length ≤ 1000) : ∀ (n : Nat) (s : GS) (sym : Int) (rest told : List Int) (begun : List (Nat × Bool)),
  rk sym ≤ n → 0 ≤ sym → sym < 100000 → Inv specs rk z s.kept → Room z (rk sym) rest told begun s.runs → Does specs s sym rest told begun (lookF specs n s sym) := by
 intro n
 induction n with
 | zero =>
  intro s sym rest told begun hr h0 h1 I R
  have ok : MOk ⟨s.kept, s.fr, sym :: rest, told, begun, s.runs⟩ := by
   have := R.todo; have := R.told; have := R.begun; have := R.runs; have := I.size; have := VB_pos (rk sym)
   exact ⟨by (refine (Eq.symm (List.length_cons)) ▸ ?_); (exact Nat.lt_of_le_of_lt (Nat.le_add_right _ _) (by assumption)), by dsimp only; (exact Nat.le_trans (Nat.le_add_right _ _) (by assumption)), by dsimp only; (exact Nat.le_trans (Nat.le_add_right _ _) (by assumption)), by dsimp only; (exact Nat.le_trans (Nat.le_add_right _ _) (by assumption)), by dsimp only; (exact Nat.le_trans (by assumption) (by assumption)), row_le D I⟩
  by_cases ht : sym < 256
  ·rw [lookF_term ht]
   exact fun k x hx => ⟨k + 1, .step ok (.term h0 ht) hx⟩
  ·cases hk : look? s.kept sym with
   | some row => rw [lookF_kept ht hk]; exact fun k x hx => ⟨k + 1, .step ok (.kept (by (exact Int.not_lt.mp (by assumption))) hk) hx⟩
   | none =>
    cases hs : look? specs sym with
    | none => rw [lookF_none ht hk hs]; exact ⟨1, .err ok (by (exact Int.not_lt.mp (by assumption))) h1 hk hs⟩
    | some parts => have := D.W.key _ _ hs; lia
 | succ n ih =>
  intro s sym rest told begun hr h0 h1 I R
  have ok : MOk ⟨s.kept, s.fr, sym :: rest, told, begun, s.runs⟩ := by
   have := R.todo; have := R.told; have := R.begun; have := R.runs; have := I.size; have := VB_pos (rk sym)
   exact ⟨by (refine (Eq.symm (List.length_cons)) ▸ ?_); (exact Nat.lt_of_le_of_lt (Nat.le_add_right _ _) (by assumption)), by dsimp only; (exact Nat.le_trans (Nat.le_add_right _ _) (by assumption)), by dsimp only; (exact Nat.le_trans (Nat.le_add_right _ _) (by assumption)), by dsimp only; (exact Nat.le_trans (Nat.le_add_right _ _) (by assumption)), by dsimp only; (exact Nat.le_trans (by assumption) (by assumption)), row_le D I⟩
  by_cases ht : sym < 256
  ·rw [lookF_term ht]
   exact fun k x hx => ⟨k + 1, .step ok (.term h0 ht) hx⟩
  ·cases hk : look? s.kept sym with
   | some row => rw [lookF_kept ht hk]; exact fun k x hx => ⟨k + 1, .step ok (.kept (by (exact Int.not_lt.mp (by assumption))) hk) hx⟩
   | none =>
    cases hs : look? specs sym with
    | none => rw [lookF_none ht hk hs]; exact ⟨1, .err ok (by (exact Int.not_lt.mp (by assumption))) h1 hk hs⟩
    | some parts =>
     refine xAA (D.W.key _ _ hs) fun w1 w2 w3 => ?_
     obtain ⟨w4, w5⟩ := D.W.len _ _ hs
     have w6 := D.W.low _ _ hs
     obtain ⟨r, hr'⟩ : ∃ r, rk sym = r + 1 := ⟨rk sym - 1, by lia⟩
     have hpr : ∀ p ∈ parts, rk p ≤ r ∧ 0 ≤ p ∧ p < 100000 := fun p hp => ⟨by have := (w6 p hp).2; lia, (w6 p hp).1, D.hb _ _ hs p hp⟩
     have uT : TB z (r + 1) = 26 + 2 * TB z r + z := rfl
     have hT5 : TB z (r + 1) ≤ TB z 5 := TB_mono z (by lia)
     have hz := D.hz
     have hc : cnt specs parts ≤ 2 := w5
     have hcU : cnt specs parts * UB r ≤ 2 * UB r := Nat.mul_le_mul_right _ hc
     have hcT : cnt specs parts * TB z r ≤ 2 * TB z r := Nat.mul_le_mul_right _ hc
     have hUV := UB_VB r
     have hVs := VB_succ r
     have hVp := VB_pos r
     have R1 := R.todo; have R2 := R.told; have R3 := R.begun; have R4 := R.runs
     rw [hr'] at R1 R2 R3 R4
     rw [hVs] at R4
     have P := parts_ok (z := z) (n := n) (r := r) D.W (by lia) (look_ok D.W n) parts { s with runs := s.runs ++ [sym] } [] (fun p hp => (hpr p hp).1) I
     have A := does_parts (z := z) (r := r) D (by lia) (by lia) ih parts { s with runs := s.runs ++ [sym] } [] (-sym :: rest) told (begun ++ [(told.length, !s.fr)]) hpr I
      (by rw [List.length_cons]; lia) (by (refine (Eq.symm (List.length_nil)) ▸ ?_); lia) (by (refine (Eq.symm (List.length_append)) ▸ ?_; refine (Eq.symm (List.length_singleton)) ▸ ?_); lia) (by dsimp only; (refine (Eq.symm (List.length_append)) ▸ ?_; refine (Eq.symm (List.length_singleton)) ▸ ?_); lia)
     rw [lookF_rule ht hk hs]
     have st : Step specs ⟨s.kept, s.fr, sym :: rest, told, begun, s.runs⟩ ⟨s.kept, s.fr, parts ++ [-sym] ++ rest, told, begun ++ [(told.length, !s.fr)], s.runs ++ [sym]⟩ := .rule (by assumption) hk hs
     have ea : parts ++ [-sym] ++ rest = parts ++ -sym :: rest := by simp
     rw [ea] at st
     refine xEA (P.add) fun add eadd hadd => ?_
     refine xEA (P.runs) fun rn ern hrn => ?_
     have Pi := P.inv
     have Pr := P.row
     unfold DoesAll at A
     cases hq : partsF (lookF specs n) { s with runs := s.runs ++ [sym] } parts [] with
     | mk a s' =>
     rw [hq] at A eadd ern Pi Pr
     cases a with
     | inl b =>
      obtain ⟨k, hk'⟩ := A
      rw [List.append_nil] at hk'
      exact ⟨k + 1, .step ok st hk'⟩
     | inr row =>
      dsimp only at A eadd ern Pi Pr
      rw [List.append_nil] at A
      have hrow := Pr row rfl
      rw [List.length_nil] at hrow
      have hno : look? s'.kept sym = none := by
       (refine (Eq.symm (eadd)) ▸ ?_; refine (Eq.symm (look?_app)) ▸ ?_; refine (Eq.symm (hk)) ▸ ?_)
       show look? add sym = none
       rw [look?_none]
       intro p hp q
       have := hadd p hp
       rw [q] at this; lia
      have ok2 : MOk ⟨s'.kept, s'.fr, -sym :: rest, told ++ row, begun ++ [(told.length, !s.fr)], s'.runs⟩ := by
       have h1 := Pi.size
       refine ⟨by (refine (Eq.symm (List.length_cons)) ▸ ?_); (exact Nat.lt_of_le_of_lt (Nat.le_add_right _ _) (by assumption)), by dsimp only; rw [List.length_append]; lia, by dsimp only; rw [List.length_append, List.length_singleton]; (exact Nat.lt_of_le_of_lt (Nat.le_add_right _ _) (by assumption)), ?_, by dsimp only; (exact Nat.le_trans (by assumption) (by assumption)), row_le D Pi⟩
       dsimp only
       (refine (Eq.symm (ern)) ▸ ?_; refine (Eq.symm (List.length_append)) ▸ ?_; refine (Eq.symm (List.length_append)) ▸ ?_; refine (Eq.symm (List.length_singleton)) ▸ ?_); lia
      intro k x hx
      by_cases hf : s.fr = true
      ·rw [hf] at st A ok2
       dsimp only at hx
       rw [if_pos hf] at hx
       obtain ⟨k1, h1⟩ := A (k + 1) x (.step ok2 (.shut (by assumption)) hx)
       (refine (Eq.symm (hf)) ▸ ?_)
       exact ⟨k1 + 1, .step (by (refine (hf) ▸ ?_); exact ok) st h1⟩
      ·have hf' : s.fr = false := by simpa using hf
       rw [hf'] at st A ok2
       dsimp only at hx
       rw [if_neg hf] at hx
       have so := Step.shutOpen (specs := specs) (kept := s'.kept) (fr := s'.fr) (rest := rest) (told := told ++ row) (begun := begun) (runs := s'.runs) (sym := sym) (st := told.length) hno (by assumption)
       rw [List.drop_left] at so
       obtain ⟨k1, h1⟩ := A (k + 1) x (.step ok2 so hx)
       (refine (Eq.symm (hf')) ▸ ?_)
       exact ⟨k1 + 1, .step (by (refine (hf') ▸ ?_); exact ok) st h1⟩
theorem does_deed {specs : List (Int × List Int)} {rk : Int → Nat} {z : Nat} (D : Gd specs rk z) (hn5 : specs.length ≤ 1000) {s : DSt} {sym : Int} (hr : rk sym ≤ 5) (h0 : 0 ≤ sym) (h1 : sym < 100000) (I : Inv specs rk z s.1) (hz : 3 * TB z 5 ≤ 100000) :
  ∃ k, Runs specs k ⟨s.1, s.2, [sym], [], [], []⟩ (lookF specs 5 ⟨s.1, s.2, []⟩ sym) := by
 have hV := VB_mono hr
 have h5 : VB 5 = 4096 := rfl
 have hT := TB_mono z hr
 have L := look_ok (z := z) D.W 5 ⟨s.1, s.2, []⟩ sym hr I
 have X := does_look D hn5 5 ⟨s.1, s.2, []⟩ sym [] [] [] hr h0 h1 I ⟨by rw [List.length_nil]; lia, by rw [List.length_nil]; lia, by rw [List.length_nil]; lia, by (refine (Eq.symm (List.length_nil)) ▸ ?_); lia⟩
 unfold Does at X
 cases hq : lookF specs 5 ⟨s.1, s.2, []⟩ sym with
 | mk a s' =>
  rw [hq] at X L
  cases a with
  | inl b => exact X
  | inr row =>
   dsimp only at X
   have h2 := L.inv.size
   have h3 := L.row row rfl
   refine xEA (L.runs) fun rn er hrn => ?_
   have hU := UB_mono hr
   have hU5 : UB 5 = 94 := rfl
   rw [List.nil_append] at X er
   dsimp only at er h2
   exact X 0 _ (.fin ⟨Nat.zero_le _, by dsimp only; lia, Nat.zero_le _, by dsimp only; rw [er]; lia, by dsimp only; (exact Nat.le_trans (by assumption) (by assumption)), row_le D L.inv⟩)
end
section
noncomputable def findDef (nm : Str) : List Stmt → Option (Arguments × List Stmt × Scope)
 | [] => none
 | .FunctionDef n args body _ _ _ scope _ _ _ :: r => if n == nm then some (args, body, scope) else findDef nm r
 | _ :: r => findDef nm r
noncomputable def lookD : { p : Arguments × List Stmt × Scope // ((findDef "_law_grown" PP.main.body).bind fun q => findDef "_law_look" q.2.1) = some p } := ⟨_, rfl⟩
noncomputable def growD : { p : Arguments × List Stmt × Scope // ((findDef "_law_grown" PP.main.body).bind fun q => findDef "_law_grow" q.2.1) = some p } := ⟨_, rfl⟩
noncomputable abbrev lkPar : Arguments := lookD.1.1
noncomputable abbrev lkBody : List Stmt := lookD.1.2.1
noncomputable abbrev lkSc : Scope := lookD.1.2.2
noncomputable abbrev gwPar : Arguments := growD.1.1
noncomputable abbrev gwBody : List Stmt := growD.1.2.1
noncomputable abbrev gwSc : Scope := growD.1.2.2
noncomputable abbrev lkQ : Str := ("_law_grown" : Str) ++ ".<locals>." ++ "_law_look"
noncomputable abbrev gwQ : Str := ("_law_grown" : Str) ++ ".<locals>." ++ "_law_grow"
section
variable {w : World} {A : Around} {E : Value → Shared → Prop} {env : Env} {h₀ h : Heap} {g : Array GenState} {d : Drawn} {t : Nat} {os : OsState} {K : Led} {mg mb : Str → Option Value}
theorem call_N {R : Result → Shared → Prop} {f c' : Addr} {name qual : Str} {params : Arguments} {body : List Stmt} {scope : Scope} {cl : List (Str × Addr)} {doc pm ctv : Value} {args : Args} {binds : List (Str × Value)}
  (C : Cx w mg mb h₀) (S : St h₀ K h) (mo : (f, exP (fnMade name qual params body scope cl doc pm c' ctv)) ∈ K) (mc : (c', codP qual) ∈ K) (hroom : A.depth < recursionLimit)
  (hbind : ∀ t, BindsTo ⟨h, g, d, t, os⟩ (fnX name qual params body scope cl .none .none doc pm none (.ref c') ctv) args binds)
  (hcell : ∀ x ∈ scope.names, x.2 ≠ .cell) (hloc : (binds.all fun x => decide (scope.names.lookup x.1 = some .local)) = true) (hnd : (binds.map (·.1)).Nodup)
  (hco : scope.isCoroutine = false) (hgen : scope.isGenerator = false) (hk : scope.kind = .function)
  (k : ∀ L h₁, St h₀ ((L, nsP binds) :: K) h₁ → wpAny (model PP w) (A.deeper (envX qual scope L f (.ref c') cl)) (execs body (envX qual scope L f (.ref c') cl)) (fun fl s' => R (.ok (.ret (retV fl))) s')
    (fun e s' => wpAny (model PP w) (A.deeper (envX qual scope L f (.ref c') cl)) (leaving (envX qual scope L f (.ref c') cl) e) (fun _ s'' => R (.error e) s'') (fun e' s'' => R (.error e') s'') s') ⟨h₁, g, d, t + binds.length, os⟩) :
  codeAny (model PP w) A (.call (.ref f) args) R ⟨h, g, d, t, os⟩ := by
 (refine xEA (S.get mo) fun o ho zq2 => ?_; subst zq2)
 exact call_X S C.lim hroom ho rfl (S.codeRec mc) hbind hcell (locs hloc) hnd hco hgen hk fun L h₁ S₁ _ => k L h₁ S₁
end
theorem gsz : gwSc.kind = .function := rfl
theorem gsz2 : ∀ x ∈ gwSc.names, x.2 ≠ .cell := by dsimp only [gwSc, growD]; decide
end
section
structure Bk where
 x : Addr
 dx : Addr
 wa : Addr
 ra : Addr
 gr : Addr
 lk : Addr
 ru : Addr
 cb : Addr
 cw : Addr
 cr : Addr
 cl : Addr
 cu : Addr
 lc : Addr
 gc : Addr
 cz : Addr
 ld : Value
 lt : Value
 gd : Value
 gt : Value
noncomputable abbrev lkObj (mg : Str → Option Value) (B : Bk) : Obj := fnMade "_law_look" lkQ lkPar lkBody lkSc [("waiting", B.cw), ("book", B.cb)] B.ld (pmV mg) B.lc B.lt
noncomputable abbrev gwObj (mg : Str → Option Value) (B : Bk) : Obj := fnMade "_law_grow" gwQ gwPar gwBody gwSc [("waiting", B.cw), ("runs", B.cr), ("rules", B.cu), ("_law_look", B.cl)] B.gd (pmV mg) B.gc B.gt
noncomputable abbrev Kp := List (Int × Addr × List Int)
noncomputable def kvOf (p : Int × Addr × List Int) : Int × Value := (p.1, .ref p.2.1)
noncomputable def enOf (p : Int × Addr × List Int) : Addr × Pr := (p.2.1, lsR isI p.2.2)
noncomputable def krOf (p : Int × Addr × List Int) : Int × List Int := (p.1, p.2.2)
noncomputable def GL (w : World) (B : Bk) (kp : Kp) (lz : Option Value) (W rs : List Int) (N : Led) : Led :=
 (B.x, dP (intKind PP w) (.ref 108) (some B.dx) #[some (.ref B.gr)] (kp.map kvOf)) :: (B.dx, fzP lz) :: (B.wa, lsR isI W) :: (B.ra, lsR isI rs) :: (kp.map enOf ++ N)
structure GFix (w : World) (mg : Str → Option Value) (B : Bk) (kvsR : List (Int × Value)) (specs : List (Int × List Int)) (N : Led) : Prop where
 hx : 108 < B.x
 hru : 108 < B.ru
 book : (B.cb, cellP (some (.ref B.x))) ∈ N
 wait : (B.cw, cellP (some (.ref B.wa))) ∈ N
 runs : (B.cr, cellP (some (.ref B.ra))) ∈ N
 look : (B.cl, cellP (some (.ref B.lk))) ∈ N
 rules : (B.cu, cellP (some (.ref B.ru))) ∈ N
 lkO : (B.lk, exP (lkObj mg B)) ∈ N
 lkC : (B.lc, codP lkQ) ∈ N
 grO : (B.gr, exP (gwObj mg B)) ∈ N
 grC : (B.gc, codP gwQ) ∈ N
 ruD : (B.ru, dP (intKind PP w) (.type "dict") none #[] kvsR) ∈ N
 ruL : rulesK kvsR N specs
 fz : (100, exP (fzTab B.cz)) ∈ N
 czC : (B.cz, codP lzQ) ∈ N
theorem GFix.mono {w : World} {mg : Str → Option Value} {B : Bk} {kvsR : List (Int × Value)} {specs : List (Int × List Int)} {N N' : Led} (F : GFix w mg B kvsR specs N) (m : ∀ p ∈ N, p ∈ N') : GFix w mg B kvsR specs N' :=
 ⟨F.hx, F.hru, m _ F.book, m _ F.wait, m _ F.runs, m _ F.look, m _ F.rules, m _ F.lkO, m _ F.lkC, m _ F.grO, m _ F.grC, m _ F.ruD, (rulesK_mono (fun _ e => m _ e) F.ruL), m _ F.fz, m _ F.czC⟩
noncomputable def FrOk (mg : Str → Option Value) (B : Bk) (N : Led) (fr : Bool) (lz : Option Value) : Prop := match fr with
 | true => ∃ l c ct, lz = some (.ref l) ∧ (l, exP (lzObj mg c B.cz ct)) ∈ N ∧ (c, cellP (some (.ref B.x))) ∈ N
 | false => lz = none
theorem FrOk.mono {mg : Str → Option Value} {B : Bk} {N N' : Led} {fr : Bool} {lz : Option Value} (x : FrOk mg B N fr lz) (m : ∀ p ∈ N, p ∈ N') : FrOk mg B N' fr lz := by
 cases fr with
 | false => exact x
 | true => (revert x; intro zh; refine xEEEAA zh fun l c ct a b e => ?_; clear zh); exact ⟨l, c, ct, a, m _ b, m _ e⟩
noncomputable def FrN (mg : Str → Option Value) (B : Bk) (N1 : Led) (fr : Bool) (lz : Option Value) (fr' : Bool) (lz' : Option Value) : Prop :=
 (fr' = fr ∧ lz' = lz) ∨ (fr' = true ∧ ∃ l c ct, lz' = some (.ref l) ∧ (l, exP (lzObj mg c B.cz ct)) ∈ N1 ∧ (c, cellP (some (.ref B.x))) ∈ N1)
theorem FrN.ok {mg : Str → Option Value} {B : Bk} {N N1 : Led} {fr fr' : Bool} {lz lz' : Option Value} (x : FrN mg B N1 fr lz fr' lz') (f : FrOk mg B N fr lz) : FrOk mg B (N1 ++ N) fr' lz' := by
 rcases x with ⟨rfl, rfl⟩ | ⟨rfl, l, c, ct, a, b, e⟩
 ·exact f.mono fun p hp => List.mem_append_right _ hp
 ·exact ⟨l, c, ct, a, List.mem_append_left _ b, List.mem_append_left _ e⟩
theorem FrN.trans {mg : Str → Option Value} {B : Bk} {N1 N2 : Led} {f0 f1 f2 : Bool} {l0 l1 l2 : Option Value} (x : FrN mg B N1 f0 l0 f1 l1) (y : FrN mg B N2 f1 l1 f2 l2) : FrN mg B (N2 ++ N1) f0 l0 f2 l2 := by
 rcases y with ⟨rfl, rfl⟩ | ⟨rfl, l, c, ct, a, b, e⟩
 ·rcases x with ⟨rfl, rfl⟩ | ⟨rfl, l, c, ct, a, b, e⟩
  ·exact .inl ⟨rfl, rfl⟩
  ·exact .inr ⟨rfl, l, c, ct, a, List.mem_append_right _ b, List.mem_append_right _ e⟩
 ·exact .inr ⟨rfl, l, c, ct, a, List.mem_append_left _ b, List.mem_append_left _ e⟩
section
variable {w : World} {B : Bk} {kp : Kp} {lz : Option Value} {W rs : List Int} {N : Led} {p : Addr × Pr}
theorem GL.n (m : p ∈ N) : p ∈ GL w B kp lz W rs N := .tail _ (.tail _ (.tail _ (.tail _ (List.mem_append_right _ m))))
theorem GL.k {q : Int × Addr × List Int} (m : q ∈ kp) : enOf q ∈ GL w B kp lz W rs N := .tail _ (.tail _ (.tail _ (.tail _ (List.mem_append_left _ (List.mem_map_of_mem m)))))
theorem GL.in (p : Addr × Pr) : (GL w B kp lz W rs (p :: N)).Perm (p :: GL w B kp lz W rs N) := by
 unfold GL
 have h : (kp.map enOf ++ p :: N).Perm (p :: (kp.map enOf ++ N)) := List.perm_middle
 have h1 := (((h.cons (B.ra, lsR isI rs)).cons (B.wa, lsR isI W)).cons (B.dx, fzP lz)).cons (B.x, dP (intKind PP w) (.ref 108) (some B.dx) #[some (.ref B.gr)] (kp.map kvOf))
 refine h1.trans ?_
 exact List.perm_middle (l₁ := [(B.x, dP (intKind PP w) (.ref 108) (some B.dx) #[some (.ref B.gr)] (kp.map kvOf)), (B.dx, fzP lz), (B.wa, lsR isI W), (B.ra, lsR isI rs)])
theorem GL.inApp (N1 : Led) (p : Addr × Pr) : (GL w B kp lz W rs (N1 ++ p :: N)).Perm (p :: GL w B kp lz W rs (N1 ++ N)) := by
 have h : (N1 ++ p :: N).Perm (p :: (N1 ++ N)) := List.perm_middle
 unfold GL
 have h2 := (((((h.append_left (kp.map enOf)).cons (B.ra, lsR isI rs)).cons (B.wa, lsR isI W)).cons (B.dx, fzP lz)).cons (B.x, dP (intKind PP w) (.ref 108) (some B.dx) #[some (.ref B.gr)] (kp.map kvOf)))
 exact h2.trans (GL.in p)
end
theorem kp_none {kp : Kp} {k : Int} : valueAt (kp.map kvOf) k = none ↔ look? (kp.map krOf) k = none := by
 rw [look?_none]
 unfold valueAt
 rw [Option.map_eq_none_iff, List.find?_eq_none]
 simp only [List.mem_map, forall_exists_index, and_imp, forall_apply_eq_imp_iff₂, decide_eq_true_eq]
 exact Iff.rfl
theorem kp_some {kp : Kp} {k : Int} {v : Value} (h : valueAt (kp.map kvOf) k = some v) : ∃ a row, v = .ref a ∧ (k, a, row) ∈ kp ∧ look? (kp.map krOf) k = some row := by
 induction kp with
 | nil => cases h
 | cons p kp ih =>
  unfold valueAt at h
  unfold look?
  rw [List.map_cons, List.find?_cons] at h ⊢
  by_cases e : p.1 = k
  ·rw [show (decide ((kvOf p).1 = k)) = true from decide_eq_true e] at h
   (refine (Eq.symm (show (decide ((krOf p).1 = k)) = true from decide_eq_true e)) ▸ ?_)
   cases h
   exact ⟨p.2.1, p.2.2, rfl, e ▸ .head _, rfl⟩
  ·rw [show (decide ((kvOf p).1 = k)) = false from decide_eq_false e] at h
   (refine (Eq.symm (show (decide ((krOf p).1 = k)) = false from decide_eq_false e)) ▸ ?_)
   refine xEEAA (ih h) fun a row e1 m e2 => ?_
   exact ⟨a, row, e1, .tail _ m, e2⟩
theorem ru_get {kvsR : List (Int × Value)} {specs : List (Int × List Int)} {N : Led} (h : rulesK kvsR N specs) (k : Int) :
  (look? specs k = none → valueAt kvsR k = none) ∧ (∀ parts, look? specs k = some parts → ∃ a, valueAt kvsR k = some (.ref a) ∧ (a, lsR isI parts) ∈ N) := by
 unfold rulesK at h
 induction h with
 | nil => exact ⟨fun _ => rfl, fun parts h => by cases h⟩
 | @cons kv s as bs r _ ih =>
  (revert r; intro zh; refine xAEA zh fun e a e2 m => ?_; clear zh)
  unfold look? valueAt
  (refine (Eq.symm (List.find?_cons)) ▸ ?_; refine (Eq.symm (List.find?_cons)) ▸ ?_; refine (Eq.symm (e)) ▸ ?_)
  by_cases hk : s.1 = k
  ·(refine (Eq.symm (decide_eq_true hk)) ▸ ?_)
   exact ⟨fun h => by simp at h, fun parts h => by simp at h; subst h; exact ⟨a, by simp [e2], m⟩⟩
  ·(refine (Eq.symm (decide_eq_false hk)) ▸ ?_)
   exact ih
noncomputable def noLine (b : Int) : Str := Str.ofString "no line for " ++ Str.ofString (toString b)
section
variable {w : World} {A : Around} {E : Value → Shared → Prop} {env : Env} {h₀ h : Heap} {g : Array GenState} {d : Drawn} {t : Nat} {os : OsState} {K : Led} {mg mb : Str → Option Value}
theorem ex_ns {K : Frag} {a : Addr} {n : Str} {v : Value} {P : Value → Prop} (h : nsIn K a n = some (some v)) (p : P v) : ∃ v, nsIn K a n = some (some v) ∧ P v := ⟨v, h, p⟩
theorem nt_off (C : Cx w mg mb h₀) : ∃ u, mg "NT_OFFSET" = some (.int 256 u) := by
 have h : ∃ v, nsIn (hd.heap_1 w.params) mainGlobals "NT_OFFSET" = some (some v) ∧ ∃ u, v = .int 256 u := by
  refine' ex_ns (P := fun v => ∃ u, v = .int 256 u) ?h ?p
  case h => k_is
  case p => exact ⟨_, rfl⟩
 (revert h; intro zh; refine xEAE zh fun zu0 e u zq3 => ?_; clear zh; subst zq3)
 exact ⟨u, mg_of C.X C.G e⟩
theorem f216 (w : World) : ∃ o, (hd.heap_1 w.params).lookup 216 = some o ∧ ∃ fd, o.data = .func fd := by
 refine' ex_look (P := fun o => ∃ fd, o.data = .func fd) ?hh ?pf
 case hh => k_is
 case pf => exact ⟨_, rfl⟩
theorem ist_call {R : Result → Shared → Prop} {n : Int} {u : Tok} (C : Cx w mg mb h₀) (S : St h₀ K h) (hroom : A.depth < recursionLimit) (q : ∀ h' t', St h₀ K h' → R (.ok (.ret (.bool (decide (n < 256))))) ⟨h', g, d, t', os⟩) :
  codeAny (model PP w) A (.call (.ref 216) ⟨[.int n u], []⟩) R ⟨h, g, d, t, os⟩ := by
 refine' call_T (binds := [("x", .int n u)]) C S ?hroom ?ho ?hcd (fun t => BindsTo.of_eq ?hbind) ?hcell ?hloc ?hnd ?h1 ?h2 ?h3 ?k
 case ho => k_is
 case hcd => k_is
 case hbind => exact rfl
 case hroom => assumption
 case hcell => decide
 case hloc => exact rfl
 case hnd => simp only [List.map_cons, List.map_nil]; decide
 case h1 => rfl
 case h2 => rfl
 case h3 => rfl
 intro L h₁ S₁
 dsimp only [List.length_cons, List.length_nil]
 obtain ⟨v, hv⟩ := nt_off C
 (with_reducible refine k_execs_cons ?_); (with_reducible refine k_Return_some ?_); refine k_Compare1 ?_; refine name_L (by assumption) (by exact rfl) (mH) (mH) ?_
 refine name_G C S₁ hv ?_
 (with_reducible refine lt_ii ?_)
 exact q _ _ S₁.dropHead
end
end
section
section
variable (w : World) (mg : Str → Option Value) (h₀ : Heap) (g : Array GenState) (d : Drawn) (os : OsState) (B : Bk)
noncomputable def ErrOut (kp : Kp) (fr : Bool) (lz : Option Value) (R0 W : List Int) (N : Led) (l : List Env) (m : Nat) (b : Int) (s' : GS) (R : Result → Shared → Prop) : Prop :=
 ∀ add lz' W' N1 e tk h' t', (kp ++ add).map krOf = s'.kept → FrN mg B N1 fr lz s'.fr lz' → W'.length ≤ m →
  Rz h₀ (GL w B (kp ++ add) lz' (W ++ W') (R0 ++ s'.runs) (N1 ++ N)) l (.type "ValueError") e [.str (noLine b) tk] h' → R (.error (.ref e)) ⟨h', g, d, t', os⟩
noncomputable def GrOut (kp : Kp) (fr : Bool) (lz : Option Value) (R0 W : List Int) (N : Led) (l : List Env) (m : Nat) (x : (Int ⊕ List Int) × GS) (R : Result → Shared → Prop) : Prop := match x.1 with
 | .inr row => ∀ add lz' a N1 h' t', (kp ++ add).map krOf = x.2.kept → FrN mg B N1 fr lz x.2.fr lz' → St h₀ (GL w B (kp ++ add) lz' W (R0 ++ x.2.runs) ((a, lsR isI row) :: (N1 ++ N))) h' → R (.ok (.ret (.ref a))) ⟨h', g, d, t', os⟩
 | .inl b => ErrOut w mg h₀ g d os B kp fr lz R0 W N l m b x.2 R
noncomputable def LkOut (kp : Kp) (fr : Bool) (lz : Option Value) (R0 W : List Int) (N : Led) (l : List Env) (m : Nat) (sym : Int) (x : (Int ⊕ List Int) × GS) (R : Result → Shared → Prop) : Prop := match x.1 with
 | .inr row => ∀ add lz' a N1 h' t', (kp ++ add).map krOf = x.2.kept → FrN mg B N1 fr lz x.2.fr lz' → ((sym, a, row) ∈ kp ++ add ∨ ((∃ N2, N1 = (a, lsR isI row) :: N2 ∧ FrN mg B N2 fr lz x.2.fr lz') ∧ look? x.2.kept sym = none)) →
   St h₀ (GL w B (kp ++ add) lz' W (R0 ++ x.2.runs) (N1 ++ N)) h' → R (.ok (.ret (.ref a))) ⟨h', g, d, t', os⟩
 | .inl b => ErrOut w mg h₀ g d os B kp fr lz R0 W N l m b x.2 R
noncomputable def LookC (kvsR : List (Int × Value)) (specs : List (Int × List Int)) (rk : Int → Nat) (z n : Nat) : Prop :=
 ∀ {A : Around} {R : Result → Shared → Prop} {sym : Int} {u : Tok} {kp : Kp} {fr : Bool} {rs R0 W : List Int} {N : Led} {h : Heap} {t : Nat} {l : List Env} {lz : Option Value},
  Sk A l N → A.depth + 4 * n + 16 < recursionLimit → A.handled = none → rk sym ≤ n → sym < 100000 → Inv specs rk z (kp.map krOf) → R0.length + rs.length + VB (rk sym) ≤ 100000 → W.length + n + 1 ≤ 100000 →
  FrOk mg B N fr lz → GFix w mg B kvsR specs N → St h₀ (GL w B kp lz W (R0 ++ rs) N) h →
  LkOut w mg h₀ g d os B kp fr lz R0 W N l (n + 1) sym (lookF specs n ⟨kp.map krOf, fr, rs⟩ sym) R → codeAny (model PP w) A (.call (.ref B.lk) ⟨[.int sym u], []⟩) R ⟨h, g, d, t, os⟩
end
noncomputable def growF (specs : List (Int × List Int)) (n : Nat) (s : GS) (sym : Int) : (Int ⊕ List Int) × GS := match look? specs sym with
 | none => (.inl sym, { s with runs := s.runs ++ [sym] })
 | some parts => partsF (lookF specs n) { s with runs := s.runs ++ [sym] } parts []
theorem take_split {α : Type} {l : List α} {i : Nat} {x : α} (h : l[i]? = some x) : l = l.take i ++ x :: l.drop (i + 1) := by
 have hlt := (List.getElem?_eq_some_iff.mp h).1
 have e := (List.getElem?_eq_some_iff.mp h).2
 (refine (e) ▸ ?_; rewrite [List.getElem_cons_drop, List.take_append_drop]; try with_reducible rfl)
theorem parts_err {f : GS → Int → (Int ⊕ List Int) × GS} {s0 s' s'' : GS} {ps : List Int} {i : Nat} {p b : Int} {acc : List Int} (h : partsF f s0 (ps.take i) [] = (.inr acc, s')) (hp : ps[i]? = some p) (hf : f s' p = (.inl b, s'')) :
  partsF f s0 ps [] = (.inl b, s'') := by
 (refine (Eq.symm (take_split hp)) ▸ ?_; rewrite [partsF_app]; refine (Eq.symm (h)) ▸ ?_; try with_reducible rfl)
 show partsF f s' (p :: ps.drop (i + 1)) acc = _
 rw [partsF, hf]
theorem cnt_take {specs : List (Int × List Int)} (ps : List Int) (i : Nat) : cnt specs (ps.take i) ≤ cnt specs ps := by
 unfold cnt
 exact ((List.take_sublist i ps).filter _).length_le
theorem fuel_log {a : Int} (h : a < 100000) (h0 : 0 ≤ a) : a.natAbs.log2 < 1920 := by
 have h1 : a.natAbs < 2 ^ 17 := by lia
 by_cases hz : a.natAbs = 0
 ·rw [hz]; decide
 ·have := (Nat.log2_lt hz).mpr h1; (exact Nat.le_trans (by assumption) (by decide))
section
variable {w : World} {A : Around} {E : Value → Shared → Prop} {env : Env} {h₀ h : Heap} {g : Array GenState} {d : Drawn} {t : Nat} {os : OsState} {K : Led} {mg mb : Str → Option Value}
 {B : Bk} {kvsR : List (Int × Value)} {specs : List (Int × List Int)} {rk : Int → Nat} {z m M : Nat} {R : Result → Shared → Prop} {sym : Int} {kp : Kp} {fr : Bool} {rs R0 W : List Int} {N : Led} {l : List Env} {lz : Option Value}
theorem grow_call (C : Cx w mg mb h₀) (D : Gd specs rk z) (ih : ∀ parts, look? specs sym = some parts → LookC w mg h₀ g d os B kvsR specs rk z m ∧ rk sym ≤ m + 1 ∧ A.depth + 4 * m + 17 < recursionLimit ∧ W.length + m + 2 ≤ 100000 ∧ m + 1 ≤ M)
  (hsk : Sk A l N) (hdep : A.depth + 3 < recursionLimit) (hh : A.handled = none) (hs0 : 0 ≤ sym) (hs1 : sym < 100000) (I : Inv specs rk z (kp.map krOf)) (hR : R0.length + rs.length + VB (rk sym) ≤ 100000) (hW : W.length ≤ 100000)
  (fo : FrOk mg B N fr lz) (F : GFix w mg B kvsR specs N) (S : St h₀ (GL w B kp lz (W ++ [sym]) (R0 ++ rs) N) h)
  (q : GrOut w mg h₀ g d os B kp fr lz R0 (W ++ [sym]) N l M (growF specs m ⟨kp.map krOf, fr, rs⟩ sym) R) :
  codeAny (model PP w) A (.call (.ref B.gr) ⟨[], []⟩) R ⟨h, g, d, t, os⟩ := by
 have hVp := VB_pos (rk sym)
 refine' call_N (binds := []) (scope := gwSc) C S (GL.n F.grO) (GL.n F.grC) ?hroom (fun t => BindsTo.of_eq ?hbind) ?hcell ?hloc ?hnd ?h1 ?h2 ?h3 ?k
 case hbind => exact rfl
 case hroom => (exact Nat.lt_of_le_of_lt (Nat.le_add_right _ _) (by assumption))
 case hcell => dsimp only [gwSc, growD]; decide
 case hloc => rfl
 case hnd => exact List.nodup_nil
 case h1 => rfl
 case h2 => rfl
 case h3 => rfl
 intro L h₁ S₁
 dsimp only [gwBody, growD]
 dsimp only [List.length_nil]
 have hsk' : ∀ b (K : Led), (L, nsP b) ∈ K → (∀ p ∈ N, p ∈ K) → Sk (A.deeper (envX gwQ gwSc L B.gr (.ref B.gc) [("waiting", B.cw), ("runs", B.cr), ("rules", B.cu), ("_law_look", B.cl)])) (envX gwQ gwSc L B.gr (.ref B.gc) [("waiting", B.cw), ("runs", B.cr), ("rules", B.cu), ("_law_look", B.cl)] :: l) K :=
  fun b K hm hs => (hsk.mono hs).push (by show gwSc.kind ≠ _; rw [gsz]; decide) rfl hm
 refine k_execs_cons ?_
 refine Assign_Tuple_swapped ?_
 refine k_Tuple ?_
 refine k_items_cons ?_
 refine k_Subscript ?_
 refine name_F S₁ (by exact rfl) (.tail _ (GL.n F.wait)) ?_
 refine e_neg (c_int (neg_ii ?_))
 refine lr_last S₁ (.tail _ (.tail _ (.tail _ (.head _)))) (fun v hv => ?_) (by (exact Nat.lt_of_le_of_lt (by assumption) (by decide)))
 obtain ⟨tv, rfl⟩ := hv
 refine k_items_cons ?_
 refine List_ ?_
 refine wpAny_items_nil ?_
 refine n_list S₁ fun rw h₂ S₂ => ?_
 refine wpAny_items_nil ?_
 refine n_tup S₂ fun tp h₃ S₃ => ?_
 refine up_T hh S₃ (.head _) rfl fun h₄ S₄ => ?_
 refine assignInOrder_cons ?_
 refine bn_L S₄ (by exact rfl) (.tail (.tail .head)) (.new rfl) fun h₅ S₅ => ?_
 refine assignInOrder_cons ?_
 refine bn_L S₅ (by exact rfl) (.tail (.tail .head)) (.new (by simp only [List.map_cons, List.map_nil]; decide)) fun h₆ S₆ => ?_
 refine assignInOrder_nil ?_
 have S₇ : St h₀ ((rw, lsR isI []) :: (L, nsP [("symbol", .int sym tv), ("row", .ref rw)]) :: GL w B kp lz (W ++ [sym]) (R0 ++ rs) N) h₆ := S₆.wk (.drop (.keep lsR_nil .refl))
 clear S₁ S₂ S₃ S₄ S₅ S₆
 try dsimp only
 refine k_execs_cons ?_
 refine k_Expr_any ?_
 refine k_MethodCall ?_
 refine name_F S₇ (by exact rfl) (.tail _ (.tail _ (GL.n F.runs))) ?_
 refine gm_listR (R := isI) (xs := R0 ++ rs) PySem.F.slot_list_append PySem.F.type_list_append S₇ (.tail _ (.tail _ (.tail _ (.tail _ (.tail _ (.head _)))))) ?_
 refine cw_B ?_
 refine k_items_cons ?_
 refine name_L S₇ (by exact rfl) (.tail _ (.head _)) (.head _) ?_
 refine wpAny_items_nil ?_
 refine lr_append (y := sym) S₇ (.tail (.tail (.tail (.tail (.tail .head))))) ⟨_, rfl⟩ (fun h₈ S₈ => ?_) (Nat.le_trans (show (R0 ++ rs).length ≤ 100000 by rw [List.length_append]; (exact Nat.le_trans (Nat.le_add_right _ _) (by assumption))) (by decide))
 have S₉ : St h₀ ((rw, lsR isI []) :: (L, nsP [("symbol", .int sym tv), ("row", .ref rw)]) :: GL w B kp lz (W ++ [sym]) (R0 ++ (rs ++ [sym])) N) h₈ := by rw [← List.append_assoc]; exact S₈
 clear S₇ S₈
 try dsimp only
 refine k_execs_cons ?_
 refine k_If ?_
 refine k_isTrue_Compare1 ?_
 refine name_L S₉ (by exact rfl) (.tail _ (.head _)) (.head _) ?_
 refine name_F S₉ (by exact rfl) (.tail _ (.tail _ (GL.n F.rules))) ?_
 refine dx_notIn S₉ (.tail _ (.tail _ (GL.n F.ruD))) (intKind_is PP w sym tv) (not_sys F.hru) ?_
 refine tr_b ?_
 obtain ⟨rn, rsm⟩ := ru_get F.ruL sym
 cases hsp : look? specs sym with
 | none =>
  (refine (Eq.symm (rn hsp)) ▸ ?_; try with_reducible rfl)
  refine if_t ?_
  refine k_execs_cons ?_
  refine Raise_madeB PySem.F.excCall_ValueError PySem.F.excRaise_ValueError hh ?_
  refine name_B C S₉ C.b_valueError ⟨rfl, ?_⟩
  refine k_items_cons ?_
  refine k_BinOp ?_
  refine c_str ?_
  refine k_Call_Name_kw ?_
  refine name_B C S₉ C.b_str ?_
  refine PyProof.Rows.callWith_type rfl (ea_any rfl ?_)
  refine k_items_cons ?_
  refine name_L S₉ (by exact rfl) (.tail _ (.head _)) (.head _) ?_
  refine wpAny_items_nil ?_
  refine P.str_of_int (fuel_log hs1 hs0) ?_
  refine PyProof.Rows.add_str (fun t' tk => ?_) ?hsz
  case hsz =>
   have h1 := int_text_len_1921 (fuel_log hs1 hs0)
   have h2 : (Str.ofString "no line for ").length = 12 := by decide
   exact szS (by rw [h2]; lia)
  refine wpAny_items_nil ⟨szS (Nat.le_of_ble_eq_true rfl), fun h' e hx => ?_⟩
  have hq : ErrOut w mg h₀ g d os B kp fr lz R0 (W ++ [sym]) N l M sym ⟨kp.map krOf, fr, rs ++ [sym]⟩ R := by
   have := q
   unfold growF at this
   rw [hsp] at this
   exact this
  refine raise_leave S₉ (hsk' _ _ (.tail _ (.head _)) fun p hp => .tail _ (.tail _ (GL.n hp))) (Heap.MadeExc.of hx) fun h'' X => ?_
  exact hq [] lz [] [] e t' h'' _ (by simp) (.inl ⟨rfl, rfl⟩) (Nat.zero_le _) (by rw [List.append_nil, List.append_nil]; exact X.wk (.drop (.drop .refl)))
 | some parts =>
  refine xEA (rsm parts hsp) fun pa hpa hpm => ?_
  refine xAAAA (ih parts hsp) fun hl hrk hdp hWm hMm => ?_
  refine xAA (D.W.key _ _ hsp) fun w1 w2 w3 => ?_
  obtain ⟨w4, w5⟩ := D.W.len _ _ hsp
  have w6 := D.W.low _ _ hsp
  obtain ⟨r, hr⟩ : ∃ r, rk sym = r + 1 := ⟨rk sym - 1, by lia⟩
  (refine (Eq.symm (hpa)) ▸ ?_; try with_reducible rfl)
  refine if_f ?_
  refine wpAny_execs_nil ?_
  try dsimp only
  refine k_execs_cons ?_
  refine For_ ?_
  refine k_Subscript ?_
  refine name_F S₉ (by exact rfl) (.tail _ (.tail _ (GL.n F.rules))) ?_
  refine name_L S₉ (by exact rfl) (.tail _ (.head _)) (.head _) ?_
  refine dx_item S₉ (.tail _ (.tail _ (GL.n F.ruD))) (intKind_is PP w sym tv) hpa ?_ (by with_unfolding_all rfl)
  have hpr : ∀ p ∈ parts, rk p ≤ r := fun p hp => by have := (w6 p hp).2; lia
  have lok := look_ok (z := z) D.W m
  have hU := UB_VB r
  have hVr := VB_pos r
  have hV : VB (r + 1) = 4 * VB r := VB_succ r
  rw [hr, hV] at hR
  have uT : TB z (r + 1) = 26 + 2 * TB z r + z := rfl
  have hT5 : TB z (r + 1) ≤ TB z 5 := TB_mono z (by lia)
  have hz := D.hz
  have pok : ∀ i acc s', partsF (lookF specs m) ⟨kp.map krOf, fr, rs ++ [sym]⟩ (parts.take i) [] = (.inr acc, s') → Inv specs rk z s'.kept ∧ s'.runs.length ≤ rs.length + 1 + 2 * UB r ∧ acc.length ≤ 26 + 2 * TB z r := by
   intro i acc s' h
   have P := parts_ok (z := z) (n := m) (r := r) D.W (by lia) lok (parts.take i) ⟨kp.map krOf, fr, rs ++ [sym]⟩ [] (fun p hp => hpr p (List.mem_of_mem_take hp)) I
   rw [h] at P
   have hc : cnt specs (parts.take i) ≤ 2 := Nat.le_trans (cnt_take parts i) w5
   have h1 : cnt specs (parts.take i) * UB r ≤ 2 * UB r := Nat.mul_le_mul_right _ hc
   have h2 : cnt specs (parts.take i) * TB z r ≤ 2 * TB z r := Nat.mul_le_mul_right _ hc
   have h3 := List.length_take_le' i parts
   refine xEA (P.runs0 acc rfl) fun rn e b => ?_
   have r1 := P.row acc rfl
   simp only [List.length_nil] at r1
   dsimp only at e
   refine ⟨P.inv, ?_, by lia⟩
   (refine (Eq.symm (e)) ▸ ?_; refine (Eq.symm (List.length_append)) ▸ ?_; refine (Eq.symm (List.length_append)) ▸ ?_; refine (Eq.symm (List.length_singleton)) ▸ ?_; try with_reducible rfl); lia
  refine for_lr (R := isI) (xs := parts) (I := fun i K' => ∃ add lz' N1 acc s', partsF (lookF specs m) ⟨kp.map krOf, fr, rs ++ [sym]⟩ (parts.take i) [] = (.inr acc, s') ∧ (kp ++ add).map krOf = s'.kept ∧ FrN mg B N1 fr lz s'.fr lz' ∧
   K' = (rw, lsR isI acc) :: (L, nsP [("symbol", .int sym tv), ("row", .ref rw)]) :: GL w B (kp ++ add) lz' (W ++ [sym]) (R0 ++ s'.runs) (N1 ++ N)) hh S₉ ?i0 ?hok ?turn ?done
  case i0 => exact ⟨[], lz, [], [], ⟨kp.map krOf, fr, rs ++ [sym]⟩, rfl, by simp, .inl ⟨rfl, rfl⟩, by simp⟩
  case hok => intro i K' zr; obtain ⟨add, lz', N1, acc, s', _, _, _, rfl⟩ := zr; exact .tail _ (.tail _ (GL.n (List.mem_append_right _ hpm)))
  case done =>
   intro K' h₁₀ t₁₀ zr S₁₀; obtain ⟨add, lz', N1, acc, s', hp, hk, hf, rfl⟩ := zr
   rw [List.take_length] at hp
   try dsimp only
   refine k_execs_cons ?_
   refine k_Return_some ?_
   refine name_L S₁₀ (by exact rfl) (.tail _ (.head _)) (.tail _ (.head _)) ?_
   dsimp only [retV]
   have hq := q
   unfold growF GrOut at hq
   rw [hsp] at hq
   dsimp only at hq
   rw [hp] at hq
   refine hq add lz' rw N1 h₁₀ _ hk hf ?_
   exact (S₁₀.wk (.keep (fun _ z => z) (.drop .refl))).perm (GL.in _)
  case turn =>
   rintro i v p K' h₁₀ it t₁₀ hpi ⟨tp, rfl⟩ ⟨add, lz', N1, acc, s', hp, hk, hf, rfl⟩ S₁₀
   refine xAA (pok i acc s' hp) fun pk1 pk2 pk3 => ?_
   have hpm' := List.mem_of_getElem? hpi
   have hpr' := hpr p hpm'
   refine asg_L S₁₀ (by exact rfl) (.tail (.tail .head)) (.new (by simp only [List.map_cons, List.map_nil]; decide)) fun h₁₁ S₁₁ => ?_
   refine k_execs_cons ?_
   refine k_Expr_any ?_
   refine k_MethodCall ?_
   refine name_L S₁₁ (by exact rfl) (.tail _ (.tail _ (.head _))) (.tail _ (.tail _ (.head _))) ?_
   refine gm_listR (R := isI) (xs := acc) PySem.F.slot_list_extend PySem.F.type_list_extend S₁₁ (.tail _ (.head _)) ?_
   refine cw_B ?_
   refine k_items_cons ?_
   refine k_Call_Name_kw ?_
   have mN : ∀ {q : Addr × Pr}, q ∈ N → ∀ {a b c : Addr × Pr}, q ∈ a :: b :: c :: GL w B (kp ++ add) lz' (W ++ [sym]) (R0 ++ s'.runs) (N1 ++ N) := fun hq => .tail _ (.tail _ (.tail _ (GL.n (List.mem_append_right _ hq))))
   refine name_F S₁₁ (by exact rfl) (mN F.look) ?_
   refine xEA (S₁₁.get (mN F.lkO)) fun lo hlo elo => ?_
   refine cw_D (o := lo) (fd := fnX "_law_look" lkQ lkPar lkBody lkSc [("waiting", B.cw), ("book", B.cb)] .none .none B.ld (pmV mg) none (.ref B.lc) B.lt) ?_
   refine k_items_cons ?_
   refine name_L S₁₁ (by exact rfl) (.tail _ (.tail _ (.head _))) (.head _) ?_
   refine wpAny_items_nil ⟨⟨hlo, by rw [elo]⟩, wpAny_call ?_⟩
   have S₁₂ : St h₀ (GL w B (kp ++ add) lz' (W ++ [sym]) (R0 ++ s'.runs) ((it, itP pa (i + 1)) :: (rw, lsR isI acc) :: (L, nsP [("part", .int p tp), ("symbol", .int sym tv), ("row", .ref rw)]) :: (N1 ++ N))) h₁₁ :=
    S₁₁.perm (((GL.in _).trans ((GL.in _).cons _)).trans (((GL.in _).cons _).cons _))
   have mN' : ∀ q ∈ N, q ∈ (it, itP pa (i + 1)) :: (rw, lsR isI acc) :: (L, nsP [("part", .int p tp), ("symbol", .int sym tv), ("row", .ref rw)]) :: (N1 ++ N) := fun q hq => .tail _ (.tail _ (.tail _ (List.mem_append_right _ hq)))
   have lk := lok s' p (by lia) pk1
   refine hl (sym := p) (u := tp) (fr := s'.fr) (rs := s'.runs) (R0 := R0) (kp := kp ++ add) (W := W ++ [sym]) (lz := lz') (hsk' _ _ (.tail _ (.tail _ (.head _))) mN') (by show A.depth + 1 + 4 * m + 16 < _; lia) hh (by lia) (D.hb _ _ hsp p hpm') (by rw [hk]; exact pk1)
    (by have := VB_mono hpr'; lia) (by (refine (Eq.symm (List.length_append)) ▸ ?_; refine (Eq.symm (List.length_singleton)) ▸ ?_; try with_reducible rfl); lia) ((hf.ok fo).mono fun q hq => .tail _ (.tail _ (.tail _ hq))) (F.mono mN') S₁₂ ?_
   rw [hk]
   have hsn := partsF_snoc (lookF specs m) ⟨kp.map krOf, fr, rs ++ [sym]⟩ (parts.take i) p []
   rw [hp] at hsn
   dsimp only at hsn
   have eta : (⟨s'.kept, s'.fr, s'.runs⟩ : GS) = s' := rfl
   rw [eta]
   unfold LkOut
   cases hlk : lookF specs m s' p with
   | mk res s'' =>
   rw [hlk] at hsn lk
   cases res with
   | inl b =>
    intro add2 lz2 W2 N2 e tk h₁₃ t₁₃ hk2 hf2 hW2 X
    have hq := q
    unfold growF GrOut at hq
    rw [hsp] at hq
    dsimp only at hq
    rw [parts_err hp hpi hlk] at hq
    refine fly_loop (Around.frames_deeper hsk.1) rfl X fun h₁₄ H => ?_
    refine held_leave rfl H fun h₁₅ X' => ?_
    have X1 : Rz h₀ (GL w B (kp ++ add ++ add2) lz2 (W ++ [sym] ++ W2) (R0 ++ s''.runs) (N2 ++ (N1 ++ N))) l (.type "ValueError") e [.str (noLine b) tk] h₁₅ :=
     ((((((X'.perm (GL.inApp N2 _).symm).wk (.drop .refl)).perm (GL.inApp N2 _).symm).wk (.drop .refl)).perm (GL.inApp N2 _).symm).wk (.drop .refl))
    rw [List.append_assoc kp, ← List.append_assoc N2] at X1
    exact hq (add ++ add2) lz2 W2 (N2 ++ N1) e tk h₁₅ _ (by rw [← List.append_assoc]; exact hk2) (hf.trans hf2) (by (exact Nat.le_trans (by assumption) (by assumption))) X1
   | inr row =>
    intro add2 lz2 a N2 h₁₃ t₁₃ hk2 hf2 ha S₁₃
    dsimp only at hsn hk2 hf2 S₁₃ ha
    have S₁₄ : St h₀ ((it, itP pa (i + 1)) :: (rw, lsR isI acc) :: (L, nsP [("part", .int p tp), ("symbol", .int sym tv), ("row", .ref rw)]) :: GL w B (kp ++ add ++ add2) lz2 (W ++ [sym]) (R0 ++ s''.runs) (N2 ++ (N1 ++ N))) h₁₃ :=
     S₁₃.perm (((GL.inApp N2 _).trans (((GL.inApp N2 _).trans ((GL.inApp N2 _).cons _)).cons _))).symm
    have ma : (a, lsR isI row) ∈ (it, itP pa (i + 1)) :: (rw, lsR isI acc) :: (L, nsP [("part", .int p tp), ("symbol", .int sym tv), ("row", .ref rw)]) :: GL w B (kp ++ add ++ add2) lz2 (W ++ [sym]) (R0 ++ s''.runs) (N2 ++ (N1 ++ N)) := by
     rcases ha with ha | ⟨⟨N3, rfl, _⟩, _⟩
     ·exact .tail _ (.tail _ (.tail _ (GL.k ha)))
     ·exact .tail _ (.tail _ (.tail _ (GL.n (.head _))))
    have hrow := lk.row row rfl
    have hT6 := TB_mono z hpr'
    try dsimp only
    refine wpAny_items_nil ?_
    refine lr_extend (R := isI) (xs := acc) (ys := row) S₁₄ (.tail .head) ma (fun h₁₅ S₁₅ => ?_) (Nat.le_trans (show acc.length + row.length ≤ 200000 by lia) (by decide))
    refine wpAny_execs_nil ?_
    refine LoopP.next (K := (rw, lsR isI (acc ++ row)) :: (L, nsP [("symbol", .int sym tv), ("row", .ref rw)]) :: GL w B (kp ++ (add ++ add2)) lz2 (W ++ [sym]) (R0 ++ s''.runs) ((N2 ++ N1) ++ N)) ⟨add ++ add2, lz2, N2 ++ N1, acc ++ row, s'', ?_, by rw [← List.append_assoc]; exact hk2, hf.trans hf2, rfl⟩ ?_
    ·(refine (Eq.symm (List.take_add_one)) ▸ ?_; refine (Eq.symm (hpi)) ▸ ?_; try with_reducible rfl); exact hsn
    ·rw [← List.append_assoc kp, List.append_assoc N2]
     exact S₁₅.wk (.keep (fun _ z => z) (.keep (fun _ z => z) (.keep (nsP_sub (List.Sublist.cons _ (List.Sublist.refl _))) .refl)))
end
end
section
theorem growF_ok {specs : List (Int × List Int)} {rk : Int → Nat} {z m : Nat} {s : GS} {sym : Int} (W : WfR specs rk) (hr : ∀ parts, look? specs sym = some parts → rk sym ≤ m + 1) (I : Inv specs rk z s.kept) (hk : look? s.kept sym = none) :
  Inv specs rk z (growF specs m s sym).2.kept ∧ look? (growF specs m s sym).2.kept sym = none := by
 unfold growF
 cases hs : look? specs sym with
 | none => exact ⟨I, hk⟩
 | some parts =>
  try dsimp only
  have h1 := W.key _ _ hs
  have h2 := hr parts hs
  have P := parts_ok (z := z) (n := m) (r := rk sym - 1) W (by lia) (look_ok W m) parts { s with runs := s.runs ++ [sym] } [] (fun p hp => by have := (W.low _ _ hs p hp).2; lia) I
  refine ⟨P.inv, ?_⟩
  refine xEA (P.add) fun add e ha => ?_
  (refine (Eq.symm (e)) ▸ ?_; refine (Eq.symm (look?_app)) ▸ ?_; refine (Eq.symm (hk)) ▸ ?_; try with_reducible rfl)
  show look? add sym = none
  rw [look?_none]
  intro p hp e
  have := ha p hp
  rw [e] at this; omega
theorem lookF_grow {specs : List (Int × List Int)} {n m : Nat} {s : GS} {sym : Int} (h : ¬ sym < 256) (hk : look? s.kept sym = none) (hn : look? specs sym = none ∨ n = m + 1) :
  lookF specs n s sym = match growF specs m s sym with
   | (.inl b, s') => (Sum.inl b, s')
   | (.inr row, s') => (Sum.inr row, if s.fr then s' else { s' with kept := s'.kept ++ [(sym, row)] }) := by
 cases hs : look? specs sym with
 | none => rw [lookF_none h hk hs]; unfold growF; (refine (Eq.symm (hs)) ▸ ?_; try with_reducible rfl)
 | some parts =>
  rcases hn with hn | rfl
  ·rw [hs] at hn; cases hn
  ·rw [lookF_rule h hk hs]; unfold growF; (refine (Eq.symm (hs)) ▸ ?_; try with_reducible rfl); first | done | rfl
theorem GL_snoc {w : World} {B : Bk} {kp : Kp} {lz : Option Value} {W rs : List Int} {N : Led} {k : Int} {a : Addr} {row : List Int} :
  GL w B (kp ++ [(k, a, row)]) lz W rs N = (B.x, dP (intKind PP w) (.ref 108) (some B.dx) #[some (.ref B.gr)] (kp.map kvOf ++ [(k, .ref a)])) :: (B.dx, fzP lz) :: (B.wa, lsR isI W) :: (B.ra, lsR isI rs) :: (kp.map enOf ++ (a, lsR isI row) :: N) := by
 simp [GL, kvOf, enOf]
section
variable {w : World} {A : Around} {E : Value → Shared → Prop} {env : Env} {h₀ h : Heap} {g : Array GenState} {d : Drawn} {t : Nat} {os : OsState} {K : Led} {mg mb : Str → Option Value}
 {B : Bk} {kvsR : List (Int × Value)} {specs : List (Int × List Int)} {rk : Int → Nat} {z : Nat}
theorem env98k {L : Addr} : (env98 L).scope.kind ≠ .module := by rw [show (env98 L).scope.kind = .function from rfl]; decide
theorem look_step (C : Cx w mg mb h₀) (D : Gd specs rk z) (hn5 : specs.length ≤ 1000) (n : Nat) (ih : ∀ m, n = m + 1 → LookC w mg h₀ g d os B kvsR specs rk z m) : LookC w mg h₀ g d os B kvsR specs rk z n := by
 intro A R sym u kp fr rs R0 W N h t l lz hsk hdep hh hrk hs1 I hR hW fo F S q
 have hVp := VB_pos (rk sym)
 refine xEAE (f105 w) fun o105 ho105 fd105 hfd105 => ?_
 refine xEAE (f216 w) fun o216 ho216 fd216 hfd216 => ?_
 refine' call_N (binds := [("symbol", .int sym u)]) (scope := lkSc) C S (GL.n F.lkO) (GL.n F.lkC) ?hroom (fun t => BindsTo.of_eq ?hbind) ?hcell ?hloc ?hnd ?h1 ?h2 ?h3 ?k
 case hbind => exact rfl
 case hroom => lia
 case hcell => dsimp only [lkSc, lookD]; decide
 case hloc => rfl
 case hnd => simp only [List.map_cons, List.map_nil]; decide
 case h1 => rfl
 case h2 => rfl
 case h3 => rfl
 intro L h₁ S₁
 dsimp only [lkBody, lookD]
 dsimp only [List.length_cons, List.length_nil]
 have hsk' : ∀ b (K : Led), (L, nsP b) ∈ K → (∀ p ∈ N, p ∈ K) → Sk (A.deeper (envX lkQ lkSc L B.lk (.ref B.lc) [("waiting", B.cw), ("book", B.cb)])) (envX lkQ lkSc L B.lk (.ref B.lc) [("waiting", B.cw), ("book", B.cb)] :: l) K :=
  fun b K hm hs => (hsk.mono hs).push (by show lkSc.kind ≠ _; rw [show lkSc.kind = .function from rfl]; decide) rfl hm
 refine k_execs_cons ?_
 refine k_If ?_
 refine k_isTrue_Compare1 ?_
 refine name_L S₁ (by exact rfl) (.head _) (.head _) ?_
 refine c_int ?_
 refine eq_ii ?_
 refine tr_b ?_
 refine ite_b (fun e54 => ?_) fun e54 => ?_
 ·-- the freezing
  have es : sym = 54 := by simpa using e54
  refine k_execs_cons ?_
  refine k_Expr_any ?_
  refine k_MethodCall ?_
  refine name_F S₁ (by exact rfl) (.tail _ (GL.n F.book)) ?_
  refine gm_fd C S₁ (.tail _ (.head _)) (.tail _ (.tail _ (.head _))) (fd_freeze w) (ty_freeze w) (by decide) (by decide) ?_
  refine cw_D (o := o105) (fd := fd105) ?_
  refine wpAny_items_nil ⟨⟨C.X.keeps S₁.keep _ _ ho105, hfd105⟩, wpAny_call ?_⟩
  refine freeze_hit C S₁ (by show A.depth + 1 + 2 < _; lia) (K₂ := fun lf => (L, nsP [("symbol", .int sym u)]) :: GL w B kp (some (.ref lf)) W (R0 ++ rs) N) (.tail _ (.head _)) (.tail _ (GL.n F.fz)) (fun lf => .tail (.tail .head)) fun lf ctv cell h₂ t₂ S₂ => ?_
  try dsimp only
  refine wpAny_execs_nil ?_
  try dsimp only
  refine k_execs_cons ?_
  refine k_If ?_
  refine isTrue_plain ?_
  refine k_Call_Name_kw ?_
  refine name_G C S₂ C.g_ist ?_
  refine cw_D (o := o216) (fd := fd216) ?_
  refine k_items_cons ?_
  refine name_L S₂ (by exact rfl) (.tail _ (.tail _ (.head _))) (.head _) ?_
  refine wpAny_items_nil ⟨⟨C.X.keeps S₂.keep _ _ ho216, hfd216⟩, wpAny_call ?_⟩
  refine ist_call C S₂ (by show A.depth + 1 < _; lia) fun h₃ t₃ S₃ => ?_
  try dsimp only
  refine tr_b ?_
  rw [show decide (sym < 256) = true from decide_eq_true (by lia)]
  refine if_t ?_
  refine k_execs_cons ?_
  refine k_Return_some ?_
  refine List_ ?_
  refine k_items_cons ?_
  refine name_L S₃ (by exact rfl) (.tail _ (.tail _ (.head _))) (.head _) ?_
  refine wpAny_items_nil ?_
  refine n_list S₃ fun a h₄ S₄ => ?_
  dsimp only [retV]
  rw [lookF_term (by lia)] at q
  unfold LkOut at q
  refine q [] (some (.ref lf)) a ((a, lsR isI [sym]) :: [(lf, exP (lzObj mg cell B.cz ctv)), (cell, cellP (some (.ref B.x)))]) h₄ _ (by simp) ?_ (.inr ⟨⟨_, rfl, .inr ⟨by simp [es], lf, cell, ctv, rfl, .head _, .tail _ (.head _)⟩⟩, ?_⟩) ?_
  ·refine .inr ⟨by simp [es], lf, cell, ctv, rfl, .tail _ (.head _), .tail _ (.tail _ (.head _))⟩
  ·rw [look?_none]; intro p hp e; have := (I.key p hp).1; lia
  ·rw [List.append_nil]
   have S₅ : St h₀ ((a, lsR isI [sym]) :: (lf, exP (lzObj mg cell B.cz ctv)) :: (cell, cellP (some (.ref B.x))) :: GL w B kp (some (.ref lf)) W (R0 ++ rs) N) h₄ := S₄.wk (.keep (lsR_of (.cons ⟨_, rfl⟩ .nil)) (.keep (fun _ z => z) (.keep (fun _ z => z) (.drop .refl))))
   exact S₅.perm (((GL.in _).trans ((GL.in _).cons _)).trans (((GL.in _).cons _).cons _))
 ·have es : sym ≠ 54 := by simpa using e54
  refine wpAny_execs_nil ?_
  try dsimp only
  refine k_execs_cons ?_
  refine k_If ?_
  refine isTrue_plain ?_
  refine k_Call_Name_kw ?_
  refine name_G C S₁ C.g_ist ?_
  refine cw_D (o := o216) (fd := fd216) ?_
  refine k_items_cons ?_
  refine name_L S₁ (by exact rfl) (.head _) (.head _) ?_
  refine wpAny_items_nil ⟨⟨C.X.keeps S₁.keep _ _ ho216, hfd216⟩, wpAny_call ?_⟩
  refine ist_call C S₁ (by show A.depth + 1 < _; lia) fun h₃ t₃ S₃ => ?_
  try dsimp only
  refine tr_b ?_
  refine ite_dec (fun hlt => ?_) fun hlt => ?_
  ·refine k_execs_cons ?_
   refine k_Return_some ?_
   refine List_ ?_
   refine k_items_cons ?_
   refine name_L S₃ (by exact rfl) (.head _) (.head _) ?_
   refine wpAny_items_nil ?_
   refine n_list S₃ fun a h₄ S₄ => ?_
   dsimp only [retV]
   rw [lookF_term hlt] at q
   unfold LkOut at q
   refine q [] lz a [(a, lsR isI [sym])] h₄ _ (by simp) (.inl ⟨by simp [es], rfl⟩) (.inr ⟨⟨_, rfl, .inl ⟨by simp [es], rfl⟩⟩, ?_⟩) ?_
   ·rw [look?_none]; intro p hp e; have := (I.key p hp).1; lia
   ·rw [List.append_nil]
    have S₅ : St h₀ ((a, lsR isI [sym]) :: GL w B kp lz W (R0 ++ rs) N) h₄ := S₄.wk (.keep (lsR_of (.cons ⟨_, rfl⟩ .nil)) (.drop .refl))
    exact S₅.perm (GL.in _)
  ·refine wpAny_execs_nil ?_
   try dsimp only
   clear S₁
   refine k_execs_cons ?_
   refine k_Expr_any ?_
   refine k_MethodCall ?_
   refine name_F S₃ (by exact rfl) (.tail _ (GL.n F.wait)) ?_
   refine gm_listR (R := isI) (xs := W) PySem.F.slot_list_append PySem.F.type_list_append S₃ (.tail _ (.tail _ (.tail _ (.head _)))) ?_
   refine cw_B ?_
   refine k_items_cons ?_
   refine name_L S₃ (by exact rfl) (.head _) (.head _) ?_
   refine wpAny_items_nil ?_
   refine lr_append (y := sym) S₃ (.tail (.tail (.tail .head))) ⟨_, rfl⟩ (fun h₄ S₄ => ?_) (Nat.le_trans (show W.length ≤ 100000 by lia) (by decide))
   have S₅ : St h₀ ((L, nsP [("symbol", .int sym u)]) :: GL w B kp lz (W ++ [sym]) (R0 ++ rs) N) h₄ := S₄
   clear S₃ S₄
   try dsimp only
   refine k_execs_cons ?_
   refine k_Assign_Name ?_
   refine wpAny_mono (Q := fun v s => ∃ kp' lz' a rs' N1 h' t', v = .ref a ∧ s = ⟨h', g, d, t', os⟩ ∧ St h₀ ((L, nsP [("symbol", .int sym u)]) :: GL w B kp' lz' (W ++ [sym]) rs' (N1 ++ N)) h' ∧
    ∀ h'' t'', St h₀ (GL w B kp' lz' W rs' (N1 ++ N)) h'' → R (.ok (.ret (.ref a))) ⟨h'', g, d, t'', os⟩) ?_ ?fin fun _ _ x => x
   case fin =>
    intro v s zr; obtain ⟨kp', lz', a, rs', N1, h', t', rfl, rfl, S', q'⟩ := zr
    refine store_L S' (by exact rfl) .head (.new (by simp only [List.map_cons, List.map_nil]; decide)) fun h₆ S₆ => ?_
    try dsimp only
    refine k_execs_cons ?_
    refine k_Expr_any ?_
    refine k_MethodCall ?_
    refine name_F S₆ (by exact rfl) (.tail _ (GL.n (List.mem_append_right _ F.wait))) ?_
    refine gm_listR (R := isI) (xs := W ++ [sym]) PySem.F.slot_list_pop PySem.F.type_list_pop S₆ (.tail _ (.tail _ (.tail _ (.head _)))) ?_
    refine cw_B ?_
    refine wpAny_items_nil ?_
    refine lr_popLast (R := isI) (xs := W) (y := sym) S₆ (.tail (.tail (.tail .head))) (fun v h₇ _ S₇ => ?_) (Nat.le_trans (show W.length + 1 ≤ 100001 by lia) (by decide))
    have S₈ : St h₀ ((L, nsP [("row", .ref a), ("symbol", .int sym u)]) :: GL w B kp' lz' W rs' (N1 ++ N)) h₇ := S₇
    try dsimp only
    refine k_execs_cons ?_
    refine k_Return_some ?_
    refine name_L S₈ (by exact rfl) (.head _) (.head _) ?_
    dsimp only [retV]
    exact q' _ _ S₈.dropHead
   refine k_Subscript ?_
   refine name_F S₅ (by exact rfl) (.tail _ (GL.n F.book)) ?_
   refine name_L S₅ (by exact rfl) (.head _) (.head _) ?_
   refine tail_fd (ops := [.ref B.x, .int sym u]) C S₅ ?_ ?_ (by with_unfolding_all rfl)
   ·refine xEAA (S₅.get (.tail _ (.head _))) fun o ho hc zu3 => ?_; exact ⟨o, ho, hc⟩
   have hkey := intKind_is PP w sym u
   cases hv : valueAt (kp.map kvOf) sym with
   | some v =>
    (refine xEEAA (kp_some hv) fun a row zq2 mk lk => ?_; subst zq2)
    refine fd_hit C S₅ (.tail _ (.head _)) hkey hv ?_
    rw [lookF_kept hlt lk] at q
    unfold LkOut at q
    refine ⟨kp, lz, a, R0 ++ rs, [], h₄, _, rfl, rfl, S₅, fun h'' t'' S'' => ?_⟩
    exact q [] lz a [] h'' t'' (by simp) (.inl ⟨rfl, rfl⟩) (.inl (by rw [List.append_nil]; exact mk)) (by rw [List.append_nil]; exact S'')
   | none =>
    have hk0 := kp_none.mp hv
    have hn1 : look? specs sym = none ∨ n = (n - 1) + 1 := by
     cases hsp : look? specs sym with
     | none => exact .inl rfl
     | some parts => have := D.W.key _ _ hsp; exact .inr (by lia)
    rw [lookF_grow hlt hk0 hn1] at q
    have gok := growF_ok (z := z) (m := n - 1) (s := ⟨kp.map krOf, fr, rs⟩) (sym := sym) D.W (fun parts hsp => by have := D.W.key _ _ hsp; lia) I hk0
    have ihg : ∀ parts, look? specs sym = some parts → LookC w mg h₀ g d os B kvsR specs rk z (n - 1) ∧ rk sym ≤ n - 1 + 1 ∧ A.depth + 3 + 4 * (n - 1) + 17 < recursionLimit ∧ W.length + (n - 1) + 2 ≤ 100000 ∧ n - 1 + 1 ≤ n := fun parts hsp => by
     have := D.W.key _ _ hsp
     exact ⟨ih (n - 1) (by lia), by lia, by lia, by lia, by lia⟩
    have hs0 : 0 ≤ sym := by lia
    have hl : ∀ v, lz = some v → ∃ l o fd, v = .ref l ∧ (l, exP o) ∈ (L, nsP [("symbol", .int sym u)]) :: GL w B kp lz (W ++ [sym]) (R0 ++ rs) N ∧ o.data = .func fd := by
     intro v hv
     cases fr with
     | false => rw [show lz = none from fo] at hv; cases hv
     | true =>
      (revert fo; intro zh; refine xEEEAA zh fun lA c ct e m1 m2 => ?_; clear zh)
      rw [e] at hv; cases hv
      exact ⟨lA, _, _, rfl, .tail _ (GL.n m1), rfl⟩
    refine fd_miss C S₅ (.tail _ (.head _)) hkey hv (not_sys F.hx) (wpAny_call ?_)
    refine missing_call C S₅ (by show A.depth + 1 + 2 < _; lia) hh (.tail _ (.head _)) (.tail _ (.tail _ (.head _))) hkey (not_sys F.hx) ⟨_, _, .tail _ (GL.n F.grO), rfl⟩ hl ?_
    intro L2 h₅ t₅ S₆
    cases fr with
    | false =>
     have fo' : lz = none := fo
     subst fo'
     try dsimp only
     have S₇ : St h₀ (GL w B kp none (W ++ [sym]) (R0 ++ rs) ((L2, nsP [("self", .ref B.x), ("key", .int sym u)]) :: (L, nsP [("symbol", .int sym u)]) :: N)) h₅ := S₆.perm ((GL.in _).trans ((GL.in _).cons _))
     have mN : ∀ p ∈ N, p ∈ (L2, nsP [("self", .ref B.x), ("key", .int sym u)]) :: (L, nsP [("symbol", .int sym u)]) :: N := fun p hp => .tail _ (.tail _ hp)
     refine wpAny_call (grow_call (m := n - 1) (M := n) (rk := rk) (z := z) (lz := none) (fr := false) (W := W) (R0 := R0) (rs := rs) (kp := kp) (sym := sym) (specs := specs) (kvsR := kvsR) C D ?ihg ((hsk' _ _ (.tail _ (.head _)) mN).push env98k rfl (.head _)) ?dg hh hs0 hs1 I hR (by lia) rfl (F.mono mN) S₇ ?_)
     case ihg => exact fun parts hsp => ⟨(ihg parts hsp).1, (ihg parts hsp).2.1, by have := (ihg parts hsp).2.2.1; show A.depth + 1 + 1 + 4 * (n - 1) + 17 < _; lia, (ihg parts hsp).2.2.2⟩
     case dg => show A.depth + 1 + 1 + 3 < _; lia
     unfold GrOut
     cases hx : growF specs (n - 1) ⟨kp.map krOf, false, rs⟩ sym with
     | mk res s' =>
     rw [hx] at q gok
     cases res with
     | inl b =>
      intro add lz2 W2 N2 e tk h₆ t₆ hk hf hW2 X
      show Lv (w := w) _ (env98 L2) _ (.ref e) _
      refine fly_leave (Around.frames_deeper (Around.frames_deeper hsk.1)) rfl X fun h₇ X' => ?_
      show wpAny _ _ (leaving _ (.ref e)) _ _ _
      refine fly_leave (Around.frames_deeper hsk.1) rfl X' fun h₈ X'' => ?_
      have hq : ErrOut w mg h₀ g d os B kp false none R0 W N l (n + 1) b s' R := q
      have X3 : Rz h₀ (GL w B (kp ++ add) lz2 (W ++ [sym] ++ W2) (R0 ++ s'.runs) (N2 ++ N)) l (.type "ValueError") e [.str (noLine b) tk] h₈ :=
       ((((X''.perm (GL.inApp N2 _).symm).wk (.drop .refl)).perm (GL.inApp N2 _).symm).wk (.drop .refl))
      rw [List.append_assoc W] at X3
      exact hq add lz2 ([sym] ++ W2) N2 e tk h₈ _ hk hf (by rw [List.length_append, List.length_singleton]; lia) X3
     | inr row =>
      intro add lz' a N1 h₆ t₆ hk hf S₈
      dsimp only at hk hf S₈ gok q
      have hq : LkOut w mg h₀ g d os B kp false none R0 W N l (n + 1) sym (Sum.inr row, { s' with kept := s'.kept ++ [(sym, row)] }) R := q
      unfold LkOut at hq
      have hv2 : valueAt ((kp ++ add).map kvOf) sym = none := kp_none.mpr (by rw [hk]; exact gok.2)
      have hsz : ((kp ++ add).map kvOf).length ≤ 1000 := by
       have h1 := gok.1.size
       have h2 := congrArg List.length hk
       rw [List.length_map] at h2 ⊢
       lia
      refine ⟨GL w B (kp ++ add) lz' (W ++ [sym]) (R0 ++ s'.runs) ((a, lsR isI row) :: (N1 ++ (L2, nsP [("self", .ref B.x), ("key", .int sym u)]) :: (L, nsP [("symbol", .int sym u)]) :: N)), _, (kp ++ add).map kvOf, h₆, t₆, rfl, S₈, .head, hv2, szS (by (exact Nat.le_trans (by assumption) (by decide))), fun h₇ t₇ S₉ => ?_⟩
      replace S₉ : St h₀ (GL w B (kp ++ add ++ [(sym, a, row)]) lz' (W ++ [sym]) (R0 ++ s'.runs) (N1 ++ (L2, nsP [("self", .ref B.x), ("key", .int sym u)]) :: (L, nsP [("symbol", .int sym u)]) :: N)) h₇ := by rw [GL_snoc]; exact S₉
      have S₁₀ : St h₀ ((L, nsP [("symbol", .int sym u)]) :: GL w B (kp ++ add ++ [(sym, a, row)]) lz' (W ++ [sym]) (R0 ++ s'.runs) (N1 ++ N)) h₇ :=
       ((S₉.perm (GL.inApp N1 _).symm).dropHead).perm (GL.inApp N1 _).symm
      refine ⟨kp ++ add ++ [(sym, a, row)], lz', a, R0 ++ s'.runs, N1, h₇, t₇, rfl, rfl, S₁₀, fun h'' t'' S'' => ?_⟩
      rw [List.append_assoc kp] at S''
      exact hq (add ++ [(sym, a, row)]) lz' a N1 h'' t'' (by (rewrite [← List.append_assoc]; refine (Eq.symm (List.map_append)) ▸ ?_; refine (Eq.symm (hk)) ▸ ?_; try with_reducible rfl); rfl) hf (.inl (by simp)) S''
    | true =>
     refine xEEEAA (id fo) fun lA cA ct elz m1 m2 => ?_
     subst elz
     try dsimp only
     refine wpAny_call (call_lz (f := B.gr) C S₆ (by show A.depth + 1 + 1 + 2 < _; omega) (.tail _ (.tail _ (GL.n m1))) (.tail _ (.tail _ (GL.n F.czC))) (.tail _ (.tail _ (GL.n m2))) (.tail _ (.tail _ (.head _))) (.tail _ (.tail _ (.tail _ (.head _)))) ⟨_, _, .tail _ (.tail _ (GL.n F.grO)), rfl⟩ ?_)
     intro L3 h₆ t₆ S₇
     have S₈ : St h₀ (GL w B kp (some (.ref lA)) (W ++ [sym]) (R0 ++ rs) ((L3, nsP []) :: (L2, nsP [("self", .ref B.x), ("key", .int sym u)]) :: (L, nsP [("symbol", .int sym u)]) :: N)) h₆ := S₇.perm (((GL.in _).trans ((GL.in _).cons _)).trans (((GL.in _).cons _).cons _))
     have mN : ∀ p ∈ N, p ∈ (L3, nsP []) :: (L2, nsP [("self", .ref B.x), ("key", .int sym u)]) :: (L, nsP [("symbol", .int sym u)]) :: N := fun p hp => .tail _ (.tail _ (.tail _ hp))
     refine wpAny_call (grow_call (m := n - 1) (M := n) (rk := rk) (z := z) (lz := some (.ref lA)) (fr := true) (W := W) (R0 := R0) (rs := rs) (kp := kp) (sym := sym) (specs := specs) (kvsR := kvsR) C D ?ihg
      (((hsk' _ _ (.tail _ (.tail _ (.head _))) mN).push env98k rfl (.tail _ (.head _))).push (show lzScope.kind ≠ .module by decide) rfl (.head _)) ?dg hh hs0 hs1 I hR (by omega) (fo.mono mN) (F.mono mN) S₈ ?_)
     case ihg => exact fun parts hsp => ⟨(ihg parts hsp).1, (ihg parts hsp).2.1, by have := (ihg parts hsp).2.2.1; show A.depth + 1 + 1 + 1 + 4 * (n - 1) + 17 < _; assumption, (ihg parts hsp).2.2.2⟩
     case dg => show A.depth + 1 + 1 + 1 + 3 < _; omega
     unfold GrOut
     cases hx : growF specs (n - 1) ⟨kp.map krOf, true, rs⟩ sym with
     | mk res s' =>
     rw [hx] at q gok
     cases res with
     | inl b =>
      intro add lz2 W2 N2 e tk h₇ t₇ hk hf hW2 X
      show wpAny _ _ (leaving _ (.ref e)) _ _ _
      refine fly_leave (Around.frames_deeper (Around.frames_deeper (Around.frames_deeper hsk.1))) rfl X fun h₈ X' => ?_
      show Lv (w := w) _ (env98 L2) _ (.ref e) _
      refine fly_leave (Around.frames_deeper (Around.frames_deeper hsk.1)) rfl X' fun h₉ X'' => ?_
      show wpAny _ _ (leaving _ (.ref e)) _ _ _
      refine fly_leave (Around.frames_deeper hsk.1) rfl X'' fun h₁₀ X3 => ?_
      have hq : ErrOut w mg h₀ g d os B kp true (some (.ref lA)) R0 W N l (n + 1) b s' R := q
      have X4 : Rz h₀ (GL w B (kp ++ add) lz2 (W ++ [sym] ++ W2) (R0 ++ s'.runs) (N2 ++ N)) l (.type "ValueError") e [.str (noLine b) tk] h₁₀ :=
       ((((((X3.perm (GL.inApp N2 _).symm).wk (.drop .refl)).perm (GL.inApp N2 _).symm).wk (.drop .refl)).perm (GL.inApp N2 _).symm).wk (.drop .refl))
      rw [List.append_assoc W] at X4
      exact hq add lz2 ([sym] ++ W2) N2 e tk h₁₀ _ hk hf (by rw [List.length_append, List.length_singleton]; omega) X4
     | inr row =>
      intro add lz' a N1 h₇ t₇ hk hf S₉
      dsimp only at hk hf S₉ gok q
      have hq : LkOut w mg h₀ g d os B kp true (some (.ref lA)) R0 W N l (n + 1) sym (Sum.inr row, s') R := q
      unfold LkOut at hq
      have S₁₀ : St h₀ ((L, nsP [("symbol", .int sym u)]) :: GL w B (kp ++ add) lz' (W ++ [sym]) (R0 ++ s'.runs) ((a, lsR isI row) :: N1 ++ N)) h₇ :=
       ((((S₉.perm (GL.inApp (_ :: N1) _).symm).dropHead).perm (GL.inApp (_ :: N1) _).symm).dropHead).perm (GL.inApp (_ :: N1) _).symm
      refine ⟨kp ++ add, lz', a, R0 ++ s'.runs, (a, lsR isI row) :: N1, h₇, t₇, rfl, rfl, S₁₀, fun h'' t'' S'' => ?_⟩
      refine hq add lz' a ((a, lsR isI row) :: N1) h'' t'' hk ?_ (.inr ⟨⟨_, rfl, hf⟩, gok.2⟩) S''
      rcases hf with hf | ⟨e1, l1, c1, ct1, e2, m3, m4⟩
      ·exact .inl hf
      ·exact .inr ⟨e1, l1, c1, ct1, e2, .tail _ m3, .tail _ m4⟩
end
theorem look_all {w : World} {h₀ : Heap} {g : Array GenState} {d : Drawn} {os : OsState} {mg mb : Str → Option Value} {B : Bk} {kvsR : List (Int × Value)} {specs : List (Int × List Int)} {rk : Int → Nat} {z : Nat}
  (C : Cx w mg mb h₀) (D : Gd specs rk z) (hn5 : specs.length ≤ 1000) : ∀ n, LookC w mg h₀ g d os B kvsR specs rk z n := by
 intro n
 induction n with
 | zero =>
  refine look_step C D hn5 0 ?_
  intro m h
  lia
 | succ n ih =>
  refine look_step C D hn5 (n + 1) ?_
  intro m h
  obtain rfl : n = m := by lia
  exact @ih
end
section
noncomputable def grownD : { p : Arguments × List Stmt × Scope // findDef "_law_grown" PP.main.body = some p } := ⟨_, rfl⟩
noncomputable abbrev gnSc : Scope := grownD.1.2.2
noncomputable def forOf : Nat → List Stmt → Option (PySem.Expr × PySem.Expr × List Stmt)
 | _, [] => none
 | 0, .For t i b _ _ :: _ => some (t, i, b)
 | n, .For _ _ _ _ _ :: r => forOf (n - 1) r
 | n, _ :: r => forOf n r
noncomputable def deedD : { p : PySem.Expr × PySem.Expr × List Stmt // forOf 0 grownD.1.2.1 = some p } := ⟨_, rfl⟩
noncomputable abbrev deedTgt : PySem.Expr := deedD.1.1
noncomputable abbrev deedBody : List Stmt := deedD.1.2.2
noncomputable abbrev gnQ : Str := "_law_grown"
noncomputable abbrev gnEnv (L : Addr) (cd : Value) (B : Bk) : Env := envX gnQ gnSc L 252 cd [("waiting", B.cw), ("runs", B.cr), ("book", B.cb), ("_law_look", B.cl), ("rules", B.cu)]
noncomputable def tupR (N : Led) (v : Value) (y : Int × Int) : Prop := ∃ p t1 t2, v = .ref p ∧ (p, tpP [.int y.1 t1, .int y.2 t2]) ∈ N
noncomputable def toldR (N : Led) (v : Value) (y : Int ⊕ List Int) : Prop := match y with
 | .inl b => isS v (noLine b)
 | .inr row => ∃ a, v = .ref a ∧ (a, lsR isI row) ∈ N
noncomputable def stR (N : Led) (v : Value) (y : Tl) : Prop := ∃ p tv r k, v = .ref p ∧ (p, tpP [tv, .ref r, .ref k]) ∈ N ∧ toldR N tv y.told ∧ (r, lsR isI y.runs) ∈ N ∧ (k, lsR isI y.keys) ∈ N
theorem toldR.mono {N N' : Led} (m : ∀ p ∈ N, p ∈ N') {v : Value} {y : Int ⊕ List Int} (x : toldR N v y) : toldR N' v y := by
 cases y with
 | inl b => exact x
 | inr row => (revert x; intro zh; refine xEA zh fun a e h => ?_; clear zh); exact ⟨a, e, m _ h⟩
theorem stR.mono {N N' : Led} (m : ∀ p ∈ N, p ∈ N') {v : Value} {y : Tl} (x : stR N v y) : stR N' v y :=
 by (refine xEEEEAAAA x fun p tv r k e a b c d => ?_; clear x); exact ⟨p, tv, r, k, e, m _ a, b.mono m, m _ c, m _ d⟩
theorem lsR_mono {α : Type} {R R' : Value → α → Prop} {xs : List α} (f : ∀ v y, R v y → R' v y) : ∀ o, lsR R xs o → lsR R' xs o := fun o zr => by (refine xEA zr fun vs a p => ?_; clear zr); exact ⟨vs, a.imp f, p⟩
theorem nsP_perm {b b' : List (Str × Value)} (p : b'.Perm b) : ∀ o, nsP b o → nsP b' o := fun o zr => by (refine xEEEAAAA zr fun es ep m a c e f nd => ?_; clear zr); exact ⟨es, ep, m, a, c, e, fun q hq => f q (p.mem_iff.mp hq), (p.map _).nodup_iff.mpr nd⟩
noncomputable def kpApp (kp : Kp) (sym : Int) : Kp := kp.map fun p => if p.1 = sym then (p.1, p.2.1, p.2.2 ++ [0]) else p
noncomputable def kpDrop (kp : Kp) (sym : Int) : Kp := kp.filter fun p => decide (p.1 ≠ sym)
theorem kpApp_kv (kp : Kp) (sym : Int) : (kpApp kp sym).map kvOf = kp.map kvOf := by
 unfold kpApp
 rw [List.map_map]
 apply List.map_congr_left
 intro p _
 show kvOf (if p.1 = sym then (p.1, p.2.1, p.2.2 ++ [0]) else p) = kvOf p
 split <;> rfl
theorem kpApp_kr (kp : Kp) (sym : Int) : (kpApp kp sym).map krOf = app0 (kp.map krOf) sym := by
 unfold kpApp app0
 rw [List.map_map, List.map_map]
 apply List.map_congr_left
 intro p _
 show krOf (if p.1 = sym then (p.1, p.2.1, p.2.2 ++ [0]) else p) = if (krOf p).1 = sym then ((krOf p).1, (krOf p).2 ++ [0]) else krOf p
 show _ = if p.1 = sym then (p.1, p.2.2 ++ [0]) else krOf p
 split <;> rfl
theorem kpDrop_kv (kp : Kp) (sym : Int) : (kpDrop kp sym).map kvOf = without (kp.map kvOf) sym := by
 unfold kpDrop without
 rw [List.filter_map]; rfl
theorem kpDrop_kr (kp : Kp) (sym : Int) : (kpDrop kp sym).map krOf = drop0 (kp.map krOf) sym := by
 unfold kpDrop drop0
 rw [List.filter_map]; rfl
theorem kp_keys (kp : Kp) : kp.map (·.1) = (kp.map krOf).map (·.1) := by rw [List.map_map]; rfl
theorem kpApp_none {kp : Kp} {sym : Int} (h : ∀ p ∈ kp, p.1 ≠ sym) : kpApp kp sym = kp := by
 unfold kpApp
 conv => rhs; rw [← List.map_id kp]
 apply List.map_congr_left
 intro p hp
 rw [if_neg (h p hp)]; rfl
theorem kpApp_up {sym : Int} {a : Addr} {row : List Int} {N : Led} : ∀ {kp : Kp}, (kp.map (·.1)).Nodup → (sym, a, row) ∈ kp → Up a (lsR isI row) (lsR isI (row ++ [0])) (kp.map enOf ++ N) ((kpApp kp sym).map enOf ++ N)
 | p :: kp, nd, m => by
  rw [List.map_cons, List.nodup_cons] at nd
  by_cases e : p.1 = sym
  ·have hp : p = (sym, a, row) := by
    rcases List.mem_cons.mp m with e1 | m
    ·exact e1.symm
    ·exact absurd (e ▸ List.mem_map.mpr ⟨_, m, rfl⟩) nd.1
   subst hp
   have hr : kpApp ((sym, a, row) :: kp) sym = (sym, a, row ++ [0]) :: kp := by
    show (if sym = sym then _ else _) :: kpApp kp sym = _
    rw [if_pos rfl, kpApp_none]
    intro q hq e2
    exact nd.1 (List.mem_map.mpr ⟨q, hq, e2⟩)
   rw [hr]
   exact .head
  ·have m' : (sym, a, row) ∈ kp := by
    rcases List.mem_cons.mp m with e1 | m
    ·exact absurd (by (refine (e1) ▸ ?_; try with_reducible rfl)) e
    ·exact m
   have hr : kpApp (p :: kp) sym = p :: kpApp kp sym := by
    show (if p.1 = sym then _ else p) :: kpApp kp sym = _
    rw [if_neg e]
   rw [hr]
   exact .tail (kpApp_up nd.2 m')
theorem GL.thin {w : World} {B : Bk} {kvs : List (Int × Value)} {kp kp' : Kp} {lz : Option Value} {W rs : List Int} {N : Led} {h₀ h : Heap} {M : Led}
  (S : St h₀ (M ++ (B.x, dP (intKind PP w) (.ref 108) (some B.dx) #[some (.ref B.gr)] kvs) :: (B.dx, fzP lz) :: (B.wa, lsR isI W) :: (B.ra, lsR isI rs) :: (kp.map enOf ++ N)) h) (hk : kvs = kp'.map kvOf) (s : kp'.Sublist kp) :
  St h₀ (M ++ GL w B kp' lz W rs N) h := by
 subst hk
 refine S.sub (List.Sublist.append_left ?_ M)
 exact ((((s.map enOf).append_right N).cons_cons _).cons_cons _).cons_cons _ |>.cons_cons _
theorem ints_keys {w : World} : ∀ {vs : List Value} {kvs : List (Int × Value)}, All2 (fun v (kv : Int × Value) => (intKind PP w).is kv.1 v = true) vs kvs → All2 isI vs (kvs.map (·.1)) := by
 intro vs kvs h
 induction h with
 | nil => exact .nil
 | cons r _ ih => exact .cons (Value.isInt_shape r) ih
end
section
section
variable {w : World} {A : Around} {E : Value → Shared → Prop} {h₀ h : Heap} {g : Array GenState} {d : Drawn} {t : Nat} {os : OsState} {mg mb : Str → Option Value}
 {B : Bk} {kvsR : List (Int × Value)} {specs : List (Int × List Int)} {rk : Int → Nat} {i : Nat} {sym ex : Int} {kp : Kp} {fr : Bool} {R W : List Int} {N : Led} {l0 : List Env} {lz : Option Value} {L it sa : Addr} {P : Pr} {cd : Value} {v : Value} {tls : List Tl}
noncomputable abbrev gnB (B : Bk) (sa : Addr) (dl : Value) : List (Str × Value) := [("_law_grow", .ref B.gr), ("story", .ref sa), ("deeds", dl)]
theorem deed_turn {Q : Flow → Shared → Prop} {dl : Value} (C : Cx w mg mb h₀) (D : Gd specs rk i) (hn5 : specs.length ≤ 1000)
  (hfr : A.frames = some (gnEnv L cd B :: l0)) (hl0 : ∀ env ∈ l0, env.scope.kind ≠ .module ∧ ∃ L b, env.frame = some L ∧ (L, nsP b) ∈ N) (hdep : A.depth + 36 < recursionLimit) (hh : A.handled = none) (hun : A.units + 2 < cLine)
  (F : GFix w mg B kvsR specs N) (fo : FrOk mg B N fr lz) (I : Inv specs rk i (kp.map krOf)) (hs5 : rk sym ≤ 5) (hs1 : sym < 100000)
  (hR : R.length ≤ 94 * i) (hW : W.length ≤ 8 * i) (hi : i ≤ 60) (ht : tls.length ≤ 100)
  (hv : tupR N v (sym, ex))
  (S : St h₀ ((it, P) :: (sa, lsR (stR N) tls) :: (L, nsP (gnB B sa dl)) :: GL w B kp lz W R N) h)
  (q : ∀ kp2 lz2 W2 Nx h t, kp2.map krOf = (deedF specs 5 (kp.map krOf, fr) (sym, ex)).2.1 → FrOk mg B (Nx ++ N) (deedF specs 5 (kp.map krOf, fr) (sym, ex)).2.2 lz2 → W2.length ≤ W.length + 8 →
   St h₀ ((it, P) :: (sa, lsR (stR (Nx ++ N)) (tls ++ [(deedF specs 5 (kp.map krOf, fr) (sym, ex)).1])) :: (L, nsP (gnB B sa dl)) :: GL w B kp2 lz2 W2 (R ++ (deedF specs 5 (kp.map krOf, fr) (sym, ex)).1.runs) (Nx ++ N)) h → Q .next ⟨h, g, d, t, os⟩) :
  wpAny (model PP w) A (assign deedTgt (gnEnv L cd B) v) (fun _ s₂ => wpAny (model PP w) A (execs deedBody (gnEnv L cd B)) Q E s₂) E ⟨h, g, d, t, os⟩ := by
 (revert hv; intro zh; refine xEEEA zh fun p t1 t2 zq3 mp => ?_; clear zh; subst zq3)
 dsimp only at mp
 dsimp only [deedTgt, deedBody, deedD]
 have mN : ∀ {q : Addr × Pr}, q ∈ N → ∀ {a b c : Addr × Pr}, q ∈ a :: b :: c :: GL w B kp lz W R N := fun hq => .tail _ (.tail _ (.tail _ (GL.n hq)))
 refine asg_T hh S (mN mp) rfl rfl fun h₁ S₁ => ?_
 refine assignInOrder_cons ?_
 refine asg_L S₁ (by exact rfl) (.tail (.tail .head)) (.new (by simp only [List.map_cons, List.map_nil]; decide)) fun h₂ S₂ => ?_
 refine assignInOrder_cons ?_
 refine asg_L S₂ (by exact rfl) (.tail (.tail .head)) (.new (by simp only [List.map_cons, List.map_nil]; decide)) fun h₃ S₃ => ?_
 refine assignInOrder_nil ?_
 clear S S₁ S₂
 refine k_execs_cons ?_
 refine k_Assign_Name ?_
 refine k_Call_Name_kw ?_
 refine name_B C S₃ C.b_len ?_
 refine cw_B ?_
 refine k_items_cons ?_
 refine name_C S₃ (by exact rfl) (mN F.runs) ?_
 refine wpAny_items_nil ?_
 refine lr_len (R := isI) (xs := R) S₃ (.tail _ (.tail _ (.tail _ (.tail _ (.tail _ (.tail _ (.head _))))))) ?_ (by lia)
 refine store_L S₃ (by exact rfl) (.tail (.tail .head)) (.new (by simp only [List.map_cons, List.map_nil]; decide)) fun h₄ S₄ => ?_
 clear S₃
 try dsimp only
 refine k_execs_cons ?_
 have lok := look_ok (z := i) D.W 5 ⟨kp.map krOf, fr, []⟩ sym hs5 I
 have hrl := look_runs (z := i) (s := (kp.map krOf, fr)) D.W I hs5 hs5
 refine wpAny_mono (Q := fun (f : Flow) s => f = .next ∧ ∃ kp2 lz2 W2 Nx tv td h t, s = ⟨h, g, d, t, os⟩ ∧ kp2.map krOf = mid specs 5 (kp.map krOf, fr) (sym, ex) ∧ FrOk mg B (Nx ++ N) (lookF specs 5 ⟨kp.map krOf, fr, []⟩ sym).2.fr lz2 ∧ W2.length ≤ W.length + 8 ∧
   toldR (Nx ++ N) tv (lookF specs 5 ⟨kp.map krOf, fr, []⟩ sym).1 ∧
   St h₀ ((it, P) :: (sa, lsR (stR N) tls) :: (L, nsP (("told", tv) :: ("done", .int R.length td) :: ("extra", .int ex t2) :: ("symbol", .int sym t1) :: gnB B sa dl)) :: GL w B kp2 lz2 W2 (R ++ (lookF specs 5 ⟨kp.map krOf, fr, []⟩ sym).2.runs) (Nx ++ N)) h) ?tr ?rs fun _ _ e => e
 case tr =>
  refine wpAny_Try_except ?_
  refine k_execs_cons ?_
  refine k_Assign_Name ?_
  refine k_Call_Name_kw ?_
  refine name_C S₄ (by exact rfl) (mN F.look) ?_
  refine xEA (S₄.get (mN F.lkO)) fun lo hlo elo => ?_
  refine cw_D (o := lo) (fd := fnX "_law_look" lkQ lkPar lkBody lkSc [("waiting", B.cw), ("book", B.cb)] .none .none B.ld (pmV mg) none (.ref B.lc) B.lt) ?_
  refine k_items_cons ?_
  refine name_L S₄ (by exact rfl) (.tail _ (.tail _ (.head _))) (.tail _ (.tail _ (.head _))) ?_
  refine wpAny_items_nil ⟨⟨hlo, by rw [elo]⟩, wpAny_call ?_⟩
  generalize htd : (t + 1 + 1 + 1 : Nat) = td at S₄
  have S₅ : St h₀ (GL w B kp lz W (R ++ []) ((it, P) :: (sa, lsR (stR N) tls) :: (L, nsP (("done", .int R.length td) :: ("extra", .int ex t2) :: ("symbol", .int sym t1) :: gnB B sa dl)) :: N)) h₄ := by
   rw [List.append_nil]
   exact S₄.perm (((GL.in _).trans ((GL.in _).cons _)).trans (((GL.in _).cons _).cons _))
  have mN' : ∀ q ∈ N, q ∈ (it, P) :: (sa, lsR (stR N) tls) :: (L, nsP (("done", .int R.length td) :: ("extra", .int ex t2) :: ("symbol", .int sym t1) :: gnB B sa dl)) :: N := fun q hq => .tail _ (.tail _ (.tail _ hq))
  have LK : LookC w mg h₀ g d os B kvsR specs rk i 5 := @look_all w h₀ g d os mg mb B kvsR specs rk i C D hn5 5
  have hVB : VB (rk sym) ≤ 4096 := VB_mono hs5
  refine LK (sym := sym) (u := t1) (fr := fr) (rs := []) (R0 := R) (kp := kp) (W := W) (lz := lz) (l := gnEnv L cd B :: l0) ⟨hfr, ?frs⟩ (by assumption) hh hs5 hs1 I (by rw [List.length_nil]; lia) (by lia) (fo.mono mN') (F.mono mN') S₅ ?_
  case frs =>
   intro env he
   rcases List.mem_cons.mp he with rfl | he
   ·exact ⟨by show gnSc.kind ≠ _; rw [show gnSc.kind = .function from rfl]; decide, L, _, rfl, .tail _ (.tail _ (.head _))⟩
   ·refine xAEEA (hl0 env he) fun a L' b' c m => ?_
    exact ⟨a, L', b', c, mN' _ m⟩
  have hmid : mid specs 5 (kp.map krOf, fr) (sym, ex) = if ex < 4 then app0 (lookF specs 5 ⟨kp.map krOf, fr, []⟩ sym).2.kept sym else (lookF specs 5 ⟨kp.map krOf, fr, []⟩ sym).2.kept := rfl
  have herr := fun b => look_err (b := b) (z := i) D.W (n := 5) (s := ⟨kp.map krOf, fr, []⟩) hs5 I
  (refine (Eq.symm (hmid)) ▸ ?_)
  unfold LkOut
  cases hx : lookF specs 5 ⟨kp.map krOf, fr, []⟩ sym with
  | mk res s' =>
  rw [hx] at lok herr
  cases res with
  | inl b =>
   intro add lz2 W2 N2 e tk h₅ t₅ hk hf hW2 X
   dsimp only at hk hf X herr
   have X' : Rz h₀ ((L, nsP (("done", .int R.length td) :: ("extra", .int ex t2) :: ("symbol", .int sym t1) :: gnB B sa dl)) :: (it, P) :: (sa, lsR (stR N) tls) :: GL w B (kp ++ add) lz2 (W ++ W2) (R ++ s'.runs) (N2 ++ N)) (gnEnv L cd B :: l0) (.type "ValueError") e [.str (noLine b) tk] h₅ := by
    refine X.perm ?_
    have p1 := (GL.inApp (w := w) (B := B) (kp := kp ++ add) (lz := lz2) (W := W ++ W2) (rs := R ++ s'.runs) (N := (sa, lsR (stR N) tls) :: (L, nsP (("done", .int R.length td) :: ("extra", .int ex t2) :: ("symbol", .int sym t1) :: gnB B sa dl)) :: N) N2 (it, P)).trans
     (((GL.inApp N2 _).trans ((GL.inApp N2 _).cons _)).cons _)
    refine List.Perm.trans ?_ p1.symm
    exact ((List.Perm.swap _ _ _).trans ((List.Perm.swap _ _ _).cons _))
   refine caught_S C hfr X' .head rfl (by rfl) (by rfl) (by rfl) fun te h₆ t₆ E'' S₆ => ?_
   refine k_execs_cons ?_
   refine k_Assign_Name ?_
   refine k_Call_Name_kw ?_
   refine name_B C S₆ C.b_str ?_
   refine PyProof.Rows.callWith_type rfl (ea_any rfl ?_)
   refine k_items_cons ?_
   refine name_L S₆ (by exact rfl) (.tail _ (.tail _ (.head _))) (.head _) ?_
   refine wpAny_items_nil ?_
   refine str_exc S₆ (.head _) (.tail _ (.head _)) hun ?_
   refine store_L S₆ (by exact rfl) (.tail (.tail .head)) (.new (by simp only [List.map_cons, List.map_nil]; decide)) fun h₇ S₇ => ?_
   try dsimp only
   refine wpAny_execs_nil ?_
   have S₈ := S₇.weak (.tail (.tail .head)) (nsP_perm (b' := ("error", .ref e) :: ("told", .str (noLine b) tk) :: ("done", .int R.length td) :: ("extra", .int ex t2) :: ("symbol", .int sym t1) :: gnB B sa dl) (List.Perm.swap _ _ _))
   refine nm_goes S₈ (by exact rfl) (.tail (.tail .head)) fun h₉ S₉ => ?_
   refine ⟨rfl, kp ++ add, lz2, W ++ W2, N2, .str (noLine b) tk, td, h₉, _, rfl, ?_, ?_, by rw [List.length_append]; lia, ⟨tk, rfl⟩, ?_⟩
   ·rw [hk]
    have := app0_none (herr b rfl)
    rw [this]; split <;> rfl
   ·exact hf.ok fo
   ·exact (S₉.dropHead.dropHead).perm ((((List.Perm.swap _ _ _).cons _).trans (List.Perm.swap _ _ _)).symm.trans (List.Perm.refl _)).symm
  | inr row =>
   intro add lz2 a N2 h₅ t₅ hk hf ha S₆
   dsimp only at hk hf ha S₆ ⊢
   have S₇ : St h₀ ((it, P) :: (sa, lsR (stR N) tls) :: (L, nsP (("done", .int R.length td) :: ("extra", .int ex t2) :: ("symbol", .int sym t1) :: gnB B sa dl)) :: GL w B (kp ++ add) lz2 W (R ++ s'.runs) (N2 ++ N)) h₅ :=
    S₆.perm (((GL.inApp N2 _).trans (((GL.inApp N2 _).trans ((GL.inApp N2 _).cons _)).cons _))).symm
   refine store_L S₇ (by exact rfl) (.tail (.tail .head)) (.new (by simp only [List.map_cons, List.map_nil]; decide)) fun h₆ S₈ => ?_
   try dsimp only
   have hrow := lok.row row rfl
   have hT5 := TB_mono i hs5
   have hz := D.hz
   have ma : (a, lsR isI row) ∈ GL w B (kp ++ add) lz2 W (R ++ s'.runs) (N2 ++ N) := by
    rcases ha with ha | ⟨⟨N3, rfl, _⟩, _⟩
    ·exact GL.k ha
    ·exact GL.n (.head _)
   refine k_execs_cons ?_
   refine k_Assign_Name ?_
   refine k_Call_Name_kw ?_
   refine name_B C S₈ C.b_list ?_
   refine PyProof.Rows.callWith_type rfl (ea_any rfl ?_)
   refine k_items_cons ?_
   refine name_L S₈ (by exact rfl) (.tail _ (.tail _ (.head _))) (.head _) ?_
   refine wpAny_items_nil ?_
   refine lr_copy S₈ (.tail _ (.tail _ (.tail _ ma))) (fun T h₇ S₉ => ?_) (Nat.le_trans (show row.length ≤ 100000 by lia) (by decide))
   refine store_L S₉ (by exact rfl) (.tail (.tail (.tail .head))) (.new (by simp only [List.map_cons, List.map_nil]; decide)) fun h₈ S₁₀ => ?_
   try dsimp only
   refine k_execs_cons ?_
   refine k_If ?_
   refine k_isTrue_Compare1 ?_
   refine name_L S₁₀ (by exact rfl) (.tail _ (.tail _ (.tail _ (.head _)))) (.tail _ (.tail _ (.tail _ (.head _)))) ?_
   refine c_int ?_
   refine lt_ii ?_
   refine tr_b ?_
   have hndk : ((kp ++ add).map (·.1)).Nodup := by rw [kp_keys, hk]; exact lok.inv.nd
   refine ite_dec (fun hlt => ?_) fun hlt => ?_
   ·refine k_execs_cons ?_
    refine k_Expr_any ?_
    refine k_MethodCall ?_
    refine name_L S₁₀ (by exact rfl) (.tail _ (.tail _ (.tail _ (.head _)))) (.tail _ (.head _)) ?_
    refine gm_listR (R := isI) (xs := row) PySem.F.slot_list_append PySem.F.type_list_append S₁₀ (.tail _ (.tail _ (.tail _ (.tail _ ma)))) ?_
    refine cw_B ?_
    refine k_items_cons ?_
    refine c_int ?_
    refine wpAny_items_nil ?_
    rcases ha with ha | ⟨⟨N3, rfl, hfn⟩, hno⟩
    ·refine lr_append (y := (0 : Int)) S₁₀ (.tail (.tail (.tail (.tail (.tail (.tail (.tail (.tail (kpApp_up hndk ha))))))))) ⟨_, rfl⟩ (fun h₉ S₁₁ => ?_) (Nat.le_trans (show row.length ≤ 100000 by lia) (by decide))
     try dsimp only
     refine wpAny_execs_nil ?_
     try dsimp only
     refine wpAny_execs_nil ?_
     try dsimp only
     refine wpAny_execs_nil ?_
     have S₁₂ : St h₀ ((T, lsR isI row) :: (it, P) :: (sa, lsR (stR N) tls) :: (L, nsP (("told", .ref T) :: ("row", .ref a) :: ("done", .int R.length td) :: ("extra", .int ex t2) :: ("symbol", .int sym t1) :: gnB B sa dl)) :: GL w B (kpApp (kp ++ add) sym) lz2 W (R ++ s'.runs) (N2 ++ N)) h₉ := by
      unfold GL; rw [kpApp_kv]; exact S₁₁
     refine ⟨rfl, kpApp (kp ++ add) sym, lz2, W, (T, lsR isI row) :: N2, .ref T, td, h₉, _, rfl, ?_, (hf.ok fo).mono fun q hq => .tail _ hq, by (exact Nat.le_add_right _ _), ⟨T, rfl, .head _⟩, ?_⟩
     ·rw [if_pos hlt, kpApp_kr, hk]
     ·have S₁₃ := S₁₂.wk (.keep (fun _ z => z) (.keep (fun _ z => z) (.keep (fun _ z => z) (.keep (nsP_sub (.cons_cons _ (.cons _ (List.Sublist.refl _)))) .refl))))
      exact S₁₃.perm ((((GL.in _).cons _).cons _).cons _ |>.trans (((List.Perm.swap _ _ _).cons _).cons _ |>.trans ((List.Perm.swap _ _ _).cons _ |>.trans (List.Perm.swap _ _ _))))
    ·refine lr_append (y := (0 : Int)) S₁₀ (.tail (.tail (.tail (.tail (.tail (.tail (.tail (.tail (Up.app (Up.head (r := N3 ++ N)) ((kp ++ add).map enOf)))))))))) ⟨_, rfl⟩ (fun h₉ S₁₁ => ?_) (Nat.le_trans (show row.length ≤ 100000 by lia) (by decide))
     try dsimp only
     refine wpAny_execs_nil ?_
     try dsimp only
     refine wpAny_execs_nil ?_
     try dsimp only
     refine wpAny_execs_nil ?_
     have S₁₂ : St h₀ ((T, lsR isI row) :: (it, P) :: (sa, lsR (stR N) tls) :: (L, nsP (("told", .ref T) :: ("row", .ref a) :: ("done", .int R.length td) :: ("extra", .int ex t2) :: ("symbol", .int sym t1) :: gnB B sa dl)) :: GL w B (kp ++ add) lz2 W (R ++ s'.runs) ((a, lsR isI (row ++ [0])) :: N3 ++ N)) h₉ := S₁₁
     refine ⟨rfl, kp ++ add, lz2, W, (T, lsR isI row) :: (a, lsR isI (row ++ [0])) :: N3, .ref T, td, h₉, _, rfl, ?_, (hfn.ok fo).mono fun q hq => .tail _ (.tail _ hq), by (exact Nat.le_add_right _ _), ⟨T, rfl, .head _⟩, ?_⟩
     ·rw [if_pos hlt, app0_none hno, hk]
     ·have S₁₃ := S₁₂.wk (.keep (fun _ z => z) (.keep (fun _ z => z) (.keep (fun _ z => z) (.keep (nsP_sub (.cons_cons _ (.cons _ (List.Sublist.refl _)))) .refl))))
      exact S₁₃.perm ((((GL.in _).cons _).cons _).cons _ |>.trans (((List.Perm.swap _ _ _).cons _).cons _ |>.trans ((List.Perm.swap _ _ _).cons _ |>.trans (List.Perm.swap _ _ _))))
   ·refine wpAny_execs_nil ?_
    try dsimp only
    refine wpAny_execs_nil ?_
    try dsimp only
    refine wpAny_execs_nil ?_
    refine ⟨rfl, kp ++ add, lz2, W, (T, lsR isI row) :: N2, .ref T, td, h₈, _, rfl, ?_, (hf.ok fo).mono fun q hq => .tail _ hq, by (exact Nat.le_add_right _ _), ⟨T, rfl, .head _⟩, ?_⟩
    ·rw [if_neg hlt, hk]
    ·have S₁₃ := S₁₀.wk (.keep (fun _ z => z) (.keep (fun _ z => z) (.keep (fun _ z => z) (.keep (nsP_sub (.cons_cons _ (.cons _ (List.Sublist.refl _)))) .refl))))
     exact S₁₃.perm ((((GL.in _).cons _).cons _).cons _ |>.trans (((List.Perm.swap _ _ _).cons _).cons _ |>.trans ((List.Perm.swap _ _ _).cons _ |>.trans (List.Perm.swap _ _ _))))
 case rs =>
  intro f s zr; obtain ⟨rfl, kp2, lz2, W2, Nx, tv, td, h₅, t₅, rfl, hk2, hf2, hW2, htv, S₅⟩ := zr
  try dsimp only
  have Im := mid_inv (z := i) (s := (kp.map krOf, fr)) (e := (sym, ex)) D.W I hs5
  have Ifn := fin_inv (z := i) (s := (kp.map krOf, fr)) (e := (sym, ex)) D.W I hs5
  have hsz2 : (kp2.map kvOf).length ≤ 1000 := by
   have h1 := Im.size
   have h2 := congrArg List.length hk2
   rw [List.length_map] at h2 ⊢
   lia
  generalize hx : lookF specs 5 ⟨kp.map krOf, fr, []⟩ sym = x at S₅ htv hf2 hrl
  have mN2 : ∀ {q : Addr × Pr}, q ∈ N → ∀ {a b c : Addr × Pr} {kp' : Kp}, q ∈ a :: b :: c :: GL w B kp' lz2 W2 (R ++ x.2.runs) (Nx ++ N) := fun hq => .tail _ (.tail _ (.tail _ (GL.n (List.mem_append_right _ hq))))
  refine k_execs_cons ?_
  refine wpAny_mono (Q := fun (f : Flow) s => f = .next ∧ ∃ kp3 h t, s = ⟨h, g, d, t, os⟩ ∧ kp3.map krOf = fin specs 5 (kp.map krOf, fr) (sym, ex) ∧
   St h₀ ((it, P) :: (sa, lsR (stR N) tls) :: (L, nsP (("told", tv) :: ("done", .int R.length td) :: ("extra", .int ex t2) :: ("symbol", .int sym t1) :: gnB B sa dl)) :: GL w B kp3 lz2 W2 (R ++ x.2.runs) (Nx ++ N)) h) ?pp ?st fun _ _ e => e
  case pp =>
   refine k_If ?_
   refine k_isTrue_Compare1 ?_
   refine name_L S₅ (by exact rfl) (.tail _ (.tail _ (.head _))) (.tail _ (.tail _ (.head _))) ?_
   (with_reducible refine k_Tuple ?_); refine k_items_cons ?_; (with_reducible refine c_int ?_); refine k_items_cons ?_; (with_reducible refine c_int ?_); (with_reducible refine wpAny_items_nil ?_)
   refine n_tup S₅ fun tp h₆ S₆ => ?_
   refine in_T2 S₆ (.head _) ?_
   refine tr_b ?_
   replace S₆ := S₆.dropHead
   refine ite_dec (fun hpop => ?_) fun hpop => ?_
   ·refine k_execs_cons ?_
    refine k_Expr_any ?_
    refine k_MethodCall ?_
    refine name_C S₆ (by exact rfl) (mN2 F.book) ?_
    refine gm_fd C S₆ (.tail _ (.tail _ (.tail _ (.head _)))) (.tail _ (.tail _ (.tail _ (.tail _ (.head _))))) (fd_dpop w) (ty_dpop w) (by decide) (by decide) ?_
    refine cw_B ?_
    refine k_items_cons ?_
    refine name_L S₆ (by exact rfl) (.tail _ (.tail _ (.head _))) (.tail _ (.tail _ (.tail _ (.head _)))) ?_
    refine k_items_cons ?_
    refine c_none ?_
    refine wpAny_items_nil ?_
    refine fd_pop C S₆ (.tail (.tail (.tail .head))) F.hx (intKind_is PP w sym t1) (by (exact Nat.le_trans (by assumption) (by decide))) fun v h₇ t₇ S₇ => ?_
    try dsimp only
    refine wpAny_execs_nil ?_
    have S₈ := GL.thin (M := [(it, P), (sa, lsR (stR N) tls), (L, nsP (("told", tv) :: ("done", .int R.length td) :: ("extra", .int ex t2) :: ("symbol", .int sym t1) :: gnB B sa dl))]) (kp' := kpDrop kp2 sym) S₇ (kpDrop_kv kp2 sym).symm List.filter_sublist
    refine ⟨rfl, kpDrop kp2 sym, h₇, t₇, rfl, ?_, S₈⟩
    rw [kpDrop_kr, hk2]
    unfold fin; rw [if_pos hpop]
   ·refine wpAny_execs_nil ?_
    refine ⟨rfl, kp2, h₆, _, rfl, ?_, S₆⟩
    rw [hk2]
    unfold fin; rw [if_neg hpop]
  case st =>
   intro f s zr; (revert zr; intro zh; refine xAEEEAA zh fun zq0 kp3 h₆ t₆ zq4 hk3 S₆ => ?_; clear zh; subst zq0; subst zq4)
   have hsz3 : (kp3.map kvOf).length ≤ 1000 := by
    have h1 := Ifn.size
    have h2 := congrArg List.length hk3
    rw [List.length_map] at h2 ⊢
    lia
   try dsimp only
   refine k_execs_cons ?_
   refine k_Expr_any ?_
   refine k_MethodCall ?_
   refine name_L S₆ (by exact rfl) (.tail _ (.tail _ (.head _))) (.tail _ (.tail _ (.tail _ (.tail _ (.tail _ (.head _)))))) ?_
   refine gm_listR (R := stR N) (xs := tls) PySem.F.slot_list_append PySem.F.type_list_append S₆ (.tail _ (.head _)) ?_
   refine cw_B ?_
   refine k_items_cons ?_
   refine k_Tuple ?_
   refine k_items_cons ?_
   refine name_L S₆ (by exact rfl) (.tail _ (.tail _ (.head _))) (.head _) ?_
   refine k_items_cons ?_
   refine e_from (h₀ := h₀) isI (R ++ x.2.runs) ?_
   refine name_C S₆ (by exact rfl) (mN2 F.runs) ?_
   refine name_L S₆ (by exact rfl) (.tail _ (.tail _ (.head _))) (.tail _ (.head _)) ?_
   refine (SlF_in B.ra R.length td _ rfl rfl S₆ (.tail _ (.tail _ (.tail _ (.tail _ (.tail _ (.tail _ (.head _))))))) ((Nat.le_trans (show (R ++ x.2.runs).length ≤ 100000 by rw [List.length_append]; lia) (by decide))) (fun Dr h₇ S₇ => ?_))
   try dsimp only at S₇ ⊢
   rw [List.drop_left] at S₇
   refine k_items_cons ?_
   refine k_Call_Name_kw ?_
   refine name_B C S₇ C.b_list ?_
   refine PyProof.Rows.callWith_type rfl (ea_any rfl ?_)
   refine k_items_cons ?_
   refine name_C S₇ (by exact rfl) (.tail _ (mN2 F.book)) ?_
   refine wpAny_items_nil ?_
   refine xEEAA (S₇.openE (.tail _ (.tail _ (.tail _ (.tail _ (.head _)))))) fun ep K' SE u1 u2 => ?_
   refine fd_list C SE hh u1.mem' F.hx (by (exact Nat.le_trans (by assumption) (by decide))) fun kl vs h₈ t₈ hvs S₈ => ?_
   have S₉ := (S₈.weak (.tail u2) fun o p => p.dP).closeR (ints_keys hvs)
   rw [List.map_map, show (fun x : Int × Value => x.1) ∘ kvOf = (fun p : Int × Addr × List Int => p.1) from rfl, kp_keys, hk3] at S₉
   refine wpAny_items_nil ?_
   refine n_tup S₉ fun tp h₁₀ S₁₀ => ?_
   refine wpAny_items_nil ?_
   have mNx : ∀ q ∈ N, q ∈ (tp, tpP [tv, .ref Dr, .ref kl]) :: (kl, lsR isI ((fin specs 5 (kp.map krOf, fr) (sym, ex)).map (·.1))) :: (Dr, lsR isI x.2.runs) :: Nx ++ N := fun q hq => List.mem_append_right _ hq
   have S₁₁ := S₁₀.weak (.tail (.tail (.tail (.tail .head)))) (lsR_mono (R' := stR ((tp, tpP [tv, .ref Dr, .ref kl]) :: (kl, lsR isI ((fin specs 5 (kp.map krOf, fr) (sym, ex)).map (·.1))) :: (Dr, lsR isI x.2.runs) :: Nx ++ N)) fun v y z => z.mono mNx)
   refine lr_append (y := (deedF specs 5 (kp.map krOf, fr) (sym, ex)).1) S₁₁ (.tail (.tail (.tail (.tail .head)))) ⟨tp, tv, Dr, kl, rfl, .head _, ?_, ?_, .tail _ (.head _)⟩ (fun h₁₂ S₁₂ => ?_) (Nat.le_trans (show tls.length ≤ 100 by assumption) (by decide))
   ·show toldR _ tv (lookF specs 5 ⟨kp.map krOf, fr, []⟩ sym).1
    rw [hx]
    exact htv.mono fun q hq => .tail _ (.tail _ (.tail _ hq))
   ·show (Dr, lsR isI (lookF specs 5 ⟨kp.map krOf, fr, []⟩ sym).2.runs) ∈ _
    rw [hx]
    exact .tail _ (.tail _ (.head _))
   try dsimp only
   refine wpAny_execs_nil ?_
   have hr : (deedF specs 5 (kp.map krOf, fr) (sym, ex)).1.runs = x.2.runs := by (refine (hx) ▸ ?_); rfl
   have hfr2 : (deedF specs 5 (kp.map krOf, fr) (sym, ex)).2.2 = x.2.fr := by (refine (hx) ▸ ?_); rfl
   refine q kp3 lz2 W2 ((tp, tpP [tv, .ref Dr, .ref kl]) :: (kl, lsR isI ((fin specs 5 (kp.map krOf, fr) (sym, ex)).map (·.1))) :: (Dr, lsR isI x.2.runs) :: Nx) h₁₂ _ hk3 ?_ hW2 ?_
   ·rw [hfr2]; exact hf2.mono fun q hq => .tail _ (.tail _ (.tail _ hq))
   ·(refine (Eq.symm (hr)) ▸ ?_)
    have S₁₃ := S₁₂.wk (.keep (fun _ z => z) (.keep (fun _ z => z) (.keep (fun _ z => z) (.keep (fun _ z => z) (.keep (fun _ z => z) (.keep (nsP_sub (.cons _ (.cons _ (.cons _ (.cons _ (List.Sublist.refl _)))))) .refl))))))
    refine S₁₃.perm ?_
    have g1 := (GL.in (w := w) (B := B) (kp := kp3) (lz := lz2) (W := W2) (rs := R ++ x.2.runs) (N := (kl, lsR isI ((fin specs 5 (kp.map krOf, fr) (sym, ex)).map (·.1))) :: (Dr, lsR isI x.2.runs) :: (Nx ++ N)) (tp, tpP [tv, .ref Dr, .ref kl])).trans (((GL.in _).trans ((GL.in _).cons _)).cons _)
    exact (((g1.cons _).cons _).cons _).trans (List.perm_append_comm_assoc [_, _, _] [_, _, _] _)
end
end
section
noncomputable def itR (N : Led) (v : Value) (y : Int × List Int) : Prop := ∃ p tk a, v = .ref p ∧ (p, tpP [.int y.1 tk, .ref a]) ∈ N ∧ (a, lsR isI y.2) ∈ N
theorem got_all {prog : Program} {w : World} {Kt : Type} [DecidableEq Kt] {knd : KeyKind prog w Kt} {kvs : List (Kt × Value)} {n : Nat} {vs : List Value} {Ns : Led}
  (G : Got (fun i v N => ∃ a key kv, v = .ref a ∧ N = [(a, tpP [key, kv.2])] ∧ kvs[i]? = some kv ∧ knd.is kv.1 key = true) n vs Ns) : All2 (fun v kv => ∃ a key, v = .ref a ∧ (a, tpP [key, kv.2]) ∈ Ns ∧ knd.is kv.1 key = true) vs (kvs.take n) := by
 induction G with
 | nil => exact .nil
 | @snoc i vs Ns v N _ hv ih =>
  (revert hv; intro zh; refine xEEEAAA zh fun a key kv zq3 zq4 hkv hk => ?_; clear zh; subst zq3; subst zq4)
  rw [List.take_add_one, hkv]
  exact (ih.imp fun v kv ⟨a, key, e, m, hk⟩ => ⟨a, key, e, .tail _ m, hk⟩).snoc ⟨a, key, rfl, .head _, hk⟩
theorem All2.map2 {α β γ δ : Type} {R : α → β → Prop} {R' : α → γ → Prop} {f : δ → β} {f' : δ → γ} {vs : List α} {ps : List δ} (k : ∀ v p, p ∈ ps → R v (f p) → R' v (f' p)) (h : All2 R vs (ps.map f)) : All2 R' vs (ps.map f') := by
 induction ps generalizing vs with
 | nil => cases h; exact .nil
 | cons p ps ih => cases h with | cons r h => exact .cons (k _ p (.head _) r) (ih (fun v q hq => k v q (.tail _ hq)) h)
section
variable {w : World} {A : Around} {E : Value → Shared → Prop} {h₀ h : Heap} {g : Array GenState} {d : Drawn} {t : Nat} {os : OsState} {mg mb : Str → Option Value} {K : Led}
 {kvsR : List (Int × Value)} {specs : List (Int × List Int)} {rk : Int → Nat}
theorem grown_call {Nt : Led} {R : Result → Shared → Prop} {ru dl cz : Addr} {es : List (Int × Int)} {l0 : List Env} (C : Cx w mg mb h₀) (S : St h₀ ((247, exP (tabObj #[])) :: K) h) (hsk : Sk A l0 K) (hdep : A.depth + 60 < recursionLimit) (hh : A.handled = none) (hun : A.units + 20 < cLine)
  (hru : 108 < ru) (mru : (ru, dP (intKind PP w) (.type "dict") none #[] kvsR) ∈ K) (hrk : rulesK kvsR K specs) (hNt : ∀ p ∈ Nt, p ∈ K) (mdl : (dl, lsR (tupR Nt) es) ∈ K) (mfz : (100, exP (fzTab cz)) ∈ K) (mcz : (cz, codP lzQ) ∈ K)
  (D : ∀ z, z ≤ 60 → Gd specs rk z) (hn5 : specs.length ≤ 1000) (hes : ∀ e ∈ es, rk e.1 ≤ 5 ∧ e.1 < 100000) (hlen : es.length ≤ 50)
  (q : ∀ tp sa li Nx h t, (∃ ps, (247, exP (tabObj ps)) ∈ Nx) → St h₀ ((tp, tpP [.ref sa, .ref li]) :: (sa, lsR (stR (Nx ++ K)) (deedsF specs 5 ([], false) es).1) :: (li, lsR (itR (Nx ++ K)) (deedsF specs 5 ([], false) es).2.1) :: (Nx ++ K)) h → R (.ok (.ret (.ref tp))) ⟨h, g, d, t, os⟩) :
  codeAny (model PP w) A (.call (.ref 252) ⟨[.ref ru, .ref dl], []⟩) R ⟨h, g, d, t, os⟩ := by
 refine' call_C (binds := [("rules", .ref ru), ("deeds", .ref dl)]) (bl := [("deeds", .ref dl)]) C S ?hroom ?ho ?hcd (fun t => BindsTo.of_eq ?hbind) ?hkind ?hnd0 ?hbl ?hnd ?h1 ?h2 ?h3 ?k
 case ho => k_is
 case hcd => k_is
 case hbind => exact rfl
 case hroom => (exact Nat.lt_of_le_of_lt (Nat.le_add_right _ _) (by assumption))
 case hkind =>
  intro n y hy
  rcases List.mem_cons.mp hy with rfl | hy
  ·exact .inr ⟨rfl, rfl⟩
  ·rw [List.mem_singleton] at hy; subst hy; exact .inl rfl
 case hnd0 => decide
 case hbl => intro L y hy; rw [List.mem_singleton] at hy; subst hy; rfl
 case hnd => simp only [List.map_cons, List.map_nil]; decide
 case h1 => rfl
 case h2 => rfl
 case h3 => rfl
 intro L h₁ t₁ S₁
 replace S₁ : St h₀ ((L + 5, cellP none) :: (L + 4, cellP none) :: (L + 3, cellP none) :: (L + 2, cellP none) :: (L + 1, cellP (some (.ref ru))) :: (L, nsP [("deeds", .ref dl)]) :: (247, exP (tabObj #[])) :: K) h₁ := S₁
 refine k_execs_cons ?_
 refine Assign_Tuple ?_
 refine k_Tuple ?_
 refine k_items_cons ?_; refine List_ ?_; refine wpAny_items_nil ?_; refine n_list S₁ fun wa h₂ S₂ => ?_
 refine k_items_cons ?_; refine List_ ?_; refine wpAny_items_nil ?_; refine n_list S₂ fun ra h₃ S₃ => ?_
 refine k_items_cons ?_; refine List_ ?_; refine wpAny_items_nil ?_; refine n_list S₃ fun sa h₄ S₄ => ?_
 refine wpAny_items_nil ?_
 refine n_tup S₄ fun tp0 h₅ S₅ => ?_
 refine asg_T (by exact hh) S₅ (.head _) rfl rfl fun h₆ S₆ => ?_
 replace S₆ := S₆.dropHead
 clear S₁ S₂ S₃ S₄ S₅
 refine assignInOrder_cons ?_
 refine wpAny_assign_Name (store_C S₆ (by exact rfl) (.tail (.tail (.tail .head))) fun h₇ S₇ => ?_)
 refine assignInOrder_cons ?_
 refine wpAny_assign_Name (store_C S₇ (by exact rfl) (.tail (.tail (.tail (.tail .head)))) fun h₈ S₈ => ?_)
 refine assignInOrder_cons ?_
 refine asg_L S₈ (by exact rfl) (.tail (.tail (.tail (.tail (.tail (.tail (.tail (.tail .head)))))))) (.new (by simp only [List.map_cons, List.map_nil]; decide)) fun h₉ S₉ => ?_
 refine assignInOrder_nil ?_
 clear S₆ S₇ S₈
 try dsimp only
 refine k_execs_cons ?_
 refine nestDef_K rfl rfl rfl ?_
 refine mk_def (P := 247) (c := 251) (ps := #[]) C S₉ (fun c' => .tail (.tail (.tail (.tail (.tail (.tail (.tail (.tail (.tail .head))))))))) C.H1 rfl rfl rfl trivial rfl ?_
 intro lk lc lt ld h₁₀ t₁₀ S₁₀
 replace S₁₀ : St h₀ ((lk, exP (fnMade "_law_look" lkQ lkPar lkBody lkSc [("waiting", L + 5), ("book", L + 3)] ld (pmV mg) lc lt)) :: (lc, codP lkQ) :: (sa, lsP []) :: (ra, lsP []) :: (wa, lsP []) ::
  (L + 5, cellP (some (.ref wa))) :: (L + 4, cellP (some (.ref ra))) :: (L + 3, cellP none) :: (L + 2, cellP none) :: (L + 1, cellP (some (.ref ru))) :: (L, nsP [("story", .ref sa), ("deeds", .ref dl)]) :: (247, exP (tabObj #[rawInt 174, rawInt 4, .ref lc])) :: K) h₁₀ := S₁₀
 refine store_C S₁₀ (by exact rfl) (.tail (.tail (.tail (.tail (.tail (.tail (.tail (.tail .head)))))))) fun h₁₁ S₁₁ => ?_
 clear S₉ S₁₀
 try dsimp only
 refine k_execs_cons ?_
 refine nestDef_K rfl rfl rfl ?_
 refine mk_def (P := 247) (c := 251) (ps := #[rawInt 174, rawInt 4, .ref lc]) C S₁₁ (fun c' => .tail (.tail (.tail (.tail (.tail (.tail (.tail (.tail (.tail (.tail (.tail .head))))))))))) C.H1 rfl rfl rfl trivial rfl ?_
 intro gr gc gt gd h₁₂ t₁₂ S₁₂
 replace S₁₂ : St h₀ ((gr, exP (fnMade "_law_grow" gwQ gwPar gwBody gwSc [("waiting", L + 5), ("runs", L + 4), ("rules", L + 1), ("_law_look", L + 2)] gd (pmV mg) gc gt)) :: (gc, codP gwQ) ::
  (lk, exP (fnMade "_law_look" lkQ lkPar lkBody lkSc [("waiting", L + 5), ("book", L + 3)] ld (pmV mg) lc lt)) :: (lc, codP lkQ) :: (sa, lsP []) :: (ra, lsP []) :: (wa, lsP []) ::
  (L + 5, cellP (some (.ref wa))) :: (L + 4, cellP (some (.ref ra))) :: (L + 3, cellP none) :: (L + 2, cellP (some (.ref lk))) :: (L + 1, cellP (some (.ref ru))) :: (L, nsP [("story", .ref sa), ("deeds", .ref dl)]) :: (247, exP (tabObj (#[rawInt 174, rawInt 4, .ref lc] ++ #[rawInt 184, rawInt 4, .ref gc]))) :: K) h₁₂ := S₁₂
 refine store_L S₁₂ (by exact rfl) (.tail (.tail (.tail (.tail (.tail (.tail (.tail (.tail (.tail (.tail (.tail (.tail .head)))))))))))) (.new (by simp only [List.map_cons, List.map_nil]; decide)) fun h₁₃ S₁₃ => ?_
 clear S₁₁ S₁₂
 try dsimp only
 refine k_execs_cons ?_
 refine k_Assign_Name ?_
 refine k_Call_Name_kw ?_
 refine name_G C S₁₃ C.g_fdd ?_
 refine cw_fd C ?_
 refine k_items_cons ?_
 refine name_L S₁₃ (by exact rfl) (.tail _ (.tail _ (.tail _ (.tail _ (.tail _ (.tail _ (.tail _ (.tail _ (.tail _ (.tail _ (.tail _ (.tail _ (.head _))))))))))))) (.head _) ?_
 refine wpAny_items_nil ⟨S₁₃.keep, ?_⟩
 refine fd_makeS (intKind PP w) C S₁₃ (.head _) rfl rfl fun x dx h₁₄ hx S₁₄ => ?_
 refine store_C S₁₄ (by exact rfl) (.tail (.tail (.tail (.tail (.tail (.tail (.tail (.tail (.tail (.tail (.tail .head))))))))))) fun h₁₅ S₁₅ => ?_
 clear S₁₃ S₁₄
 try dsimp only
 let B : Bk := { x := x, dx := dx, wa := wa, ra := ra, gr := gr, lk := lk, ru := ru, cb := L + 3, cw := L + 5, cr := L + 4, cl := L + 2, cu := L + 1, lc := lc, gc := gc, cz := cz, ld := ld, lt := lt, gd := gd, gt := gt }
 let N0 : Led := (gr, exP (gwObj mg B)) :: (gc, codP gwQ) :: (lk, exP (lkObj mg B)) :: (lc, codP lkQ) :: (L + 5, cellP (some (.ref wa))) :: (L + 4, cellP (some (.ref ra))) :: (L + 3, cellP (some (.ref x))) :: (L + 2, cellP (some (.ref lk))) :: (L + 1, cellP (some (.ref ru))) :: (247, exP (tabObj (#[rawInt 174, rawInt 4, .ref lc] ++ #[rawInt 184, rawInt 4, .ref gc]))) :: K
 have mK : ∀ p ∈ K, p ∈ N0 := fun p hp => .tail _ (.tail _ (.tail _ (.tail _ (.tail _ (.tail _ (.tail _ (.tail _ (.tail _ (.tail _ hp)))))))))
 have F : GFix w mg B kvsR specs N0 := ⟨hx, hru, (.tail _ (.tail _ (.tail _ (.tail _ (.tail _ (.tail _ (.head _))))))), (.tail _ (.tail _ (.tail _ (.tail _ (.head _))))), (.tail _ (.tail _ (.tail _ (.tail _ (.tail _ (.head _)))))), (.tail _ (.tail _ (.tail _ (.tail _ (.tail _ (.tail _ (.tail _ (.head _)))))))), (.tail _ (.tail _ (.tail _ (.tail _ (.tail _ (.tail _ (.tail _ (.tail _ (.head _))))))))), (.tail _ (.tail _ (.head _))), (.tail _ (.tail _ (.tail _ (.head _)))), (.head _), (.tail _ (.head _)), mK _ mru, (rulesK_mono (fun _ e => mK _ e) hrk), mK _ mfz, mK _ mcz⟩
 have S₁₆ : St h₀ ((sa, lsR (stR N0) []) :: (L, nsP (gnB B sa (.ref dl))) :: GL w B [] none [] [] N0) h₁₅ := by
  have S' : St h₀ ((x, dP (intKind PP w) (.ref 108) (some dx) #[some (.ref gr)] []) :: (dx, fzP none) :: (gr, exP (gwObj mg B)) :: (gc, codP gwQ) :: (lk, exP (lkObj mg B)) :: (lc, codP lkQ) :: (sa, lsR (stR N0) []) :: (ra, lsR isI []) :: (wa, lsR isI []) ::
    (L + 5, cellP (some (.ref wa))) :: (L + 4, cellP (some (.ref ra))) :: (L + 3, cellP (some (.ref x))) :: (L + 2, cellP (some (.ref lk))) :: (L + 1, cellP (some (.ref ru))) :: (L, nsP (gnB B sa (.ref dl))) :: (247, exP (tabObj (#[rawInt 174, rawInt 4, .ref lc] ++ #[rawInt 184, rawInt 4, .ref gc]))) :: K) h₁₅ :=
   S₁₅.wk (.keep (fun _ z => z) (.keep (fun _ z => z) (.keep (fun _ z => z) (.keep (fun _ z => z) (.keep (fun _ z => z) (.keep (fun _ z => z) (.keep lsR_nil (.keep lsR_nil (.keep lsR_nil (.keep (fun _ z => z) (.keep (fun _ z => z) (.keep (fun _ z => z) (.keep (fun _ z => z) (.keep (fun _ z => z) (.keep (fun _ z => z) (.refl))))))))))))))))
  exact (((((S'.take (.tail (.tail (.tail (.tail (.tail (.tail (.tail .head)))))))).take (.tail (.tail (.tail (.tail (.tail (.tail (.tail (.tail .head))))))))).take (.tail (.tail (.tail .head)))).take (.tail (.tail (.tail .head)))).take (.tail (.tail (.tail (.tail (.tail (.tail (.tail (.tail (.tail (.tail (.tail (.tail (.tail (.tail .head))))))))))))))).take (.tail (.tail (.tail (.tail (.tail (.tail (.tail (.tail (.tail .head)))))))))
 clear S₁₅
 have hfr : (A.deeper (gnEnv L (.ref 251) B)).frames = some (gnEnv L (.ref 251) B :: l0) := Around.frames_deeper hsk.1
 refine k_execs_cons ?_
 refine For_ ?_
 refine name_L S₁₆ (by exact rfl) (.tail _ (.head _)) (.tail _ (.tail _ (.head _))) ?_
 refine for_lr (R := tupR Nt) (xs := es) (I := fun i K' => ∃ kp lz W R Nx, K' = (sa, lsR (stR (Nx ++ N0)) (deedsF specs 5 ([], false) (es.take i)).1) :: (L, nsP (gnB B sa (.ref dl))) :: GL w B kp lz W R (Nx ++ N0) ∧
  kp.map krOf = (deedsF specs 5 ([], false) (es.take i)).2.1 ∧ FrOk mg B (Nx ++ N0) (deedsF specs 5 ([], false) (es.take i)).2.2 lz ∧ Inv specs rk i (kp.map krOf) ∧ R.length ≤ 94 * i ∧ W.length ≤ 8 * i ∧ (deedsF specs 5 ([], false) (es.take i)).1.length = i) (by exact hh) S₁₆ ?i0 ?hok ?turn ?done
 case i0 => exact ⟨[], none, [], [], [], rfl, rfl, rfl, ⟨fun p hp => by simp at hp, fun p hp => by simp at hp, List.nodup_nil⟩, Nat.le_refl _, Nat.le_refl _, rfl⟩
 case hok => intro i K' zr; (revert zr; intro zh; refine xEEEEEA zh fun kp lz W R Nx zq5 zu6 => ?_; clear zh; subst zq5); exact .tail _ (.tail _ (GL.n (List.mem_append_right _ (mK _ mdl))))
 case turn =>
  intro i v y K' h₁₇ it t₁₇ hy hvy zr S₁₇; obtain ⟨kp, lz, W, R', Nx, rfl, hk, hf, I, hR, hW, hl⟩ := zr
  have hyes := hes y (List.mem_of_getElem? hy)
  have hi : i < es.length := (List.getElem?_eq_some_iff.mp hy).1
  have hsn := deedsF_snoc specs 5 ([], false) (es.take i) y
  have htk : es.take (i + 1) = es.take i ++ [y] := by (refine (Eq.symm (List.take_add_one)) ▸ ?_; refine (Eq.symm (hy)) ▸ ?_); rfl
  obtain ⟨sym, ex⟩ := y
  generalize hst : deedsF specs 5 ([], false) (es.take i) = st at hk hf hl hsn S₁₇
  obtain ⟨tls, kept, fr⟩ := st
  dsimp only at hk hf hl hsn S₁₇ hyes
  subst hk
  refine deed_turn (B := B) (sym := sym) (ex := ex) (specs := specs) (rk := rk) (i := i) (kp := kp) (fr := fr) (lz := lz) (R := R') (W := W) (N := Nx ++ N0) (l0 := l0) (tls := tls) (dl := .ref dl) C (D i (by lia)) hn5 hfr ?fl0 (by show A.depth + 1 + 36 < _; lia) hh (by show A.units + 3 + 2 < _; lia) (F.mono fun p hp => List.mem_append_right _ hp) hf I hyes.1 hyes.2
   hR hW (by lia) (by lia) ?hv S₁₇ ?q
  case fl0 =>
   intro env he
   refine xAEEA (hsk.2 env he) fun a L' b' c m => ?_
   exact ⟨a, L', b', c, List.mem_append_right _ (mK _ m)⟩
  case hv => (revert hvy; intro zh; refine xEEEA zh fun p t1 t2 e m => ?_; clear zh); exact ⟨p, t1, t2, e, List.mem_append_right _ (mK _ (hNt _ m))⟩
  case q =>
   intro kp2 lz2 W2 Nx2 h₁₈ t₁₈ hk2 hf2 hW2 S₁₈
   have Ifn := fin_inv (z := i) (s := (kp.map krOf, fr)) (e := (sym, ex)) (D i (by lia)).W I hyes.1
   have hrl := look_runs (z := i) (s := (kp.map krOf, fr)) (D i (by lia)).W I hyes.1 hyes.1
   refine LoopP.next (K := (sa, lsR (stR (Nx2 ++ (Nx ++ N0))) (tls ++ [(deedF specs 5 (kp.map krOf, fr) (sym, ex)).1])) :: (L, nsP (gnB B sa (.ref dl))) :: GL w B kp2 lz2 W2 (R' ++ (deedF specs 5 (kp.map krOf, fr) (sym, ex)).1.runs) (Nx2 ++ (Nx ++ N0))) ?_ S₁₈
   (refine (Eq.symm (htk)) ▸ ?_; refine (Eq.symm (hsn)) ▸ ?_)
   refine ⟨kp2, lz2, W2, _, Nx2 ++ Nx, by rw [List.append_assoc], hk2, by rw [List.append_assoc]; exact hf2, by rw [hk2]; exact Ifn, ?_, by lia, by (refine (Eq.symm (List.length_append)) ▸ ?_; refine (Eq.symm (hl)) ▸ ?_); rfl⟩
   rw [List.length_append]
   have : (deedF specs 5 (kp.map krOf, fr) (sym, ex)).1.runs.length ≤ 94 := hrl
   (exact Nat.add_le_add (by assumption) (by assumption))
 case done =>
  intro K' h₁₇ t₁₇ zr S₁₇; obtain ⟨kp, lz, W, R', Nx, rfl, hk, hf, I, hR, hW, hl⟩ := zr
  rw [List.take_length] at hk hf hl S₁₇
  have hsz : (kp.map kvOf).length ≤ 1000 := by
   have := I.size
   rw [List.length_map] at this ⊢; (exact Nat.le_trans (by assumption) (by assumption))
  try dsimp only
  refine k_execs_cons ?_
  refine k_Return_some ?_
  refine k_Tuple ?_
  refine k_items_cons ?_
  refine name_L S₁₇ (by exact rfl) (.tail _ (.head _)) (.tail _ (.head _)) ?_
  refine k_items_cons ?_
  refine k_Call_Name_kw ?_
  refine name_B C S₁₇ C.b_list ?_
  refine PyProof.Rows.callWith_type rfl (ea_any rfl ?_)
  refine k_items_cons ?_
  refine k_MethodCall ?_
  refine name_C S₁₇ (by exact rfl) (.tail _ (.tail _ (GL.n (List.mem_append_right _ F.book)))) ?_
  refine gm_fd C S₁₇ (.tail _ (.tail _ (.head _))) (.tail _ (.tail _ (.tail _ (.head _)))) (fd_items w) (ty_items w) (by decide) (by decide) ?_
  refine cw_B ?_
  refine wpAny_items_nil ?_
  refine fd_itemsCall C S₁₇ (.tail _ (.tail _ (.head _))) F.hx fun vw h₁₈ S₁₈ => ?_
  refine wpAny_items_nil ?_
  refine xEAAAAEE (S₁₈.get (.tail _ (.tail _ (.tail _ (.head _))))) fun o eo a1 a2 a3 eso ep ro => ?_
  have SE : St h₀ ((vw, exP (viewObj x)) :: (sa, lsR (stR (Nx ++ N0)) (deedsF specs 5 ([], false) es).1) :: (L, nsP (gnB B sa (.ref dl))) :: (x, dE (intKind PP w) (.ref 108) (some dx) #[some (.ref gr)] (kp.map kvOf) ep) :: (dx, fzP lz) :: (wa, lsR isI W) :: (ra, lsR isI R') :: (kp.map enOf ++ (Nx ++ N0))) h₁₈ :=
   S₁₈.upd (.tail (.tail (.tail .head))) (Heap.ExtBut.refl _ _) eo ⟨a1, a2, a3, eso, ro⟩
  refine iv_list (v := vw) (x := x) SE hh (.head _) (.tail _ (.tail _ (.tail _ (.head _)))) (by (exact Nat.le_trans (by assumption) (by decide))) fun l vs Ns h₁₉ t₁₉ G S₁₉ => ?_
  refine wpAny_items_nil ?_
  refine n_tup S₁₉ fun tp h₂₀ S₂₀ => ?_
  dsimp only [retV]
  have hit : All2 (itR ((Ns ++ kp.map enOf ++ Nx ++ [(gr, exP (gwObj mg B)), (gc, codP gwQ), (lk, exP (lkObj mg B)), (lc, codP lkQ), (L + 5, cellP (some (.ref wa))), (L + 4, cellP (some (.ref ra))), (L + 3, cellP (some (.ref x))), (L + 2, cellP (some (.ref lk))), (L + 1, cellP (some (.ref ru))), (247, exP (tabObj (#[rawInt 174, rawInt 4, .ref lc] ++ #[rawInt 184, rawInt 4, .ref gc])))]) ++ K)) vs (deedsF specs 5 ([], false) es).2.1 := by
   have ga := got_all G
   rw [List.take_length] at ga
   rw [← hk]
   refine All2.map2 (fun v p hp ⟨a, key, e, m, hkey⟩ => ?_) ga
   obtain ⟨tk, rfl⟩ := Value.isInt_shape hkey
   refine ⟨a, tk, p.2.1, e, ?_, ?_⟩
   ·simp only [List.append_assoc]; exact List.mem_append_left _ m
   ·simp only [List.append_assoc]; exact List.mem_append_right _ (List.mem_append_left _ (List.mem_map_of_mem hp))
  refine q tp sa l (Ns ++ kp.map enOf ++ Nx ++ [(gr, exP (gwObj mg B)), (gc, codP gwQ), (lk, exP (lkObj mg B)), (lc, codP lkQ), (L + 5, cellP (some (.ref wa))), (L + 4, cellP (some (.ref ra))), (L + 3, cellP (some (.ref x))), (L + 2, cellP (some (.ref lk))), (L + 1, cellP (some (.ref ru))), (247, exP (tabObj (#[rawInt 174, rawInt 4, .ref lc] ++ #[rawInt 184, rawInt 4, .ref gc])))]) h₂₀ t₁₉ ⟨_, List.mem_append_right _ (.tail _ (.tail _ (.tail _ (.tail _ (.tail _ (.tail _ (.tail _ (.tail _ (.tail _ (.head _))))))))))⟩ ?_
  have S₂₁ := (S₂₀.weak (.tail .head) (lsR_of hit))
  generalize hNx : (Ns ++ kp.map enOf ++ Nx ++ [(gr, exP (gwObj mg B)), (gc, codP gwQ), (lk, exP (lkObj mg B)), (lc, codP lkQ), (L + 5, cellP (some (.ref wa))), (L + 4, cellP (some (.ref ra))), (L + 3, cellP (some (.ref x))), (L + 2, cellP (some (.ref lk))), (L + 1, cellP (some (.ref ru))), (247, exP (tabObj (#[rawInt 174, rawInt 4, .ref lc] ++ #[rawInt 184, rawInt 4, .ref gc])))]) = Nx' at S₂₁ ⊢
  have hNK : Nx' ++ K = Ns ++ (kp.map enOf ++ (Nx ++ N0)) := by (refine (hNx) ▸ ?_); simp only [List.append_assoc]; rfl
  have S₂₂ : St h₀ (((tp, tpP [.ref sa, .ref l]) :: (l, lsR (itR (Nx' ++ K)) (deedsF specs 5 ([], false) es).2.1) :: Ns) ++ ((sa, lsR (stR (Nx ++ N0)) (deedsF specs 5 ([], false) es).1) :: (kp.map enOf ++ (Nx ++ N0)))) h₂₀ := by
   refine S₂₁.sub ?_
   refine List.Sublist.append_left ?_ _
   exact .cons _ (.cons_cons _ (.cons _ (.cons _ (.cons _ (.cons _ (.cons _ (List.Sublist.refl _)))))))
  have S₂₃ := S₂₂.weak (Up.app .head _) (lsR_mono (R' := stR (Nx' ++ K)) fun v y z => z.mono fun p hp => by
   rw [hNK]; exact List.mem_append_right _ (List.mem_append_right _ hp))
  refine S₂₃.perm ?_
  (refine (Eq.symm (hNK)) ▸ ?_)
  exact (List.perm_middle (l₁ := (l, _) :: Ns)).symm.cons _
end
end
section
section
variable {prog : Program} {w : World} {A : Around} {E : Value → Shared → Prop} {h₀ h : Heap} {g : Array GenState} {d : Drawn} {t : Nat} {os : OsState} {K K' : Led} {Kt : Type} [DecidableEq Kt] {knd : KeyKind prog w Kt} {kvs : List (Kt × Value)} {a : Addr} {k : Kt} {key v : Value}
theorem gm_dx {name : Str} {id : String} {pl : Sem Bool} {Q : Value × List Value → Shared → Prop} (slot : Slot "dict" name id) (ty : typeOf (.builtin id) = pure (.type "method_descriptor")) (S : St h₀ K h) (m : (a, dP knd (.type "dict") none #[] kvs) ∈ K) (q : Q (.builtin id, [.ref a]) ⟨h, g, d, t, os⟩) :
  wpAny (model prog w) A (getMethod (.ref a) name pl) Q E ⟨h, g, d, t, os⟩ :=
 getMethod_builtin (s := ⟨h, g, d, t, os⟩) (S.isDict m).typeIs PySem.F.plainAttrs_dict slot ty (S.isDict m).mapOf.noDict q
theorem without_none {kvs : List (Kt × Value)} {k : Kt} (h : valueAt kvs k = none) : without kvs k = kvs := by
 refine without_of_not_mem kvs k fun hm => ?_
 refine xEA (List.mem_map.mp hm) fun kv hkv e => ?_
 unfold valueAt at h
 rw [Option.map_eq_none_iff] at h
 have := List.find?_eq_none.mp h kv hkv
 simp [e] at this
theorem dx_pop {Q : Value → Shared → Prop} {dv : Value} (S : St h₀ K h) (u : Up a (dP knd (.type "dict") none #[] kvs) (dP knd (.type "dict") none #[] (without kvs k)) K K') (hkey : knd.is k key = true) (hpart : (keyPart key).isSome = true) (hs : (a == sysModules) = false) (hsz : kvs.length ≤ 4096)
  (q : ∀ v h' t', St h₀ K' h' → Q v ⟨h', g, d, t', os⟩) : wpAny (model prog w) A (call (.builtin "dict.pop") [.ref a, key, dv] []) Q E ⟨h, g, d, t, os⟩ := by
 have hD := S.isDict u.mem
 cases hv : valueAt kvs k with
 | some v =>
  exact call_meetsIn (s := ⟨h, g, d, t, os⟩) PySem.F.slot_dict_pop hD.typeIs PySem.F.entry_dict_pop (PySem.F.args_dict_pop_3 _ _ _) (meets_dict_pop_there (prog := prog) (w := w) (knd := knd) (d := a) hkey [dv] (.inr ⟨dv, rfl⟩) hpart)
   ⟨kvs, v, hD, szS hsz, hv, fun h' hd hs => q v h' _ (S.dictUp u hd hs.extBut)⟩
 | none =>
  exact call_meetsIn (s := ⟨h, g, d, t, os⟩) PySem.F.slot_dict_pop hD.typeIs PySem.F.entry_dict_pop (PySem.F.args_dict_pop_3 _ _ _) (meets_dict_pop_default (prog := prog) (w := w) (knd := knd) (d := a) hkey hs hpart dv)
   ⟨kvs, hD, hv, q dv h _ (S.weak u fun o p => by rw [without_none hv]; exact p)⟩
theorem dx_items {Q : Value → Shared → Prop} (S : St h₀ K h) (m : (a, dP knd (.type "dict") none #[] kvs) ∈ K) (hs : (a == sysModules) = false) (q : ∀ v h', St h₀ ((v, exP (viewObj a)) :: K) h' → Q (.ref v) ⟨h', g, d, t, os⟩) :
  wpAny (model prog w) A (call (.builtin "dict.items") [.ref a] []) Q E ⟨h, g, d, t, os⟩ :=
 call_meetsIn (s := ⟨h, g, d, t, os⟩) PySem.F.slot_dict_items (S.isDict m).typeIs PySem.F.entry_dict_items (PySem.F.args_dict_items_1 _) (meets_dict_items knd a hs) ⟨⟨kvs, S.isDict m⟩, q _ _ (S.push rfl rfl)⟩
theorem dx_list {Q : Value → Shared → Prop} (S : St h₀ K h) (hh : A.handled = none) (m : (a, dP knd (.type "dict") none #[] kvs) ∈ K) (hs : (a == sysModules) = false) (hsz : kvs.length ≤ 4096)
  (q : ∀ l vs h' t', All2 (fun v (kv : Kt × Value) => knd.is kv.1 v = true) vs kvs → St h₀ ((l, lsP vs) :: K) h' → Q (.ref l) ⟨h', g, d, t', os⟩) : wpAny (model prog w) A (call (.type "list") [.ref a] []) Q E ⟨h, g, d, t, os⟩ := by
 refine xEAAAAEE (S.get m) fun o ho hc hod hsl es ep r => ?_
 have hat : h.DictAt knd a kvs ep := ⟨o, es, ho, ⟨hc, hod, hsl⟩, r⟩
 refine kdl_call (s := ⟨h, g, d, t, os⟩) (kdl_dict (knd := knd) (kvs := kvs) (ep := ep) hs) hh hat (szS hsz) fun h' tk acc c' hk hD hacc => ?_
 have hall : All2 (fun v (kv : Kt × Value) => knd.is kv.1 v = true) acc.toList kvs := by
  have key : ∀ {vs : List Value} {kvs : List (Kt × Value)}, vs.length = kvs.length → (∀ (j : Nat) v, vs[j]? = some v → ∃ k x, kvs[j]? = some (k, x) ∧ knd.is k v = true) → All2 (fun v (kv : Kt × Value) => knd.is kv.1 v = true) vs kvs := by
   intro vs
   induction vs with
   | nil => intro kvs hl _; cases kvs with | nil => exact .nil | cons _ _ => cases hl
   | cons v vs ih =>
    intro kvs hl hp
    cases kvs with
    | nil => cases hl
    | cons kv kvs =>
     refine xEEA (hp 0 v rfl) fun k x e hk => ?_
     cases e
     exact .cons hk (ih (by simpa using hl) fun j u hu => hp (j + 1) u hu)
  exact key (by rw [Array.length_toList]; exact hacc.1) fun j v e => hacc.2 j v (by (refine (Array.getElem?_toList) ▸ ?_); exact e)
 refine q _ acc.toList h' tk hall ?_
 exact (S.ext hk).add hD ⟨c', by simp⟩ (S.none_of_lt (Nat.le_refl _)) fun p hp q => Nat.lt_irrefl _ (by have := S.lt (a := p.1) (P := p.2) hp; rw [q] at this; exact this)
end
end
section
noncomputable def plainD : { p : Arguments × List Stmt × Scope // findDef "_law_plain" PP.main.body = some p } := ⟨_, rfl⟩
noncomputable abbrev plSc : Scope := plainD.1.2.2
noncomputable def plForD : { p : PySem.Expr × PySem.Expr × List Stmt // forOf 0 plainD.1.2.1 = some p } := ⟨_, rfl⟩
noncomputable abbrev plTgt : PySem.Expr := plForD.1.1
noncomputable abbrev plBody : List Stmt := plForD.1.2.2
noncomputable def whileOf : List Stmt → Option (PySem.Expr × List Stmt)
 | [] => none
 | .While t b _ _ :: _ => some (t, b)
 | _ :: r => whileOf r
noncomputable def whD : { p : PySem.Expr × List Stmt // whileOf plForD.1.2.2 = some p } := ⟨_, rfl⟩
noncomputable abbrev whTest : PySem.Expr := whD.1.1
noncomputable abbrev whBody : List Stmt := whD.1.2
noncomputable abbrev plEnv (L : Addr) (cd : Value) : Env := envX "_law_plain" plSc L 259 cd []
noncomputable def bgR (N : Led) (v : Value) (y : Nat × Bool) : Prop := ∃ p t, v = .ref p ∧ (p, tpP [.int (y.1 : Nat) t, .bool y.2]) ∈ N
theorem bgR.mono {N N' : Led} (m : ∀ p ∈ N, p ∈ N') {v : Value} {y : Nat × Bool} (x : bgR N v y) : bgR N' v y := by (revert x; intro zh; refine xEEA zh fun p t e a => ?_; clear zh); exact ⟨p, t, e, m _ a⟩
structure Pa where
 L : Addr
 tl : Addr
 bg : Addr
 rn : Addr
 kd : Addr
 sa : Addr
 ru : Addr
 dl : Value
 sy : Value
 ex : Value
noncomputable abbrev plBase (B : Pa) (fr : Bool) : List (Str × Value) := [("story", .ref B.sa), ("frozen", .bool fr), ("kept", .ref B.kd), ("deeds", B.dl), ("rules", .ref B.ru)]
noncomputable abbrev plNs (B : Pa) (td : Addr) (tv : Value) (fr : Bool) : List (Str × Value) := ("runs", .ref B.rn) :: ("begun", .ref B.bg) :: ("told", tv) :: ("todo", .ref td) :: ("extra", B.ex) :: ("symbol", B.sy) :: plBase B fr
noncomputable def PL (w : World) (B : Pa) (td : Addr) (kp : Kp) (σ : MS) (Nx M : Led) : Led :=
 (B.L, nsP (plNs B td (.ref B.tl) σ.fr)) :: (td, lsR isI σ.todo) :: (B.tl, lsR isI σ.told) :: (B.bg, lsR (bgR Nx) σ.begun) :: (B.rn, lsR isI σ.runs) :: (B.kd, dP (intKind PP w) (.type "dict") none #[] (kp.map kvOf)) :: (kp.map enOf ++ (Nx ++ M))
section
variable {prog : Program} {w : World} {A : Around} {E : Value → Shared → Prop} {h₀ h : Heap} {g : Array GenState} {d : Drawn} {t : Nat} {os : OsState} {K K' : Led} {a b : Addr} {ns ms : List Int}
theorem ne_I {Q : Value → Shared → Prop} (S : St h₀ K h) (ma : (a, lsR isI ns) ∈ K) (mb : (b, lsR isI ms) ∈ K) (hu : A.units + 64 < cLine) (q : Q (.bool (!decide (ns = ms))) ⟨h, g, d, t, os⟩) : wpAny (model prog w) A (compareOp .NotEq (.ref a) (.ref b)) Q E ⟨h, g, d, t, os⟩ := by
 refine xEAA (S.openR ma) fun vs x hl zu3 => ?_
 refine xEAA (S.openR mb) fun us y hl' zu3 => ?_
 exact ne_intsK (s := ⟨h, g, d, t, os⟩) hl (ints_of x) hl' (ints_of y) hu q
end
end
section
section
variable {w : World} {A : Around} {E : Value → Shared → Prop} {h₀ h : Heap} {g : Array GenState} {d : Drawn} {t : Nat} {os : OsState} {mg mb : Str → Option Value}
 {B : Pa} {kvsR : List (Int × Value)} {specs : List (Int × List Int)} {kp : Kp} {Nx M : Led} {td : Addr} {cd : Value} {σ σ' : MS}
noncomputable def WhOk (w : World) (h₀ : Heap) (g : Array GenState) (d : Drawn) (os : OsState) (B : Pa) (M : Led) (σ' : MS) (f : Flow) (s : Shared) : Prop :=
 f = .next ∧ ∃ td' kp' Nx' h' t', s = ⟨h', g, d, t', os⟩ ∧ kp'.map krOf = σ'.kept ∧ St h₀ (PL w B td' kp' σ' Nx' M) h'
theorem WhOk_in {w : World} {h₀ : Heap} {g : Array GenState} {d : Drawn} {os : OsState} {B : Pa} {M : Led} {σ' : MS} {f : Flow} {s : Shared} (e0 : f = .next) (td : Addr) (kp : Kp) (Nx : Led) (h : Heap) (t : Nat) (e : s = ⟨h, g, d, t, os⟩) (x : kp.map krOf = σ'.kept) (S : St h₀ (PL w B td kp σ' Nx M) h) : WhOk w h₀ g d os B M σ' f s := ⟨e0, td, kp, Nx, h, t, e, x, S⟩
theorem wh_step (C : Cx w mg mb h₀) (hh : A.handled = none) (hru : 108 < B.ru) (hkd : 108 < B.kd) (mru : (B.ru, dP (intKind PP w) (.type "dict") none #[] kvsR) ∈ M) (hrk : rulesK kvsR M specs) (hlen : ∀ {k : Int} parts, look? specs k = some parts → parts.length ≤ 100000)
  (st : Step specs σ σ') (ok : MOk σ) (hk : kp.map krOf = σ.kept) (S : St h₀ (PL w B td kp σ Nx M) h) :
  wpAny (model PP w) A (execs whBody (plEnv B.L cd)) (WhOk w h₀ g d os B M σ') E ⟨h, g, d, t, os⟩ := by
 obtain ⟨one, rest, e0⟩ : ∃ one rest, σ.todo = one :: rest := by cases st <;> exact ⟨_, _, rfl⟩
 have k1 := ok.todo
 have k2 := ok.told
 have k3 := ok.begun
 have k4 := ok.runs
 have k5 := ok.kept
 rw [e0, List.length_cons] at k1
 dsimp only [whBody, whD]
 refine k_execs_cons ?_
 refine k_Assign_Name ?_
 refine k_MethodCall ?_
 refine name_L S (by exact rfl) (.head _) (.tail _ (.tail _ (.tail _ (.head _)))) ?_
 refine gm_listR (R := isI) (xs := σ.todo) PySem.F.slot_list_pop PySem.F.type_list_pop S (.tail _ (.head _)) ?_
 refine cw_B ?_
 refine k_items_cons ?_
 refine c_int ?_
 refine wpAny_items_nil ?_
 have S₁ : St h₀ ((B.L, nsP (plNs B td (.ref B.tl) σ.fr)) :: (td, lsR isI (one :: rest)) :: (B.tl, lsR isI σ.told) :: (B.bg, lsR (bgR Nx) σ.begun) :: (B.rn, lsR isI σ.runs) :: (B.kd, dP (intKind PP w) (.type "dict") none #[] (kp.map kvOf)) :: (kp.map enOf ++ (Nx ++ M))) h := by
  (refine (e0) ▸ ?_); exact S
 refine lr_pop0 S₁ (.tail .head) (fun v h₂ hv S₂ => ?_) (Nat.le_trans (show rest.length + 1 ≤ 100000 by assumption) (by decide))
 obtain ⟨tk, rfl⟩ := hv
 refine store_L S₂ (by exact rfl) .head (.new (by simp only [List.map_cons, List.map_nil]; decide)) fun h₃ S₃ => ?_
 clear S S₁ S₂
 try dsimp only
 refine k_execs_cons ?_
 refine k_If ?_
 refine k_isTrue_Compare1 ?_
 refine name_L S₃ (by exact rfl) (.head _) (.head _) ?_
 refine c_int ?_
 refine lt_ii ?_
 refine tr_b ?_
 cases st with
 | @shutOpen kept fr rest' told begun runs sym sst hno hs =>
  cases e0
  dsimp only at hk k2 k3 k4
  (refine (Eq.symm (decide_eq_true (by lia : -sym < 0))) ▸ ?_)
  refine if_t ?_
  refine k_execs_cons ?_
  refine Assign_Tuple ?_
  refine k_MethodCall ?_
  refine name_L S₃ (by exact rfl) (.head _) (.tail _ (.tail _ (.head _))) ?_
  refine gm_listR (R := bgR Nx) (xs := begun ++ [(sst, true)]) PySem.F.slot_list_pop PySem.F.type_list_pop S₃ (.tail _ (.tail _ (.tail _ (.head _)))) ?_
  refine cw_B ?_
  refine wpAny_items_nil ?_
  rw [List.length_append, List.length_singleton] at k3
  refine lr_popLast (R := bgR Nx) (xs := begun) (y := (sst, true)) S₃ (.tail (.tail (.tail .head))) (fun v h₄ hv S₄ => ?_) (Nat.le_trans (show begun.length + 1 ≤ 100000 from k3) (by decide))
  (revert hv; intro zh; refine xEEA zh fun p t1 zq2 mp => ?_; clear zh; subst zq2)
  refine asg_T hh S₄ (.tail _ (.tail _ (.tail _ (.tail _ (.tail _ (.tail _ (List.mem_append_right _ (List.mem_append_left _ mp)))))))) rfl rfl fun h₅ S₅ => ?_
  refine assignInOrder_cons ?_
  refine asg_L S₅ (by exact rfl) .head (.new (by simp only [List.map_cons, List.map_nil]; decide)) fun h₆ S₆ => ?_
  refine assignInOrder_cons ?_
  refine asg_L S₆ (by exact rfl) .head (.new (by simp only [List.map_cons, List.map_nil]; decide)) fun h₇ S₇ => ?_
  refine assignInOrder_nil ?_
  clear S₃ S₄ S₅ S₆
  try dsimp only
  refine k_execs_cons ?_
  refine k_If ?_
  refine isTrue_plain ?_
  refine name_L S₇ (by exact rfl) (.head _) (.head _) ?_
  refine tr_b ?_
  refine if_t ?_
  refine k_execs_cons ?_
  refine wpAny_Assign_Subscript ?_
  refine e_from (h₀ := h₀) isI told ?_
  refine name_L S₇ (by exact rfl) (.head _) (.tail _ (.tail _ (.tail _ (.tail _ (.tail _ (.head _)))))) ?_
  refine name_L S₇ (by exact rfl) (.head _) (.tail _ (.head _)) ?_
  refine (SlF_in B.tl sst t1 _ rfl rfl S₇ (.tail _ (.tail _ (.head _))) (Nat.le_trans k2 (by decide)) (fun Dl h₈ S₈ => ?_))
  dsimp only at S₈ ⊢
  refine name_L S₈ (by exact rfl) (.tail _ (.head _)) (.tail _ (.tail _ (.tail _ (.tail _ (.tail _ (.tail _ (.tail _ (.tail _ (.tail _ (.tail _ (.tail _ (.head _)))))))))))) ?_
  refine e_neg (name_L S₈ (by exact rfl) (.tail _ (.head _)) (.tail _ (.tail _ (.head _))) (neg_ii ?_))
  have hlk : (kp.map kvOf).length ≤ 1000 := by
   have h1 := congrArg List.length hk
   rw [List.length_map] at h1 ⊢
   dsimp only at k5; lia
  have hnk : - -sym ∉ (kp.map kvOf).map (·.1) := by
   rw [Int.neg_neg]
   intro hm
   refine xEA (List.mem_map.mp hm) fun q hq e => ?_
   (refine xEA (List.mem_map.mp hq) fun q' hq' zq2 => ?_; subst zq2)
   exact look?_none.mp hno (krOf q') (by rw [← hk]; exact List.mem_map_of_mem hq') e
  refine wpAny_setItem_pairs (intKind_is PP w (- -sym) _) (S₈.isDict (.tail _ (.tail _ (.tail _ (.tail _ (.tail _ (.tail _ (.head _)))))))) (fun h₉ hd hs2 => ?_) (szS (by (exact Nat.le_trans (by assumption) (by decide))))
  have S₉ := S₈.dictUp (.tail (.tail (.tail (.tail (.tail (.tail .head)))))) hd hs2.extBut
  rw [stored_new hnk, Int.neg_neg] at S₉
  repeat (first | (with_reducible refine wpAny_execs_nil ?_) | (dsimp only))
  refine (WhOk_in rfl td (kp ++ [(sym, Dl, told.drop sst)]) Nx h₉ _ rfl (by (refine (Eq.symm (List.map_append)) ▸ ?_; refine (Eq.symm (hk)) ▸ ?_); rfl) (?_))
  have S₁₀ := S₉.wk (.keep (fun _ z => z) (.keep (nsP_sub (b' := plNs B td (.ref B.tl) fr) (.cons _ (.cons _ (.cons _ (List.Sublist.refl _))))) .refl))
  have e1 : PL w B td (kp ++ [(sym, Dl, told.drop sst)]) ⟨kept ++ [(sym, told.drop sst)], fr, rest, told, begun, runs⟩ Nx M =
    (B.L, nsP (plNs B td (.ref B.tl) fr)) :: (td, lsR isI rest) :: (B.tl, lsR isI told) :: (B.bg, lsR (bgR Nx) begun) :: (B.rn, lsR isI runs) :: (B.kd, dP (intKind PP w) (.type "dict") none #[] (kp.map kvOf ++ [(sym, .ref Dl)])) :: (kp.map enOf ++ (Dl, lsR isI (told.drop sst)) :: (Nx ++ M)) := by
   simp [PL, kvOf, enOf]
  rw [e1]
  have pm := List.perm_middle (l₁ := (B.L, nsP (plNs B td (.ref B.tl) fr)) :: (td, lsR isI rest) :: (B.tl, lsR isI told) :: (B.bg, lsR (bgR Nx) begun) :: (B.rn, lsR isI runs) :: (B.kd, dP (intKind PP w) (.type "dict") none #[] (kp.map kvOf ++ [(sym, Value.ref Dl)])) :: kp.map enOf) (a := (Dl, lsR isI (told.drop sst))) (l₂ := Nx ++ M)
  exact S₁₀.perm pm
 | @shut kept fr rest' told begun runs sym sst hs =>
  cases e0
  dsimp only at hk k2 k3 k4
  (refine (Eq.symm (decide_eq_true (by lia : -sym < 0))) ▸ ?_)
  refine if_t ?_
  refine k_execs_cons ?_
  refine Assign_Tuple ?_
  refine k_MethodCall ?_
  refine name_L S₃ (by exact rfl) (.head _) (.tail _ (.tail _ (.head _))) ?_
  refine gm_listR (R := bgR Nx) (xs := begun ++ [(sst, false)]) PySem.F.slot_list_pop PySem.F.type_list_pop S₃ (.tail _ (.tail _ (.tail _ (.head _)))) ?_
  refine cw_B ?_
  refine wpAny_items_nil ?_
  rw [List.length_append, List.length_singleton] at k3
  refine lr_popLast (R := bgR Nx) (xs := begun) (y := (sst, false)) S₃ (.tail (.tail (.tail .head))) (fun v h₄ hv S₄ => ?_) (Nat.le_trans (show begun.length + 1 ≤ 100000 from k3) (by decide))
  (revert hv; intro zh; refine xEEA zh fun p t1 zq2 mp => ?_; clear zh; subst zq2)
  refine asg_T hh S₄ (.tail _ (.tail _ (.tail _ (.tail _ (.tail _ (.tail _ (List.mem_append_right _ (List.mem_append_left _ mp)))))))) rfl rfl fun h₅ S₅ => ?_
  refine assignInOrder_cons ?_
  refine asg_L S₅ (by exact rfl) .head (.new (by simp only [List.map_cons, List.map_nil]; decide)) fun h₆ S₆ => ?_
  refine assignInOrder_cons ?_
  refine asg_L S₆ (by exact rfl) .head (.new (by simp only [List.map_cons, List.map_nil]; decide)) fun h₇ S₇ => ?_
  refine assignInOrder_nil ?_
  clear S₃ S₄ S₅ S₆
  try dsimp only
  refine k_execs_cons ?_
  refine k_If ?_
  refine isTrue_plain ?_
  refine name_L S₇ (by exact rfl) (.head _) (.head _) ?_
  refine tr_b ?_
  refine if_f ?_
  repeat (first | (with_reducible refine wpAny_execs_nil ?_) | (dsimp only))
  exact (WhOk_in rfl td kp Nx h₇ _ rfl hk (S₇.wk (.keep (nsP_sub (.cons _ (.cons _ (.cons _ (List.Sublist.refl _))))) .refl)))
 | @term kept fr one' rest' told begun runs h0 h1 =>
  cases e0
  (refine (Eq.symm (decide_eq_false (by (exact Int.not_lt.mpr (by assumption)) : ¬ one < 0))) ▸ ?_)
  refine if_f ?_
  refine k_execs_cons ?_
  refine k_If ?_
  refine k_isTrue_Compare1 ?_
  refine name_L S₃ (by exact rfl) (.head _) (.head _) ?_
  refine c_int ?_
  refine lt_ii ?_
  refine tr_b ?_
  (refine (Eq.symm (decide_eq_true h1)) ▸ ?_)
  refine if_t ?_
  refine k_execs_cons ?_
  refine k_Expr_any ?_
  refine k_MethodCall ?_
  refine name_L S₃ (by exact rfl) (.head _) (.tail _ (.tail _ (.tail _ (.head _)))) ?_
  refine gm_listR (R := isI) (xs := told) PySem.F.slot_list_append PySem.F.type_list_append S₃ (.tail _ (.tail _ (.head _))) ?_
  refine cw_B ?_
  refine k_items_cons ?_
  refine name_L S₃ (by exact rfl) (.head _) (.head _) ?_
  refine wpAny_items_nil ?_
  refine lr_append (y := one) S₃ (.tail (.tail .head)) ⟨_, rfl⟩ (fun h₄ S₄ => ?_) (Nat.le_trans (show told.length ≤ 100000 from k2) (by decide))
  try dsimp only
  refine k_execs_cons ?_
  refine k_Assign_Name ?_
  refine BoolOp_or ?_
  refine name_L S₄ (by exact rfl) (.head _) (.tail _ (.tail _ (.tail _ (.tail _ (.tail _ (.tail _ (.tail _ (.tail _ (.head _))))))))) ?_
  refine tr_b ?_
  have fin : ∀ (b : Bool) (t' : Nat), b = (fr || decide (one = 54)) → wpAny (model PP w) A (storeName (plEnv B.L cd) "frozen" (.bool b)) (fun _ s => WhOk w h₀ g d os B M ⟨kept, fr || decide (one = 54), rest, told ++ [one], begun, runs⟩ .next s) E ⟨h₄, g, d, t', os⟩ := by
   intro b t' hb
   refine store_L S₄ (by exact rfl) .head (.old (.tail (.tail (.tail (.tail (.tail (.tail (.tail (.tail .head))))))))) fun h₅ S₅ => ?_
   subst hb
   exact (WhOk_in rfl td kp Nx h₅ _ rfl hk (S₅.wk (.keep (nsP_sub (.cons _ (List.Sublist.refl _))) .refl)))
  have tail : ∀ (b : Bool) (t' : Nat), b = (fr || decide (one = 54)) → wpAny (model PP w) A (storeName (plEnv B.L cd) "frozen" (.bool b)) (fun _ s => wpAny (model PP w) A (execs [] (plEnv B.L cd)) (WhOk w h₀ g d os B M ⟨kept, fr || decide (one = 54), rest, told ++ [one], begun, runs⟩) E s) E ⟨h₄, g, d, t', os⟩ := fun b t' hb =>
   wpAny_mono (fin b t' hb) (fun _ s z => wpAny_execs_nil z) fun _ _ e => e
  refine ite_b (fun ef => ?_) fun ef => ?_
  ·refine wpAny_mono (fin fr _ (by rw [show fr = true from ef]; rfl)) (fun _ s z => ?_) fun _ _ e => e
   repeat (first | (with_reducible refine wpAny_execs_nil ?_) | (dsimp only))
   exact z
  ·refine BoolOp_one ?_
   refine k_Compare1 ?_
   refine name_L S₄ (by exact rfl) (.head _) (.head _) ?_
   refine c_int ?_
   refine eq_ii ?_
   refine wpAny_mono (fin (one == 54) _ (by rw [show fr = false from ef, Bool.eq_iff_iff]; simp)) (fun _ s z => ?_) fun _ _ e => e
   repeat (first | (with_reducible refine wpAny_execs_nil ?_) | (dsimp only))
   exact z
 | @kept kept fr one' rest' told begun runs row h1 hl =>
  cases e0
  dsimp only at hk
  (refine (Eq.symm (decide_eq_false (by lia : ¬ one < 0))) ▸ ?_)
  refine if_f ?_
  refine k_execs_cons ?_
  refine k_If ?_
  refine k_isTrue_Compare1 ?_
  refine name_L S₃ (by exact rfl) (.head _) (.head _) ?_
  refine c_int ?_
  refine lt_ii ?_
  refine tr_b ?_
  (refine (Eq.symm (decide_eq_false (by (exact Int.not_lt.mpr (by assumption)) : ¬ one < 256))) ▸ ?_)
  refine if_f ?_
  refine k_execs_cons ?_
  refine k_If ?_
  refine k_isTrue_Compare1 ?_
  refine name_L S₃ (by exact rfl) (.head _) (.head _) ?_
  refine name_L S₃ (by exact rfl) (.head _) (.tail _ (.tail _ (.tail _ (.tail _ (.tail _ (.tail _ (.tail _ (.tail _ (.tail _ (.head _)))))))))) ?_
  have hv0 : valueAt (kp.map kvOf) one ≠ none := fun e => by rw [kp_none, hk] at e; rw [e] at hl; cases hl
  obtain ⟨v0, hv⟩ : ∃ v, valueAt (kp.map kvOf) one = some v := by cases e : valueAt (kp.map kvOf) one with | none => exact absurd e hv0 | some v => exact ⟨v, rfl⟩
  (refine xEEAA (kp_some hv) fun a row' zq2 mk lk => ?_; subst zq2)
  rw [hk, hl] at lk
  cases lk
  refine dx_in S₃ (.tail _ (.tail _ (.tail _ (.tail _ (.tail _ (.head _)))))) (intKind_is PP w one tk) (not_sys hkd) ?_
  refine tr_b ?_
  (refine (Eq.symm (hv)) ▸ ?_)
  refine if_t ?_
  refine k_execs_cons ?_
  refine k_Expr_any ?_
  refine k_MethodCall ?_
  refine name_L S₃ (by exact rfl) (.head _) (.tail _ (.tail _ (.tail _ (.head _)))) ?_
  refine gm_listR (R := isI) (xs := told) PySem.F.slot_list_extend PySem.F.type_list_extend S₃ (.tail _ (.tail _ (.head _))) ?_
  refine cw_B ?_
  refine k_items_cons ?_
  refine k_Subscript ?_
  refine name_L S₃ (by exact rfl) (.head _) (.tail _ (.tail _ (.tail _ (.tail _ (.tail _ (.tail _ (.tail _ (.tail _ (.tail _ (.head _)))))))))) ?_
  refine name_L S₃ (by exact rfl) (.head _) (.head _) ?_
  refine dx_item S₃ (.tail _ (.tail _ (.tail _ (.tail _ (.tail _ (.head _)))))) (intKind_is PP w one tk) hv ?_ (by with_unfolding_all rfl)
  refine wpAny_items_nil ?_
  have hrow := ok.row (one, row) (by (refine (hk) ▸ ?_); exact List.mem_map_of_mem (f := krOf) mk)
  dsimp only at hrow k2
  refine lr_extend (R := isI) (xs := told) (ys := row) S₃ (.tail (.tail .head)) (.tail _ (.tail _ (.tail _ (.tail _ (.tail _ (.tail _ (List.mem_append_left _ (List.mem_map_of_mem (f := enOf) mk)))))))) (fun h₄ S₄ => ?_) (Nat.le_trans (show told.length + row.length ≤ 200000 by lia) (by decide))
  repeat (first | (with_reducible refine wpAny_execs_nil ?_) | (dsimp only))
  exact (WhOk_in rfl td kp Nx h₄ _ rfl hk (S₄.wk (.keep (nsP_sub (.cons _ (List.Sublist.refl _))) .refl)))
 | @rule kept fr one' rest' told begun runs parts h1 hl hp =>
  cases e0
  dsimp only at hk k2 k3 k4
  refine xEA ((ru_get hrk one).2 parts hp) fun pa hpa hpm => ?_
  have mM : ∀ {q : Addr × Pr}, q ∈ M → ∀ {a b c d e f : Addr × Pr}, q ∈ a :: b :: c :: d :: e :: f :: (kp.map enOf ++ (Nx ++ M)) := fun hq => .tail _ (.tail _ (.tail _ (.tail _ (.tail _ (.tail _ (List.mem_append_right _ (List.mem_append_right _ hq)))))))
  (refine (Eq.symm (decide_eq_false (by lia : ¬ one < 0))) ▸ ?_)
  refine if_f ?_
  refine k_execs_cons ?_
  refine k_If ?_
  refine k_isTrue_Compare1 ?_
  refine name_L S₃ (by exact rfl) (.head _) (.head _) ?_
  refine c_int ?_
  refine lt_ii ?_
  refine tr_b ?_
  (refine (Eq.symm (decide_eq_false (by (exact Int.not_lt.mpr (by assumption)) : ¬ one < 256))) ▸ ?_)
  refine if_f ?_
  refine k_execs_cons ?_
  refine k_If ?_
  refine k_isTrue_Compare1 ?_
  refine name_L S₃ (by exact rfl) (.head _) (.head _) ?_
  refine name_L S₃ (by exact rfl) (.head _) (.tail _ (.tail _ (.tail _ (.tail _ (.tail _ (.tail _ (.tail _ (.tail _ (.tail _ (.head _)))))))))) ?_
  refine dx_in S₃ (.tail _ (.tail _ (.tail _ (.tail _ (.tail _ (.head _)))))) (intKind_is PP w one tk) (not_sys hkd) ?_
  refine tr_b ?_
  rw [kp_none.mpr (by rw [hk]; exact hl)]
  refine if_f ?_
  refine k_execs_cons ?_
  refine k_If ?_
  refine k_isTrue_Compare1 ?_
  refine name_L S₃ (by exact rfl) (.head _) (.head _) ?_
  refine name_L S₃ (by exact rfl) (.head _) (.tail _ (.tail _ (.tail _ (.tail _ (.tail _ (.tail _ (.tail _ (.tail _ (.tail _ (.tail _ (.tail _ (.head _)))))))))))) ?_
  refine dx_in S₃ (mM mru) (intKind_is PP w one tk) (not_sys hru) ?_
  refine tr_b ?_
  (refine (Eq.symm (hpa)) ▸ ?_)
  refine if_t ?_
  refine k_execs_cons ?_
  refine k_Expr_any ?_
  refine k_MethodCall ?_
  refine name_L S₃ (by exact rfl) (.head _) (.tail _ (.head _)) ?_
  refine gm_listR (R := isI) (xs := runs) PySem.F.slot_list_append PySem.F.type_list_append S₃ (.tail _ (.tail _ (.tail _ (.tail _ (.head _))))) ?_
  refine cw_B ?_
  refine k_items_cons ?_
  refine name_L S₃ (by exact rfl) (.head _) (.head _) ?_
  refine wpAny_items_nil ?_
  refine lr_append (y := one) S₃ (.tail (.tail (.tail (.tail .head)))) ⟨_, rfl⟩ (fun h₄ S₄ => ?_) (Nat.le_trans (show runs.length ≤ 100000 from k4) (by decide))
  try dsimp only
  refine k_execs_cons ?_
  refine k_Expr_any ?_
  refine k_MethodCall ?_
  refine name_L S₄ (by exact rfl) (.head _) (.tail _ (.tail _ (.head _))) ?_
  refine gm_listR (R := bgR Nx) (xs := begun) PySem.F.slot_list_append PySem.F.type_list_append S₄ (.tail _ (.tail _ (.tail _ (.head _)))) ?_
  refine cw_B ?_
  refine k_items_cons ?_
  refine k_Tuple ?_
  refine k_items_cons ?_
  refine k_Call_Name_kw ?_
  refine name_B C S₄ C.b_len ?_
  refine cw_B ?_
  refine k_items_cons ?_
  refine name_L S₄ (by exact rfl) (.head _) (.tail _ (.tail _ (.tail _ (.head _)))) ?_
  refine wpAny_items_nil ?_
  refine lr_len (R := isI) (xs := told) S₄ (.tail _ (.tail _ (.head _))) ?_ (by (exact Nat.lt_of_le_of_lt (by assumption) (by decide)))
  refine k_items_cons ?_
  refine UnaryOp_ ?_
  refine name_L S₄ (by exact rfl) (.head _) (.tail _ (.tail _ (.tail _ (.tail _ (.tail _ (.tail _ (.tail _ (.tail _ (.head _))))))))) ?_
  refine not_of (tr_b ?_)
  refine wpAny_items_nil ?_
  refine n_tup S₄ fun tp h₅ S₅ => ?_
  refine wpAny_items_nil ?_
  have S₅' : ∃ tkk, St h₀ ((tp, tpP [.int told.length tkk, .bool (!fr)]) :: (B.L, nsP (("one", .int one tk) :: plNs B td (.ref B.tl) fr)) :: (td, lsR isI rest) :: (B.tl, lsR isI told) :: (B.bg, lsR (bgR Nx) begun) :: (B.rn, lsR isI (runs ++ [one])) :: (B.kd, dP (intKind PP w) (.type "dict") none #[] (kp.map kvOf)) :: (kp.map enOf ++ (Nx ++ M))) h₅ := ⟨_, S₅⟩
  clear S₃ S₄ S₅
  obtain ⟨tkk, S₅⟩ := S₅'
  have mNx : ∀ q ∈ Nx, q ∈ (tp, tpP [.int told.length tkk, .bool (!fr)]) :: Nx := fun q hq => .tail _ hq
  have S₆ := S₅.weak (.tail (.tail (.tail (.tail .head)))) (lsR_mono (R' := bgR ((tp, tpP [.int told.length tkk, .bool (!fr)]) :: Nx)) fun v y z => z.mono mNx)
  refine lr_append (y := (told.length, !fr)) S₆ (.tail (.tail (.tail (.tail .head)))) ⟨tp, tkk, rfl, .head _⟩ (fun h₇ S₇ => ?_) (Nat.le_trans (show begun.length ≤ 100000 from k3) (by decide))
  try dsimp only
  refine k_execs_cons ?_
  refine k_Assign_Name ?_
  refine k_BinOp ?_
  refine k_BinOp ?_
  refine k_Subscript ?_
  refine name_L S₇ (by exact rfl) (.tail _ (.head _)) (.tail _ (.tail _ (.tail _ (.tail _ (.tail _ (.tail _ (.tail _ (.tail _ (.tail _ (.tail _ (.tail _ (.head _)))))))))))) ?_
  refine name_L S₇ (by exact rfl) (.tail _ (.head _)) (.head _) ?_
  refine dx_item S₇ (.tail _ (mM mru)) (intKind_is PP w one tk) hpa ?_ (by with_unfolding_all rfl)
  refine List_ ?_
  refine k_items_cons ?_
  refine e_neg (name_L S₇ (by exact rfl) (.tail _ (.head _)) (.head _) (neg_ii ?_))
  refine wpAny_items_nil ?_
  refine n_list S₇ fun nl h₈ S₈ => ?_
  have S₉ := S₈.closeR (R := isI) (xs := [-one]) (.cons ⟨_, rfl⟩ .nil)
  have hparts : parts.length ≤ 100000 := hlen parts hp
  refine add_lr (R := isI) (xs := parts) (ys := [-one]) S₉ (.tail _ (.tail _ (mM hpm))) (.head _) (fun c h₁₀ S₁₀ => ?_) (Nat.le_trans (show parts.length + 1 ≤ 100001 by (exact Nat.succ_le_succ (by assumption))) (by decide))
  refine name_L S₁₀ (by exact rfl) (.tail _ (.tail _ (.tail _ (.head _)))) (.tail _ (.tail _ (.tail _ (.tail _ (.head _))))) ?_
  refine add_lr (R := isI) (xs := parts ++ [-one]) (ys := rest) S₁₀ (.head _) (.tail _ (.tail _ (.tail _ (.tail _ (.head _))))) (fun c2 h₁₁ S₁₁ => ?_) (Nat.le_trans (show (parts ++ [-one]).length + rest.length ≤ 300000 by (refine (Eq.symm (List.length_append)) ▸ ?_; refine (Eq.symm (List.length_singleton)) ▸ ?_); lia) (by decide))
  refine store_L S₁₁ (by exact rfl) (.tail (.tail (.tail (.tail .head)))) (.old (.tail (.tail (.tail (.tail .head))))) fun h₁₂ S₁₂ => ?_
  repeat (first | (with_reducible refine wpAny_execs_nil ?_) | (dsimp only))
  have S₁₃ : St h₀ ((c2, lsR isI (parts ++ [-one] ++ rest)) :: (tp, tpP [.int told.length tkk, .bool (!fr)]) :: (B.L, nsP (plNs B c2 (.ref B.tl) fr)) :: (B.tl, lsR isI told) :: (B.bg, lsR (bgR ((tp, tpP [.int told.length tkk, .bool (!fr)]) :: Nx)) (begun ++ [(told.length, !fr)])) :: (B.rn, lsR isI (runs ++ [one])) :: (B.kd, dP (intKind PP w) (.type "dict") none #[] (kp.map kvOf)) :: (kp.map enOf ++ (Nx ++ M))) h₁₂ :=
   S₁₂.wk (.keep (fun _ z => z) (.drop (.drop (.keep (fun _ z => z) (.keep (nsP_sub (.cons _ (List.Sublist.refl _))) (.drop .refl))))))
  refine (WhOk_in rfl c2 kp ((tp, tpP [.int told.length tkk, .bool (!fr)]) :: Nx) h₁₂ _ rfl hk (?_))
  have S₁₄ := S₁₃.take (.tail (.tail .head))
  exact S₁₄.perm (((List.perm_middle (l₁ := (B.tl, lsR isI told) :: (B.bg, lsR (bgR ((tp, tpP [.int told.length tkk, .bool (!fr)]) :: Nx)) (begun ++ [(told.length, !fr)])) :: (B.rn, lsR isI (runs ++ [one])) :: (B.kd, dP (intKind PP w) (.type "dict") none #[] (kp.map kvOf)) :: kp.map enOf)).cons _).cons _)
end
end
section
section
variable {w : World} {A : Around} {E : Value → Shared → Prop} {h₀ h : Heap} {g : Array GenState} {d : Drawn} {t : Nat} {os : OsState} {mg mb : Str → Option Value}
 {B : Pa} {kvsR : List (Int × Value)} {specs : List (Int × List Int)} {kp : Kp} {Nx M : Led} {td : Addr} {cd : Value}
noncomputable def PlEnd (w : World) (h₀ : Heap) (g : Array GenState) (d : Drawn) (os : OsState) (B : Pa) (M : Led) (y : MRes) (s : Shared) : Prop :=
 ∃ (td : Addr) (tv : Value) (kp : Kp) (Nx : Led) (h : Heap) (t : Nat), s = ⟨h, g, d, t, os⟩ ∧ kp.map krOf = y.2.kept ∧ toldR Nx tv y.1 ∧
  St h₀ ((B.L, nsP (plNs B td tv y.2.fr)) :: (td, lsR isI []) :: (B.rn, lsR isI y.2.runs) :: (B.kd, dP (intKind PP w) (.type "dict") none #[] (kp.map kvOf)) :: (kp.map enOf ++ (Nx ++ M))) h
theorem wh_err {kept : List (Int × List Int)} {fr : Bool} {one : Int} {rest told : List Int} {begun : List (Nat × Bool)} {runs : List Int} (C : Cx w mg mb h₀) (hh : A.handled = none) (hru : 108 < B.ru) (hkd : 108 < B.kd) (mru : (B.ru, dP (intKind PP w) (.type "dict") none #[] kvsR) ∈ M) (hrk : rulesK kvsR M specs)
  (ok : MOk ⟨kept, fr, one :: rest, told, begun, runs⟩) (h1 : 256 ≤ one) (h2 : one < 100000) (hl : look? kept one = none) (hp : look? specs one = none) (hk : kp.map krOf = kept) (S : St h₀ (PL w B td kp ⟨kept, fr, one :: rest, told, begun, runs⟩ Nx M) h) :
  wpAny (model PP w) A (execs whBody (plEnv B.L cd)) (fun f s => f = .next ∧ PlEnd w h₀ g d os B M (.inl one, ⟨kept, fr, runs ++ [one]⟩) s) E ⟨h, g, d, t, os⟩ := by
 have k1 := ok.todo
 have k4 := ok.runs
 dsimp only at k4
 rw [List.length_cons] at k1
 dsimp only [whBody, whD]
 refine k_execs_cons ?_
 refine k_Assign_Name ?_
 refine k_MethodCall ?_
 refine name_L S (by exact rfl) (.head _) (.tail _ (.tail _ (.tail _ (.head _)))) ?_
 refine gm_listR (R := isI) (xs := one :: rest) PySem.F.slot_list_pop PySem.F.type_list_pop S (.tail _ (.head _)) ?_
 refine cw_B ?_
 refine k_items_cons ?_
 refine c_int ?_
 refine wpAny_items_nil ?_
 refine lr_pop0 S (.tail .head) (fun v h₂ hv S₂ => ?_) (Nat.le_trans (show rest.length + 1 ≤ 100000 by assumption) (by decide))
 obtain ⟨tk, rfl⟩ := hv
 refine store_L S₂ (by exact rfl) .head (.new (by simp only [List.map_cons, List.map_nil]; decide)) fun h₃ S₃ => ?_
 clear S S₂
 have mM : ∀ {q : Addr × Pr}, q ∈ M → ∀ {a b c d e f : Addr × Pr}, q ∈ a :: b :: c :: d :: e :: f :: (kp.map enOf ++ (Nx ++ M)) := fun hq => .tail _ (.tail _ (.tail _ (.tail _ (.tail _ (.tail _ (List.mem_append_right _ (List.mem_append_right _ hq)))))))
 try dsimp only
 refine k_execs_cons ?_
 refine k_If ?_
 refine k_isTrue_Compare1 ?_
 refine name_L S₃ (by exact rfl) (.head _) (.head _) ?_
 refine c_int ?_
 refine lt_ii ?_
 refine tr_b ?_
 (refine (Eq.symm (decide_eq_false (by lia : ¬ one < 0))) ▸ ?_)
 refine if_f ?_
 refine k_execs_cons ?_
 refine k_If ?_
 refine k_isTrue_Compare1 ?_
 refine name_L S₃ (by exact rfl) (.head _) (.head _) ?_
 refine c_int ?_
 refine lt_ii ?_
 refine tr_b ?_
 (refine (Eq.symm (decide_eq_false (by (exact Int.not_lt.mpr (by assumption)) : ¬ one < 256))) ▸ ?_)
 refine if_f ?_
 refine k_execs_cons ?_
 refine k_If ?_
 refine k_isTrue_Compare1 ?_
 refine name_L S₃ (by exact rfl) (.head _) (.head _) ?_
 refine name_L S₃ (by exact rfl) (.head _) (.tail _ (.tail _ (.tail _ (.tail _ (.tail _ (.tail _ (.tail _ (.tail _ (.tail _ (.head _)))))))))) ?_
 refine dx_in S₃ (.tail _ (.tail _ (.tail _ (.tail _ (.tail _ (.head _)))))) (intKind_is PP w one tk) (not_sys hkd) ?_
 refine tr_b ?_
 rw [kp_none.mpr (by rw [hk]; exact hl)]
 refine if_f ?_
 refine k_execs_cons ?_
 refine k_If ?_
 refine k_isTrue_Compare1 ?_
 refine name_L S₃ (by exact rfl) (.head _) (.head _) ?_
 refine name_L S₃ (by exact rfl) (.head _) (.tail _ (.tail _ (.tail _ (.tail _ (.tail _ (.tail _ (.tail _ (.tail _ (.tail _ (.tail _ (.tail _ (.head _)))))))))))) ?_
 refine dx_in S₃ (mM mru) (intKind_is PP w one tk) (not_sys hru) ?_
 refine tr_b ?_
 (refine (Eq.symm ((ru_get hrk one).1 hp)) ▸ ?_)
 refine if_f ?_
 refine k_execs_cons ?_
 refine k_Expr_any ?_
 refine k_MethodCall ?_
 refine name_L S₃ (by exact rfl) (.head _) (.tail _ (.head _)) ?_
 refine gm_listR (R := isI) (xs := runs) PySem.F.slot_list_append PySem.F.type_list_append S₃ (.tail _ (.tail _ (.tail _ (.tail _ (.head _))))) ?_
 refine cw_B ?_
 refine k_items_cons ?_
 refine name_L S₃ (by exact rfl) (.head _) (.head _) ?_
 refine wpAny_items_nil ?_
 refine lr_append (y := one) S₃ (.tail (.tail (.tail (.tail .head)))) ⟨_, rfl⟩ (fun h₄ S₄ => ?_) (Nat.le_trans (show runs.length ≤ 100000 from k4) (by decide))
 try dsimp only
 refine k_execs_cons ?_
 refine Assign_Tuple_swapped ?_
 refine k_Tuple ?_
 refine k_items_cons ?_
 refine k_BinOp ?_
 refine c_str ?_
 refine k_Call_Name_kw ?_
 refine name_B C S₄ C.b_str ?_
 refine PyProof.Rows.callWith_type rfl (ea_any rfl ?_)
 refine k_items_cons ?_
 refine name_L S₄ (by exact rfl) (.head _) (.head _) ?_
 refine wpAny_items_nil ?_
 refine P.str_of_int (fuel_log h2 (by lia)) ?_
 refine PyProof.Rows.add_str (fun t' tk' => ?_) ?hsz
 case hsz =>
  have e1 := int_text_len_1921 (fuel_log h2 (by lia : 0 ≤ one))
  have e2 : (Str.ofString "no line for ").length = 12 := by decide
  exact szS (by rw [e2]; lia)
 refine k_items_cons ?_
 refine List_ ?_
 refine wpAny_items_nil ?_
 refine n_list S₄ fun td2 h₅ S₅ => ?_
 refine wpAny_items_nil ?_
 refine n_tup S₅ fun tp h₆ S₆ => ?_
 refine up_T hh S₆ (.head _) rfl fun h₇ S₇ => ?_
 refine assignInOrder_cons ?_
 refine bn_L S₇ (by exact rfl) (.tail (.tail .head)) (.old (.tail (.tail (.tail (.tail .head))))) fun h₈ S₈ => ?_
 refine assignInOrder_cons ?_
 refine bn_L S₈ (by exact rfl) (.tail (.tail .head)) (.old (.tail (.tail (.tail .head)))) fun h₉ S₉ => ?_
 refine assignInOrder_nil ?_
 repeat (first | (with_reducible refine wpAny_execs_nil ?_) | (dsimp only))
 refine ⟨rfl, td2, .str (noLine one) t', kp, Nx, h₉, _, rfl, hk, ⟨t', rfl⟩, ?_⟩
 have S₁₀ : St h₀ ((td2, lsR isI []) :: (B.L, nsP (plNs B td2 (.str (noLine one) t') fr)) :: (B.rn, lsR isI (runs ++ [one])) :: (B.kd, dP (intKind PP w) (.type "dict") none #[] (kp.map kvOf)) :: (kp.map enOf ++ (Nx ++ M))) h₉ :=
  S₉.wk (.drop (.keep lsR_nil (.keep (nsP_sub (.cons _ (List.Sublist.refl _))) (.drop (.drop (.drop .refl))))))
 exact S₁₀.swap
theorem plain_while {y : MRes} {pos : Pos} {Q : Flow → Shared → Prop} (C : Cx w mg mb h₀) (hh : A.handled = none) (hun : A.units + 64 < cLine) (hru : 108 < B.ru) (hkd : 108 < B.kd) (mru : (B.ru, dP (intKind PP w) (.type "dict") none #[] kvsR) ∈ M) (hrk : rulesK kvsR M specs)
  (hlen : ∀ {k : Int} parts, look? specs k = some parts → parts.length ≤ 100000) {k : Nat} {σ : MS} (hr : Runs specs k σ y) (hk : kp.map krOf = σ.kept) (S : St h₀ (PL w B td kp σ Nx M) h)
  (q : ∀ s, PlEnd w h₀ g d os B M y s → Q .next s) : wpAny (model PP w) A (exec (.While whTest whBody [] pos) (plEnv B.L cd)) Q E ⟨h, g, d, t, os⟩ := by
 refine wpAny_While ?_
 refine codeAny_whileLoop (fun n s => (∃ (σ : MS) (td : Addr) (kp : Kp) (Nx : Led) (h : Heap) (t k : Nat), s = ⟨h, g, d, t, os⟩ ∧ Runs specs k σ y ∧ n = k + 1 ∧ kp.map krOf = σ.kept ∧ St h₀ (PL w B td kp σ Nx M) h) ∨ PlEnd w h₀ g d os B M y s) ?_ (k + 1) (.inl ⟨σ, td, kp, Nx, h, t, k, rfl, hr, rfl, hk, S⟩)
 clear S hk hr
 rintro n s (⟨σ, td, kp, Nx, h, t, k, rfl, hr, rfl, hk, S⟩ | ⟨td, tv, kp, Nx, h, t, rfl, hk, ht, S⟩)
 ·dsimp only [whTest, whD]
  refine k_isTrue_Compare1 ?_
  refine name_L S (by exact rfl) (.head _) (.tail _ (.tail _ (.tail _ (.head _)))) ?_
  refine List_ ?_
  refine wpAny_items_nil ?_
  refine n_list S fun e h₂ S₂ => ?_
  have S₃ := S₂.closeR (R := isI) (xs := []) .nil
  refine ne_I (ns := σ.todo) (ms := []) S₃ (.tail _ (.tail _ (.head _))) (.head _) hun ?_
  refine tr_b ?_
  replace S₃ := S₃.dropHead
  cases hr with
  | @fin kept fr told begun runs ok =>
   (refine (Eq.symm (decide_eq_true (rfl : (⟨kept, fr, [], told, begun, runs⟩ : MS).todo = []))) ▸ ?_)
   refine if_f ?_
   refine wpAny_execs_nil ?_
   refine q _ ⟨td, .ref B.tl, kp, (B.tl, lsR isI told) :: Nx, h₂, _, rfl, hk, ⟨B.tl, rfl, .head _⟩, ?_⟩
   have S₄ : St h₀ ((B.L, nsP (plNs B td (.ref B.tl) fr)) :: (td, lsR isI []) :: (B.tl, lsR isI told) :: (B.rn, lsR isI runs) :: (B.kd, dP (intKind PP w) (.type "dict") none #[] (kp.map kvOf)) :: (kp.map enOf ++ (Nx ++ M))) h₂ := S₃.wk (.keep (fun _ z => z) (.keep (fun _ z => z) (.keep (fun _ z => z) (.drop .refl))))
   have pm := List.perm_middle (l₁ := (B.rn, lsR isI runs) :: (B.kd, dP (intKind PP w) (.type "dict") none #[] (kp.map kvOf)) :: kp.map enOf) (a := (B.tl, lsR isI told)) (l₂ := Nx ++ M)
   exact S₄.perm ((pm.cons _).cons _)
  | @err kept fr one rest told begun runs ok h1 h2 hl hp =>
   (refine (Eq.symm (decide_eq_false (show ¬ (⟨kept, fr, one :: rest, told, begun, runs⟩ : MS).todo = [] from fun e => by cases e))) ▸ ?_)
   refine if_t ?_
   refine wpAny_mono (wh_err C hh hru hkd mru hrk ok h1 h2 hl hp hk S₃) (fun f s ⟨e, z⟩ => ?_) fun _ _ e => e
   subst e
   exact ⟨0, by (exact Nat.le_add_right _ _), .inr z⟩
  | @step σ' σ'' k' x ok st hr' =>
   have hne : ¬ σ.todo = [] := by cases st <;> (intro e; cases e)
   (refine (Eq.symm (decide_eq_false hne)) ▸ ?_)
   refine if_t ?_
   refine wpAny_mono (wh_step C hh hru hkd mru hrk hlen st ok hk S₃) (fun f s z => ?_) fun _ _ e => e
   obtain ⟨rfl, td', kp', Nx', h', t', rfl, hk', S'⟩ := z
   exact ⟨k' + 1, by (exact Nat.le_refl _), .inl ⟨_, td', kp', Nx', h', t', k', rfl, hr', rfl, hk', S'⟩⟩
 ·dsimp only [whTest, whD]
  refine k_isTrue_Compare1 ?_
  refine name_L S (by exact rfl) (.head _) (.tail _ (.tail _ (.tail _ (.head _)))) ?_
  refine List_ ?_
  refine wpAny_items_nil ?_
  refine n_list S fun e h₂ S₂ => ?_
  have S₃ := S₂.closeR (R := isI) (xs := []) .nil
  refine ne_I (ns := []) (ms := []) S₃ (.tail _ (.tail _ (.head _))) (.head _) hun ?_
  refine tr_b ?_
  rw [decide_eq_true rfl]
  refine if_f ?_
  refine wpAny_execs_nil ?_
  exact q _ ⟨td, tv, kp, Nx, h₂, _, rfl, hk, ht, S₃.dropHead⟩
end
end
section
noncomputable def kpRep (kp : Kp) (sym : Int) (D : Addr) : Kp := kp.map fun p => if p.1 = sym then (p.1, D, p.2.2 ++ [0]) else p
theorem kpRep_none {kp : Kp} {sym : Int} {D : Addr} (h : ∀ p ∈ kp, p.1 ≠ sym) : kpRep kp sym D = kp := by
 unfold kpRep
 conv => rhs; rw [← List.map_id kp]
 apply List.map_congr_left
 intro p hp
 rw [if_neg (h p hp)]; rfl
theorem kpRep_split {sym : Int} {a D : Addr} {row : List Int} : ∀ {kp : Kp}, (kp.map (·.1)).Nodup → (sym, a, row) ∈ kp → ∃ pre post, kp = pre ++ (sym, a, row) :: post ∧ kpRep kp sym D = pre ++ (sym, D, row ++ [0]) :: post
 | p :: kp, nd, m => by
  rw [List.map_cons, List.nodup_cons] at nd
  by_cases e : p.1 = sym
  ·have hp : p = (sym, a, row) := by
    rcases List.mem_cons.mp m with e1 | m
    ·exact e1.symm
    ·exact absurd (e ▸ List.mem_map.mpr ⟨_, m, rfl⟩) nd.1
   subst hp
   refine ⟨[], kp, rfl, ?_⟩
   show (if sym = sym then _ else _) :: kpRep kp sym D = _
   rw [if_pos rfl, kpRep_none]
   ·rfl
   ·intro q hq e2
    exact nd.1 (List.mem_map.mpr ⟨q, hq, e2⟩)
  ·have m' : (sym, a, row) ∈ kp := by
    rcases List.mem_cons.mp m with e1 | m
    ·exact absurd (by (refine (e1) ▸ ?_; try with_reducible rfl)) e
    ·exact m
   refine xEEA (kpRep_split (D := D) nd.2 m') fun pre post e1 e2 => ?_
   refine ⟨p :: pre, post, by rw [e1]; rfl, ?_⟩
   show (if p.1 = sym then _ else p) :: kpRep kp sym D = _
   rw [if_neg e, e2]; rfl
theorem kpRep_kr (kp : Kp) (sym : Int) (D : Addr) : (kpRep kp sym D).map krOf = app0 (kp.map krOf) sym := by
 unfold kpRep app0
 rw [List.map_map, List.map_map]
 apply List.map_congr_left
 intro p _
 show krOf (if p.1 = sym then (p.1, D, p.2.2 ++ [0]) else p) = if p.1 = sym then (p.1, p.2.2 ++ [0]) else krOf p
 split <;> rfl
theorem kpRep_kv {kp : Kp} {sym : Int} {D : Addr} (h : ∃ p ∈ kp, p.1 = sym) : (kpRep kp sym D).map kvOf = stored (kp.map kvOf) sym (.ref D) := by
 unfold stored kpRep
 rw [if_pos]
 ·rw [List.map_map, List.map_map]
  apply List.map_congr_left
  intro p _
  show kvOf (if p.1 = sym then (p.1, D, p.2.2 ++ [0]) else p) = if p.1 = sym then (p.1, .ref D) else kvOf p
  split <;> rfl
 ·(revert h; intro zh; refine xEA zh fun p hp e => ?_; clear zh)
  rw [List.any_eq_true]
  exact ⟨kvOf p, List.mem_map_of_mem hp, decide_eq_true e⟩
noncomputable abbrev plB0 (sa kd : Addr) (fr : Bool) (dl : Value) (ru : Addr) : List (Str × Value) := [("story", .ref sa), ("frozen", .bool fr), ("kept", .ref kd), ("deeds", dl), ("rules", .ref ru)]
theorem pl_perm {α : Type _} {tp kl L rn kd it sa : α} {k Nx N : List α} : (it :: sa :: L :: kd :: (k ++ (tp :: kl :: rn :: Nx ++ N))).Perm (tp :: kl :: L :: rn :: kd :: (k ++ (Nx ++ it :: sa :: N))) := by
 classical
 rw [List.perm_iff_count]; intro x
 simp only [List.count_cons, List.count_append, List.cons_append]; lia
section
variable {w : World} {A : Around} {E : Value → Shared → Prop} {h₀ h : Heap} {g : Array GenState} {d : Drawn} {t : Nat} {os : OsState} {mg mb : Str → Option Value}
 {kvsR : List (Int × Value)} {specs : List (Int × List Int)} {rk : Int → Nat} {i : Nat} {sym ex : Int} {kp : Kp} {fr : Bool} {N : Led} {L it sa kd ru : Addr} {P : Pr} {cd : Value} {v dl : Value} {tls : List Tl}
theorem pl_turn {Q : Flow → Shared → Prop} (C : Cx w mg mb h₀) (D : Gd specs rk i) (hz : 3 * TB i 5 ≤ 100000) (hn5 : specs.length ≤ 1000) (hh : A.handled = none) (hun : A.units + 64 < cLine) (hru : 108 < ru) (hkd : 108 < kd)
  (mru : (ru, dP (intKind PP w) (.type "dict") none #[] kvsR) ∈ N) (hrk : rulesK kvsR N specs) (I : Inv specs rk i (kp.map krOf)) (hs5 : rk sym ≤ 5) (hs0 : 0 ≤ sym) (hs1 : sym < 100000) (ht : tls.length ≤ 100) (hv : tupR N v (sym, ex))
  (S : St h₀ ((it, P) :: (sa, lsR (stR N) tls) :: (L, nsP (plB0 sa kd fr dl ru)) :: (kd, dP (intKind PP w) (.type "dict") none #[] (kp.map kvOf)) :: (kp.map enOf ++ N)) h)
  (q : ∀ (kp2 : Kp) (Nx : Led) (h : Heap) (t : Nat), kp2.map krOf = (deedF specs 5 (kp.map krOf, fr) (sym, ex)).2.1 →
   St h₀ ((it, P) :: (sa, lsR (stR (Nx ++ N)) (tls ++ [(deedF specs 5 (kp.map krOf, fr) (sym, ex)).1])) :: (L, nsP (plB0 sa kd (deedF specs 5 (kp.map krOf, fr) (sym, ex)).2.2 dl ru)) :: (kd, dP (intKind PP w) (.type "dict") none #[] (kp2.map kvOf)) :: (kp2.map enOf ++ (Nx ++ N))) h → Q .next ⟨h, g, d, t, os⟩) :
  wpAny (model PP w) A (assign plTgt (plEnv L cd) v) (fun _ s₂ => wpAny (model PP w) A (execs plBody (plEnv L cd)) Q E s₂) E ⟨h, g, d, t, os⟩ := by
 (revert hv; intro zh; refine xEEEA zh fun p t1 t2 zq3 mp => ?_; clear zh; subst zq3)
 dsimp only at mp
 dsimp only [plTgt, plBody, plForD]
 refine asg_T hh S (.tail _ (.tail _ (.tail _ (.tail _ (List.mem_append_right _ mp))))) rfl rfl fun h₁ S₁ => ?_
 refine assignInOrder_cons ?_
 refine asg_L S₁ (by exact rfl) (.tail (.tail .head)) (.new (by simp only [List.map_cons, List.map_nil]; decide)) fun h₂ S₂ => ?_
 refine assignInOrder_cons ?_
 refine asg_L S₂ (by exact rfl) (.tail (.tail .head)) (.new (by simp only [List.map_cons, List.map_nil]; decide)) fun h₃ S₃ => ?_
 refine assignInOrder_nil ?_
 clear S S₁ S₂
 refine k_execs_cons ?_
 refine Assign_Tuple ?_
 refine k_Tuple ?_
 refine k_items_cons ?_; refine List_ ?_
 refine k_items_cons ?_
 refine name_L S₃ (by exact rfl) (.tail _ (.tail _ (.head _))) (.tail _ (.head _)) ?_
 refine wpAny_items_nil ?_; refine n_list S₃ fun td h₄ S₄ => ?_
 refine k_items_cons ?_; refine List_ ?_; refine wpAny_items_nil ?_; refine n_list S₄ fun tl h₅ S₅ => ?_
 refine k_items_cons ?_; refine List_ ?_; refine wpAny_items_nil ?_; refine n_list S₅ fun bg h₆ S₆ => ?_
 refine k_items_cons ?_; refine List_ ?_; refine wpAny_items_nil ?_; refine n_list S₆ fun rn h₇ S₇ => ?_
 refine wpAny_items_nil ?_
 refine n_tup S₇ fun tp h₈ S₈ => ?_
 refine asg_T hh S₈ (.head _) rfl rfl fun h₉ S₉ => ?_
 replace S₉ := S₉.dropHead
 clear S₃ S₄ S₅ S₆ S₇ S₈
 refine assignInOrder_cons ?_
 refine asg_L S₉ (by exact rfl) (.tail (.tail (.tail (.tail (.tail (.tail .head)))))) (.new (by simp only [List.map_cons, List.map_nil]; decide)) fun h₁₀ S₁₀ => ?_
 refine assignInOrder_cons ?_
 refine asg_L S₁₀ (by exact rfl) (.tail (.tail (.tail (.tail (.tail (.tail .head)))))) (.new (by simp only [List.map_cons, List.map_nil]; decide)) fun h₁₁ S₁₁ => ?_
 refine assignInOrder_cons ?_
 refine asg_L S₁₁ (by exact rfl) (.tail (.tail (.tail (.tail (.tail (.tail .head)))))) (.new (by simp only [List.map_cons, List.map_nil]; decide)) fun h₁₂ S₁₂ => ?_
 refine assignInOrder_cons ?_
 refine asg_L S₁₂ (by exact rfl) (.tail (.tail (.tail (.tail (.tail (.tail .head)))))) (.new (by simp only [List.map_cons, List.map_nil]; decide)) fun h₁₃ S₁₃ => ?_
 refine assignInOrder_nil ?_
 clear S₉ S₁₀ S₁₁ S₁₂
 try dsimp only
 let B : Pa := { L := L, tl := tl, bg := bg, rn := rn, kd := kd, sa := sa, ru := ru, dl := dl, sy := .int sym t1, ex := .int ex t2 }
 let M : Led := (it, P) :: (sa, lsR (stR N) tls) :: N
 have S₁₄ : St h₀ (PL w B td kp ⟨kp.map krOf, fr, [sym], [], [], []⟩ [] M) h₁₃ := by
  have S' : St h₀ ((rn, lsR isI []) :: (bg, lsR (bgR []) []) :: (tl, lsR isI []) :: (td, lsR isI [sym]) :: (it, P) :: (sa, lsR (stR N) tls) :: (L, nsP (plNs B td (.ref tl) fr)) :: (kd, dP (intKind PP w) (.type "dict") none #[] (kp.map kvOf)) :: (kp.map enOf ++ N)) h₁₃ :=
   S₁₃.wk (.keep lsR_nil (.keep lsR_nil (.keep lsR_nil (.keep (lsR_of (.cons ⟨_, rfl⟩ .nil)) .refl))))
  have S1 := (((((S'.take (.tail (.tail (.tail (.tail (.tail (.tail (.tail .head)))))))).take (.tail .head)).take (.tail (.tail .head))).take (.tail (.tail (.tail .head)))).take (.tail (.tail (.tail (.tail .head))))).take (.tail (.tail (.tail (.tail (.tail (.tail (.tail .head)))))))
  have pm : (kp.map enOf ++ (it, P) :: (sa, lsR (stR N) tls) :: N).Perm ((it, P) :: (sa, lsR (stR N) tls) :: (kp.map enOf ++ N)) := List.perm_append_comm_assoc (kp.map enOf) [_, _] N
  exact S1.perm ((((((pm.cons _).cons _).cons _).cons _).cons _).cons _)
 clear S₁₃
 obtain ⟨k, hrun⟩ := does_deed (z := i) (s := (kp.map krOf, fr)) (sym := sym) D hn5 hs5 hs0 hs1 I hz
 have lok := look_ok (z := i) D.W 5 ⟨kp.map krOf, fr, []⟩ sym hs5 I
 have hmid : mid specs 5 (kp.map krOf, fr) (sym, ex) = if ex < 4 then app0 (lookF specs 5 ⟨kp.map krOf, fr, []⟩ sym).2.kept sym else (lookF specs 5 ⟨kp.map krOf, fr, []⟩ sym).2.kept := rfl
 have hfin : fin specs 5 (kp.map krOf, fr) (sym, ex) = if ex = 4 ∨ ex = 5 then drop0 (mid specs 5 (kp.map krOf, fr) (sym, ex)) sym else mid specs 5 (kp.map krOf, fr) (sym, ex) := rfl
 have Im := mid_inv (z := i) (s := (kp.map krOf, fr)) (e := (sym, ex)) D.W I hs5
 have Ifn := fin_inv (z := i) (s := (kp.map krOf, fr)) (e := (sym, ex)) D.W I hs5
 have hd1 : (deedF specs 5 (kp.map krOf, fr) (sym, ex)).1 = ⟨(lookF specs 5 ⟨kp.map krOf, fr, []⟩ sym).1, (lookF specs 5 ⟨kp.map krOf, fr, []⟩ sym).2.runs, (fin specs 5 (kp.map krOf, fr) (sym, ex)).map (·.1)⟩ := rfl
 have hd2 : (deedF specs 5 (kp.map krOf, fr) (sym, ex)).2 = (fin specs 5 (kp.map krOf, fr) (sym, ex), (lookF specs 5 ⟨kp.map krOf, fr, []⟩ sym).2.fr) := rfl
 rw [hd1, hd2] at q
 have hrun' : Runs specs k ⟨kp.map krOf, fr, [sym], [], [], []⟩ (lookF specs 5 ⟨kp.map krOf, fr, []⟩ sym) := hrun
 generalize lookF specs 5 ⟨kp.map krOf, fr, []⟩ sym = y at hrun' lok hmid q
 clear hrun hd1 hd2
 refine k_execs_cons ?_
 refine plain_while (B := B) (M := M) (specs := specs) (kvsR := kvsR) (y := y) C hh hun hru hkd (.tail _ (.tail _ mru)) ((rulesK_mono (fun _ e => .tail _ (.tail _ e)) hrk))
  (fun parts hp => Nat.le_trans (D.W.len _ _ hp).1 (by decide)) hrun' rfl S₁₄ ?_
 intro s zr; obtain ⟨td2, tv, kp2, Nx, h₁₅, t₁₅, rfl, hk2, htv, S₁₅⟩ := zr
 try dsimp only
 have mN : ∀ {q : Addr × Pr}, q ∈ N → ∀ {a b c e : Addr × Pr} {kp' : Kp}, q ∈ a :: b :: c :: e :: (kp'.map enOf ++ (Nx ++ M)) := fun hq => .tail _ (.tail _ (.tail _ (.tail _ (List.mem_append_right _ (List.mem_append_right _ (.tail _ (.tail _ hq)))))))
 have hsz2 : (kp2.map kvOf).length ≤ 1000 := by
  have h1 := lok.inv.size
  have h2 := congrArg List.length hk2
  rw [List.length_map] at h2 ⊢
  lia
 refine k_execs_cons ?_
 refine wpAny_mono (Q := fun (f : Flow) s => f = .next ∧ ∃ (kp3 : Kp) (h : Heap) (t : Nat), s = ⟨h, g, d, t, os⟩ ∧ kp3.map krOf = mid specs 5 (kp.map krOf, fr) (sym, ex) ∧
   St h₀ ((L, nsP (plNs B td2 tv y.2.fr)) :: (td2, lsR isI []) :: (rn, lsR isI y.2.runs) :: (kd, dP (intKind PP w) (.type "dict") none #[] (kp3.map kvOf)) :: (kp3.map enOf ++ (Nx ++ M))) h) ?aa ?bb fun _ _ e => e
 case aa =>
  refine k_If ?_
  refine wpAny_isTrue_BoolOp ?_
  refine wpAny_allTrue_And_cons ?_
  refine k_isTrue_Compare1 ?_
  refine name_L S₁₅ (by exact rfl) (.head _) (.tail _ (.tail _ (.tail _ (.tail _ (.head _))))) ?_
  refine c_int ?_
  refine lt_ii ?_
  refine tr_b ?_
  refine ite_dec (fun hlt => ?_) fun hlt => ?_
  ·rw [if_pos hlt] at hmid
   refine wpAny_allTrue_And_cons ?_
   refine k_isTrue_Compare1 ?_
   refine name_L S₁₅ (by exact rfl) (.head _) (.tail _ (.tail _ (.tail _ (.tail _ (.tail _ (.head _)))))) ?_
   refine name_L S₁₅ (by exact rfl) (.head _) (.tail _ (.tail _ (.tail _ (.tail _ (.tail _ (.tail _ (.tail _ (.tail _ (.head _))))))))) ?_
   refine dx_in S₁₅ (.tail _ (.tail _ (.tail _ (.head _)))) (intKind_is PP w sym t1) (not_sys hkd) ?_
   refine tr_b ?_
   cases hv : valueAt (kp2.map kvOf) sym with
   | none =>
    refine if_f ?_
    refine if_f ?_
    repeat (first | (with_reducible refine wpAny_execs_nil ?_) | (dsimp only))
    refine ⟨rfl, kp2, h₁₅, _, rfl, ?_, S₁₅⟩
    rw [hmid, hk2, app0_none (by (refine (hk2) ▸ ?_; try with_reducible rfl); exact kp_none.mp hv)]
   | some v =>
    (refine xEEAA (kp_some hv) fun a row zq2 mk lk => ?_; subst zq2)
    refine if_t ?_
    refine wpAny_allTrue_And_nil ?_
    refine if_t ?_
    refine k_execs_cons ?_
    refine wpAny_Assign_Subscript ?_
    refine k_BinOp ?_
    refine k_Subscript ?_
    refine name_L S₁₅ (by exact rfl) (.head _) (.tail _ (.tail _ (.tail _ (.tail _ (.tail _ (.tail _ (.tail _ (.tail _ (.head _))))))))) ?_
    refine name_L S₁₅ (by exact rfl) (.head _) (.tail _ (.tail _ (.tail _ (.tail _ (.tail _ (.head _)))))) ?_
    refine dx_item S₁₅ (.tail _ (.tail _ (.tail _ (.head _)))) (intKind_is PP w sym t1) hv ?_ (by with_unfolding_all rfl)
    refine List_ ?_
    refine k_items_cons ?_
    refine c_int ?_
    refine wpAny_items_nil ?_
    refine n_list S₁₅ fun zl h₁₆ S₁₆ => ?_
    replace S₁₆ := S₁₆.wk (.keep (lsR_of (R := isI) (xs := [0]) (.cons ⟨_, rfl⟩ .nil)) .refl)
    have hrow : row.length ≤ 100000 := row_le D lok.inv (sym, row) (by rw [← hk2]; exact List.mem_map_of_mem (f := krOf) mk)
    refine add_lr (R := isI) (xs := row) (ys := [0]) S₁₆ (.tail _ (.tail _ (.tail _ (.tail _ (.tail _ (List.mem_append_left _ (List.mem_map_of_mem (f := enOf) mk))))))) (.head _) (fun c h₁₇ S₁₇ => ?_) (Nat.le_trans (show row.length + 1 ≤ 100001 by (exact Nat.succ_le_succ (by assumption))) (by decide))
    refine name_L S₁₇ (by exact rfl) (.tail _ (.tail _ (.head _))) (.tail _ (.tail _ (.tail _ (.tail _ (.tail _ (.tail _ (.tail _ (.tail _ (.head _))))))))) ?_
    refine name_L S₁₇ (by exact rfl) (.tail _ (.tail _ (.head _))) (.tail _ (.tail _ (.tail _ (.tail _ (.tail _ (.head _)))))) ?_
    refine wpAny_setItem_pairs (intKind_is PP w sym t1) (S₁₇.isDict (.tail _ (.tail _ (.tail _ (.tail _ (.tail _ (.head _))))))) (fun h₁₈ hd hs2 => ?_) (szS (by (exact Nat.le_trans (by assumption) (by decide))))
    have S₁₈ := S₁₇.dictUp (.tail (.tail (.tail (.tail (.tail .head))))) hd hs2.extBut
    rw [← kpRep_kv (D := c) ⟨_, mk, rfl⟩] at S₁₈
    repeat (first | (with_reducible refine wpAny_execs_nil ?_) | (dsimp only))
    refine xEEA (kpRep_split (D := c) (by rw [kp_keys, hk2]; exact lok.inv.nd) mk) fun pre post e1 e2 => ?_
    refine ⟨rfl, kpRep kp2 sym c, h₁₈, _, rfl, by rw [hmid, kpRep_kr, hk2], ?_⟩
    generalize (kpRep kp2 sym c).map kvOf = kvs3 at S₁₈ ⊢
    (refine (Eq.symm (e2)) ▸ ?_; try with_reducible rfl)
    rw [e1] at S₁₈
    simp only [List.map_append, List.map_cons, List.append_assoc, List.cons_append] at S₁₈ ⊢
    have S₁₉ : St h₀ ((c, lsR isI (row ++ [0])) :: (L, nsP (plNs B td2 tv y.2.fr)) :: (td2, lsR isI []) :: (rn, lsR isI y.2.runs) :: (kd, dP (intKind PP w) (.type "dict") none #[] kvs3) :: (pre.map enOf ++ (post.map enOf ++ (Nx ++ M)))) h₁₈ := by
     refine S₁₈.sub ?_
     refine .cons_cons _ (.cons _ (.cons_cons _ (.cons_cons _ (.cons_cons _ (.cons_cons _ ?_)))))
     exact List.Sublist.append_left (.cons _ (List.Sublist.refl _)) _
    refine S₁₉.perm ?_
    exact List.perm_middle (l₁ := (L, nsP (plNs B td2 tv y.2.fr)) :: (td2, lsR isI []) :: (rn, lsR isI y.2.runs) :: (kd, dP (intKind PP w) (.type "dict") none #[] kvs3) :: pre.map enOf) (a := (c, lsR isI (row ++ [0])))
  ·refine if_f ?_
   repeat (first | (with_reducible refine wpAny_execs_nil ?_) | (dsimp only))
   refine ⟨rfl, kp2, h₁₅, _, rfl, ?_, S₁₅⟩
   rw [hmid, if_neg hlt, hk2]
 case bb =>
  intro f s zr; (revert zr; intro zh; refine xAEEEAA zh fun zq0 kp3 h₂₀ t₂₀ zq4 hk3 S₂₀ => ?_; clear zh; subst zq0; subst zq4)
  have hsz3 : (kp3.map kvOf).length ≤ 1000 := by
   have h1 := Im.size
   have h2 := congrArg List.length hk3
   rw [List.length_map] at h2 ⊢
   lia
  try dsimp only
  refine k_execs_cons ?_
  refine wpAny_mono (Q := fun (f : Flow) s => f = .next ∧ ∃ (kp4 : Kp) (h : Heap) (t : Nat), s = ⟨h, g, d, t, os⟩ ∧ kp4.map krOf = fin specs 5 (kp.map krOf, fr) (sym, ex) ∧
   St h₀ ((L, nsP (plNs B td2 tv y.2.fr)) :: (td2, lsR isI []) :: (rn, lsR isI y.2.runs) :: (kd, dP (intKind PP w) (.type "dict") none #[] (kp4.map kvOf)) :: (kp4.map enOf ++ (Nx ++ M))) h) ?pp ?st fun _ _ e => e
  case pp =>
   refine k_If ?_
   refine k_isTrue_Compare1 ?_
   refine name_L S₂₀ (by exact rfl) (.head _) (.tail _ (.tail _ (.tail _ (.tail _ (.head _))))) ?_
   (with_reducible refine k_Tuple ?_); refine k_items_cons ?_; (with_reducible refine c_int ?_); refine k_items_cons ?_; (with_reducible refine c_int ?_); (with_reducible refine wpAny_items_nil ?_)
   refine n_tup S₂₀ fun tp h₂₁ S₂₁ => ?_
   refine in_T2 S₂₁ (.head _) ?_
   refine tr_b ?_
   replace S₂₁ := S₂₁.dropHead
   refine ite_dec (fun hpop => ?_) fun hpop => ?_
   ·refine k_execs_cons ?_
    refine k_Expr_any ?_
    refine k_MethodCall ?_
    refine name_L S₂₁ (by exact rfl) (.head _) (.tail _ (.tail _ (.tail _ (.tail _ (.tail _ (.tail _ (.tail _ (.tail _ (.head _))))))))) ?_
    refine gm_dx PySem.F.slot_dict_pop PySem.F.type_dict_pop S₂₁ (.tail _ (.tail _ (.tail _ (.head _)))) ?_
    refine cw_B ?_
    refine k_items_cons ?_
    refine name_L S₂₁ (by exact rfl) (.head _) (.tail _ (.tail _ (.tail _ (.tail _ (.tail _ (.head _)))))) ?_
    refine k_items_cons ?_
    refine c_none ?_
    refine wpAny_items_nil ?_
    refine dx_pop S₂₁ (.tail (.tail (.tail .head))) (intKind_is PP w sym t1) rfl (not_sys hkd) (by (exact Nat.le_trans (by assumption) (by decide))) fun v h₂₂ t₂₂ S₂₂ => ?_
    repeat (first | (with_reducible refine wpAny_execs_nil ?_) | (dsimp only))
    refine ⟨rfl, kpDrop kp3 sym, h₂₂, t₂₂, rfl, ?_, ?_⟩
    ·(refine (Eq.symm (hfin)) ▸ ?_; refine (Eq.symm (if_pos hpop)) ▸ ?_; rewrite [kpDrop_kr]; refine (Eq.symm (hk3)) ▸ ?_; try with_reducible rfl)
    ·rw [kpDrop_kv]
     refine S₂₂.sub ?_
     exact .cons_cons _ (.cons_cons _ (.cons_cons _ (.cons_cons _ (List.Sublist.append_right (List.Sublist.map _ List.filter_sublist) _))))
   ·repeat (first | (with_reducible refine wpAny_execs_nil ?_) | (dsimp only))
    refine ⟨rfl, kp3, h₂₁, _, rfl, ?_, S₂₁⟩
    rw [hfin, if_neg hpop, hk3]
  case st =>
   intro f s zr; (revert zr; intro zh; refine xAEEEAA zh fun zq0 kp4 h₂₃ t₂₃ zq4 hk4 S₂₃ => ?_; clear zh; subst zq0; subst zq4)
   have hsz4 : (kp4.map kvOf).length ≤ 1000 := by
    have h1 := Ifn.size
    have h2 := congrArg List.length hk4
    rw [List.length_map] at h2 ⊢
    lia
   try dsimp only
   have msa : (sa, lsR (stR N) tls) ∈ (L, nsP (plNs B td2 tv y.2.fr)) :: (td2, lsR isI []) :: (rn, lsR isI y.2.runs) :: (kd, dP (intKind PP w) (.type "dict") none #[] (kp4.map kvOf)) :: (kp4.map enOf ++ (Nx ++ M)) := .tail _ (.tail _ (.tail _ (.tail _ (List.mem_append_right _ (List.mem_append_right _ (.tail _ (.head _)))))))
   refine k_execs_cons ?_
   refine k_Expr_any ?_
   refine k_MethodCall ?_
   refine name_L S₂₃ (by exact rfl) (.head _) (.tail _ (.tail _ (.tail _ (.tail _ (.tail _ (.tail _ (.head _))))))) ?_
   refine gm_listR (R := stR N) (xs := tls) PySem.F.slot_list_append PySem.F.type_list_append S₂₃ msa ?_
   refine cw_B ?_
   refine k_items_cons ?_
   refine k_Tuple ?_
   refine k_items_cons ?_
   refine name_L S₂₃ (by exact rfl) (.head _) (.tail _ (.tail _ (.head _))) ?_
   refine k_items_cons ?_
   refine name_L S₂₃ (by exact rfl) (.head _) (.head _) ?_
   refine k_items_cons ?_
   refine k_Call_Name_kw ?_
   refine name_B C S₂₃ C.b_list ?_
   refine PyProof.Rows.callWith_type rfl (ea_any rfl ?_)
   refine k_items_cons ?_
   refine name_L S₂₃ (by exact rfl) (.head _) (.tail _ (.tail _ (.tail _ (.tail _ (.tail _ (.tail _ (.tail _ (.tail _ (.head _))))))))) ?_
   refine wpAny_items_nil ?_
   refine dx_list S₂₃ hh (.tail _ (.tail _ (.tail _ (.head _)))) (not_sys hkd) (by (exact Nat.le_trans (by assumption) (by decide))) fun kl vs h₂₄ t₂₄ hvs S₂₄ => ?_
   replace S₂₄ := S₂₄.closeR (ints_keys hvs)
   rw [List.map_map, show (fun x : Int × Value => x.1) ∘ kvOf = (fun p : Int × Addr × List Int => p.1) from rfl, kp_keys, hk4] at S₂₄
   refine wpAny_items_nil ?_
   refine n_tup S₂₄ fun tp h₂₅ S₂₅ => ?_
   refine wpAny_items_nil ?_
   let N2 : Led := (tp, tpP [tv, .ref rn, .ref kl]) :: (kl, lsR isI ((fin specs 5 (kp.map krOf, fr) (sym, ex)).map (·.1))) :: (rn, lsR isI y.2.runs) :: Nx
   have S₂₆ : St h₀ ((it, P) :: (sa, lsR (stR N) tls) :: (L, nsP (plNs B td2 tv y.2.fr)) :: (kd, dP (intKind PP w) (.type "dict") none #[] (kp4.map kvOf)) :: (kp4.map enOf ++ (N2 ++ N))) h₂₅ := by
    have S1 : St h₀ ((tp, tpP [tv, .ref rn, .ref kl]) :: (kl, lsR isI ((fin specs 5 (kp.map krOf, fr) (sym, ex)).map (·.1))) :: (L, nsP (plNs B td2 tv y.2.fr)) :: (rn, lsR isI y.2.runs) :: (kd, dP (intKind PP w) (.type "dict") none #[] (kp4.map kvOf)) :: (kp4.map enOf ++ (Nx ++ M))) h₂₅ := S₂₅.sub (.cons_cons _ (.cons_cons _ (.cons_cons _ (.cons _ (List.Sublist.refl _)))))
    refine S1.perm ?_
    exact pl_perm
   have mNx : ∀ q ∈ N, q ∈ N2 ++ N := fun q hq => List.mem_append_right _ hq
   have S₂₇ := S₂₆.weak (.tail .head) (lsR_mono (R' := stR (N2 ++ N)) fun v y z => z.mono mNx)
   refine lr_append (y := ⟨y.1, y.2.runs, (fin specs 5 (kp.map krOf, fr) (sym, ex)).map (·.1)⟩) S₂₇ (.tail .head) ⟨tp, tv, rn, kl, rfl, .head _, ?_, .tail _ (.tail _ (.head _)), .tail _ (.head _)⟩ (fun h₂₈ S₂₈ => ?_) (Nat.le_trans (show tls.length ≤ 100 by assumption) (by decide))
   ·exact htv.mono fun q hq => .tail _ (.tail _ (.tail _ (List.mem_append_left _ hq)))
   repeat (first | (with_reducible refine wpAny_execs_nil ?_) | (dsimp only))
   refine q kp4 N2 h₂₈ _ hk4 ?_
   exact S₂₈.wk (.keep (fun _ z => z) (.keep (fun _ z => z) (.keep (nsP_sub (.cons _ (.cons _ (.cons _ (.cons _ (.cons _ (.cons _ (List.Sublist.refl _))))))) ) .refl)))
end
end
section
theorem perm5 {α : Type _} {a b c d e : α} : [c, b, a, e, d].Perm [a, b, c, d, e] := by
 classical
 rw [List.perm_iff_count]; intro x
 simp only [List.count_cons]; lia
section
variable {w : World} {A : Around} {E : Value → Shared → Prop} {h₀ h : Heap} {g : Array GenState} {d : Drawn} {t : Nat} {os : OsState} {mg mb : Str → Option Value} {K : Led}
 {kvsR : List (Int × Value)} {specs : List (Int × List Int)} {rk : Int → Nat}
theorem plain_call {Nt : Led} {R : Result → Shared → Prop} {ru dl : Addr} {es : List (Int × Int)} (C : Cx w mg mb h₀) (S : St h₀ K h) (hdep : A.depth < recursionLimit) (hh : A.handled = none) (hun : A.units + 70 < cLine)
  (hru : 108 < ru) (mru : (ru, dP (intKind PP w) (.type "dict") none #[] kvsR) ∈ K) (hrk : rulesK kvsR K specs) (hNt : ∀ p ∈ Nt, p ∈ K) (mdl : (dl, lsR (tupR Nt) es) ∈ K)
  (D : ∀ z, z ≤ 60 → Gd specs rk z) (hz : ∀ z, z ≤ 60 → 3 * TB z 5 ≤ 100000) (hn5 : specs.length ≤ 1000) (hes : ∀ e ∈ es, rk e.1 ≤ 5 ∧ 0 ≤ e.1 ∧ e.1 < 100000) (hlen : es.length ≤ 50)
  (q : ∀ tp sa li Nx h t, St h₀ ((tp, tpP [.ref sa, .ref li]) :: (sa, lsR (stR (Nx ++ K)) (deedsF specs 5 ([], false) es).1) :: (li, lsR (itR (Nx ++ K)) (deedsF specs 5 ([], false) es).2.1) :: (Nx ++ K)) h → R (.ok (.ret (.ref tp))) ⟨h, g, d, t, os⟩) :
  codeAny (model PP w) A (.call (.ref 259) ⟨[.ref ru, .ref dl], []⟩) R ⟨h, g, d, t, os⟩ := by
 refine' call_T (binds := [("rules", .ref ru), ("deeds", .ref dl)]) C S ?hroom ?ho ?hcd (fun t => BindsTo.of_eq ?hbind) ?hcell ?hloc ?hnd ?h1 ?h2 ?h3 ?k
 case ho => k_is
 case hcd => k_is
 case hbind => exact rfl
 case hroom => assumption
 case hcell => decide
 case hloc => exact rfl
 case hnd => simp only [List.map_cons, List.map_nil]; decide
 case h1 => rfl
 case h2 => rfl
 case h3 => rfl
 intro L h₁ S₁
 dsimp only [List.length_cons, List.length_nil]
 refine k_execs_cons ?_
 refine Assign_Tuple_swapped ?_
 refine k_Tuple ?_
 refine k_items_cons ?_
 refine wpAny_Dict_empty ?_
 have S₂ := S₁.push (P := dP (intKind PP w) (.type "dict") none #[] []) (o := { cls := .type "dict", data := .dict #[] }) ⟨rfl, rfl, rfl, #[], 0, rfl, fun _ he => by simp at he, Pairs.nil, List.nodup_nil⟩ rfl
 have hkd : 108 < h₁.objs.size := by
  refine xEA (o108 w) fun o ho zu2 => ?_
  exact Heap.lt_size (C.X.keeps S₁.keep _ _ ho)
 refine k_items_cons ?_
 refine c_bool ?_
 refine k_items_cons ?_; refine List_ ?_; refine wpAny_items_nil ?_; refine n_list S₂ fun sa h₃ S₃ => ?_
 refine wpAny_items_nil ?_
 refine n_tup S₃ fun tp0 h₄ S₄ => ?_
 refine up_T (by exact hh) S₄ (.head _) rfl fun h₅ S₅ => ?_
 replace S₅ := S₅.dropHead
 generalize h₁.objs.size = kd at *
 clear S₁ S₂ S₃ S₄
 refine assignInOrder_cons ?_
 refine bn_L S₅ (by exact rfl) (.tail (.tail .head)) (.new (by simp only [List.map_cons, List.map_nil]; decide)) fun h₆ S₆ => ?_
 refine assignInOrder_cons ?_
 refine bn_L S₆ (by exact rfl) (.tail (.tail .head)) (.new (by simp only [List.map_cons, List.map_nil]; decide)) fun h₇ S₇ => ?_
 refine assignInOrder_cons ?_
 refine bn_L S₇ (by exact rfl) (.tail (.tail .head)) (.new (by simp only [List.map_cons, List.map_nil]; decide)) fun h₈ S₈ => ?_
 refine assignInOrder_nil ?_
 try dsimp only
 have S₉ : St h₀ ((sa, lsR (stR ([] ++ K)) []) :: (L, nsP (plB0 sa kd false (.ref dl) ru)) :: (kd, dP (intKind PP w) (.type "dict") none #[] (([] : Kp).map kvOf)) :: (([] : Kp).map enOf ++ ([] ++ K))) h₈ := by
  have S' : St h₀ ((sa, lsR (stR K) []) :: (kd, dP (intKind PP w) (.type "dict") none #[] (([] : Kp).map kvOf)) :: (L, nsP (plB0 sa kd false (.ref dl) ru)) :: K) h₈ :=
   S₈.wk (.keep lsR_nil (.keep (fun _ z => z) (.keep (nsP_perm perm5) .refl)))
  exact S'.perm ((List.Perm.swap _ _ _).cons _)
 clear S₅ S₆ S₇ S₈
 refine k_execs_cons ?_
 refine For_ ?_
 refine name_L S₉ (by exact rfl) (.tail _ (.head _)) (.tail _ (.tail _ (.tail _ (.head _)))) ?_
 refine for_lr (R := tupR Nt) (xs := es) (I := fun i K' => ∃ (kp : Kp) (Nx : Led), K' = (sa, lsR (stR (Nx ++ K)) (deedsF specs 5 ([], false) (es.take i)).1) :: (L, nsP (plB0 sa kd (deedsF specs 5 ([], false) (es.take i)).2.2 (.ref dl) ru)) :: (kd, dP (intKind PP w) (.type "dict") none #[] (kp.map kvOf)) :: (kp.map enOf ++ (Nx ++ K)) ∧
  kp.map krOf = (deedsF specs 5 ([], false) (es.take i)).2.1 ∧ Inv specs rk i (kp.map krOf) ∧ (deedsF specs 5 ([], false) (es.take i)).1.length = i) (by exact hh) S₉ ?i0 ?hok ?turn ?done
 case i0 => exact ⟨[], [], rfl, rfl, ⟨fun p hp => by simp at hp, fun p hp => by simp at hp, List.nodup_nil⟩, rfl⟩
 case hok => intro i K' zr; (revert zr; intro zh; refine xEEA zh fun kp Nx zq2 zu3 => ?_; clear zh; subst zq2); exact .tail _ (.tail _ (.tail _ (List.mem_append_right _ (List.mem_append_right _ mdl))))
 case turn =>
  intro i v y K' h₁₇ it t₁₇ hy hvy zr S₁₇; (revert zr; intro zh; refine xEEAAA zh fun kp Nx zq2 hk I hl => ?_; clear zh; subst zq2)
  have hyes := hes y (List.mem_of_getElem? hy)
  have hi : i < es.length := (List.getElem?_eq_some_iff.mp hy).1
  have hsn := deedsF_snoc specs 5 ([], false) (es.take i) y
  have htk : es.take (i + 1) = es.take i ++ [y] := by (refine (Eq.symm (List.take_add_one)) ▸ ?_; refine (Eq.symm (hy)) ▸ ?_); rfl
  obtain ⟨sym, ex⟩ := y
  generalize hst : deedsF specs 5 ([], false) (es.take i) = st at hk hl hsn S₁₇
  obtain ⟨tls, kept, fr⟩ := st
  dsimp only at hk hl hsn S₁₇ hyes
  subst hk
  refine pl_turn (sym := sym) (ex := ex) (specs := specs) (rk := rk) (i := i) (kp := kp) (fr := fr) (N := Nx ++ K) (tls := tls) (dl := .ref dl) (ru := ru) (kvsR := kvsR) C (D i (by lia)) (hz i (by lia)) hn5 hh (by show A.units + 3 + 64 < _; lia) hru hkd
   (List.mem_append_right _ mru) ((rulesK_mono (fun _ e => List.mem_append_right _ e) hrk)) I hyes.1 hyes.2.1 hyes.2.2 (by lia) ?hv S₁₇ ?q
  case hv => (revert hvy; intro zh; refine xEEEA zh fun p t1 t2 e m => ?_; clear zh); exact ⟨p, t1, t2, e, List.mem_append_right _ (hNt _ m)⟩
  case q =>
   intro kp2 Nx2 h₁₈ t₁₈ hk2 S₁₈
   have Ifn := fin_inv (z := i) (s := (kp.map krOf, fr)) (e := (sym, ex)) (D i (by lia)).W I hyes.1
   refine LoopP.next ?_ S₁₈
   (refine (Eq.symm (htk)) ▸ ?_; refine (Eq.symm (hsn)) ▸ ?_)
   exact ⟨kp2, Nx2 ++ Nx, by rw [List.append_assoc], hk2, by rw [hk2]; exact Ifn, by (refine (Eq.symm (List.length_append)) ▸ ?_; refine (Eq.symm (hl)) ▸ ?_); rfl⟩
 case done =>
  intro K' h₁₇ t₁₇ zr S₁₇; (revert zr; intro zh; refine xEEAAA zh fun kp Nx zq2 hk I hl => ?_; clear zh; subst zq2)
  rw [List.take_length] at hk hl S₁₇
  have hsz : (kp.map kvOf).length ≤ 1000 := by
   have := I.size
   rw [List.length_map] at this ⊢; (exact Nat.le_trans (by assumption) (by assumption))
  try dsimp only
  refine k_execs_cons ?_
  refine k_Return_some ?_
  refine k_Tuple ?_
  refine k_items_cons ?_
  refine name_L S₁₇ (by exact rfl) (.tail _ (.head _)) (.head _) ?_
  refine k_items_cons ?_
  refine k_Call_Name_kw ?_
  refine name_B C S₁₇ C.b_list ?_
  refine PyProof.Rows.callWith_type rfl (ea_any rfl ?_)
  refine k_items_cons ?_
  refine k_MethodCall ?_
  refine name_L S₁₇ (by exact rfl) (.tail _ (.head _)) (.tail _ (.tail _ (.head _))) ?_
  refine gm_dx PySem.F.slot_dict_items PySem.F.type_dict_items S₁₇ (.tail _ (.tail _ (.head _))) ?_
  refine cw_B ?_
  refine wpAny_items_nil ?_
  refine dx_items S₁₇ (.tail _ (.tail _ (.head _))) (not_sys hkd) fun vw h₁₈ S₁₈ => ?_
  refine wpAny_items_nil ?_
  refine xEAAAAEE (S₁₈.get (.tail _ (.tail _ (.tail _ (.head _))))) fun o eo a1 a2 a3 eso ep ro => ?_
  have SE : St h₀ ((vw, exP (viewObj kd)) :: (sa, lsR (stR (Nx ++ K)) (deedsF specs 5 ([], false) es).1) :: (L, nsP (plB0 sa kd (deedsF specs 5 ([], false) es).2.2 (.ref dl) ru)) :: (kd, dE (intKind PP w) (.type "dict") none #[] (kp.map kvOf) ep) :: (kp.map enOf ++ (Nx ++ K))) h₁₈ :=
   S₁₈.upd (.tail (.tail (.tail .head))) (Heap.ExtBut.refl _ _) eo ⟨a1, a2, a3, eso, ro⟩
  refine iv_list (v := vw) (x := kd) SE hh (.head _) (.tail _ (.tail _ (.tail _ (.head _)))) (by (exact Nat.le_trans (by assumption) (by decide))) fun l vs Ns h₁₉ t₁₉ G S₁₉ => ?_
  refine wpAny_items_nil ?_
  refine n_tup S₁₉ fun tp h₂₀ S₂₀ => ?_
  dsimp only [retV]
  have hit : All2 (itR ((Ns ++ kp.map enOf ++ Nx) ++ K)) vs (deedsF specs 5 ([], false) es).2.1 := by
   have ga := got_all G
   rw [List.take_length] at ga
   rw [← hk]
   refine All2.map2 (fun v p hp ⟨a, key, e, m, hkey⟩ => ?_) ga
   obtain ⟨tk, rfl⟩ := Value.isInt_shape hkey
   refine ⟨a, tk, p.2.1, e, ?_, ?_⟩
   ·simp only [List.append_assoc]; exact List.mem_append_left _ m
   ·simp only [List.append_assoc]; exact List.mem_append_right _ (List.mem_append_left _ (List.mem_map_of_mem hp))
  refine q tp sa l (Ns ++ kp.map enOf ++ Nx) h₂₀ t₁₉ ?_
  have S₂₁ := (S₂₀.weak (.tail .head) (lsR_of hit))
  have S₂₂ : St h₀ (((tp, tpP [.ref sa, .ref l]) :: (l, lsR (itR (Ns ++ kp.map enOf ++ Nx ++ K)) (deedsF specs 5 ([], false) es).2.1) :: Ns) ++ ((sa, lsR (stR (Nx ++ K)) (deedsF specs 5 ([], false) es).1) :: (kp.map enOf ++ (Nx ++ K)))) h₂₀ := by
   refine S₂₁.sub ?_
   refine List.Sublist.append_left ?_ _
   exact .cons _ (.cons_cons _ (.cons _ (.cons _ (List.Sublist.refl _))))
  have S₂₃ := S₂₂.weak (Up.app .head _) (lsR_mono (R' := stR (Ns ++ kp.map enOf ++ Nx ++ K)) fun v y z => z.mono fun p hp => by
   simp only [List.append_assoc]; exact List.mem_append_right _ (List.mem_append_right _ hp))
  refine S₂₃.perm ?_
  simp only [List.append_assoc]
  exact (List.perm_middle (l₁ := (l, _) :: Ns)).symm.cons _
end
end
section
noncomputable def rangeP (n : Nat) : Pr := fun o => ∃ a b c : Tok, o = { cls := .type "range", dict := none, data := .fields #[.int 0 a, .int n b, .int 1 c], slots := #[] }
noncomputable def rgP (n i : Nat) : Pr := fun o => o = { cls := .type "range_iterator", dict := none, data := .fields #[rawInt (i : Nat), rawInt ((n : Int) - (i : Nat)), rawInt 1], slots := #[] }
section
variable {prog : Program} {w : World} {A : Around} {E : Value → Shared → Prop} {env : Env} {h₀ h : Heap} {g : Array GenState} {d : Drawn} {t : Nat} {os : OsState} {K : Led} {r it : Addr} {n : Nat}
theorem mk_range {u : Tok} {Q : Value → Shared → Prop} (S : St h₀ K h) (q : ∀ r h' t', St h₀ ((r, rangeP n) :: K) h' → Q (.ref r) ⟨h', g, d, t', os⟩) : wpAny (model prog w) A (call (.type "range") [.int n u]) Q E ⟨h, g, d, t, os⟩ :=
 call_range_1 (s := ⟨h, g, d, t, os⟩) (q _ _ _ (S.push ⟨_, _, _, rfl⟩ rfl))
theorem rs_small (hn : n ≤ 100000) : Builtin.Range.small 0 n 1 = true ∧ Builtin.Range.rangeSize 0 n 1 = (n : Int) := by
 have e : Builtin.Range.rangeSize 0 n 1 = (n : Int) := by
  unfold Builtin.Range.rangeSize
  simp
  lia
 refine ⟨?_, e⟩
 unfold Builtin.Range.small
 (refine (Eq.symm (e)) ▸ ?_; try with_reducible rfl)
 simp [Builtin.Range.rangeFitsLong]
 lia
theorem it_range {Q : Value → Shared → Prop} (S : St h₀ K h) (m : (r, rangeP n) ∈ K) (hn : n ≤ 100000) (q : ∀ it h', St h₀ ((it, rgP n 0) :: K) h' → Q (.ref it) ⟨h', g, d, t, os⟩) : wpAny (model prog w) A (pyIter (.ref r)) Q E ⟨h, g, d, t, os⟩ := by
 obtain ⟨o, e, a, b, c, rfl⟩ := S.get m
 obtain ⟨h1, h2⟩ := rs_small hn
 refine wpAny_pyIter_range (s := ⟨h, g, d, t, os⟩) e h1 (q _ _ (S.push ?_ rfl))
 unfold rgP
 (refine (Eq.symm (h2)) ▸ ?_; try with_reducible rfl)
 simp
theorem letOwned_any {o : Obj} {c : String} {target : PySem.Expr} {v : Value} {Q : Unit → Shared → Prop} (e : h.get? it = some o) (hc : o.cls = .type c)
  (hn : ["enumerate", "zip", "dict_itemiterator", "dict_reverseitemiterator", "odict_iterator", "itertools.zip_longest", "itertools.pairwise"].contains c = false) (q : Q () ⟨h, g, d, t, os⟩) :
  wpAny (model prog w) A (letOwnedTupleGo target (.ref it) v) Q E ⟨h, g, d, t, os⟩ := by
 have main : wpAny (model prog w) A (do
   let (.ref r, .ref a) := ((Value.ref it), v) | return
   let o ← load r
   match o.cls, o.data with
   | .type n, .fields vs =>
    if ["enumerate", "zip", "dict_itemiterator", "dict_reverseitemiterator", "odict_iterator", "itertools.zip_longest", "itertools.pairwise"].contains n && vs[0]? == some (rawInt a) then
     rule "for.unpacks-the-owned-tuple"
     updateField r 0 .none
   | _, _ => pure ()) Q E ⟨h, g, d, t, os⟩ := by
  cases v with
  | ref a =>
   show wpAny _ _ (load it >>= _) _ _ _
   refine wpAny_bind (wpAny_load e ?_)
   (refine (Eq.symm (hc)) ▸ ?_; try with_reducible rfl)
   split
   ·rename_i x y z vs h1 h2
    cases h1
    (refine (Eq.symm (hn)) ▸ ?_; try with_reducible rfl)
    exact wpAny_pure q
   ·exact wpAny_pure q
  | _ => exact wpAny_pure q
 unfold letOwnedTupleGo
 split
 ·exact main
 ·exact main
 ·exact wpAny_pure q
theorem srcRange (hh : A.handled = none) (it : Addr) : Src prog w A g d os h₀ it n (fun i v => ∃ t, v = .int (i : Nat) t) (rgP n) (fun _ => True) where
 item := fun {i K h t Q E} hlt hk S q => by
  (refine xEA (S.get (.head _)) fun o e zq2 => ?_; subst zq2)
  refine wpAny_pyNext_range_item (s := ⟨h, g, d, t, os⟩) e (by lia) fun h' e' hs => q _ h' _ ⟨_, rfl⟩ ?_
  refine S.upd .head hs.extBut e' ?_
  have e1 : ((n : Int) - ((i + 1 : Nat) : Int)) = (n : Int) - (i : Nat) - 1 := by lia
  have e2 : ((i + 1 : Nat) : Int) = ((i : Nat) : Int) + 1 := by lia
  unfold rgP
  (refine (Eq.symm (e1)) ▸ ?_; refine (Eq.symm (e2)) ▸ ?_; try with_reducible rfl)
 stop := fun {K h t Q E} hk S q => by
  (refine xEA (S.get (.head _)) fun o e zq2 => ?_; subst zq2)
  exact wpAny_pyNext_range_end (s := ⟨h, g, d, t, os⟩) hh e (by lia) fun h' he => q h' t (S.gone he)
 self := fun {i K h t Q E} S q => by
  (refine xEA (S.get (.head _)) fun o e zq2 => ?_; subst zq2)
  exact wpAny_pyIter_rangeiter (s := ⟨h, g, d, t, os⟩) e q
 own := fun {i K h t Q E target v} S q => by
  (refine xEA (S.get (.head _)) fun o e zq2 => ?_; subst zq2)
  exact letOwned_any e rfl (by decide) q
end
section
variable {prog : Program} {w : World} {A : Around} {env : Env} {h₀ h : Heap} {g : Array GenState} {d : Drawn} {t : Nat} {os : OsState} {K : Led} {it : Addr} {n : Nat} {val : Nat → Value → Prop} {sP : Nat → Pr} {ok : Led → Prop} {β : Type}
noncomputable def GE (h₀ : Heap) (g : Array GenState) (d : Drawn) (os : OsState) (C D it : Addr) (P : Pr) (N K : Led) (RR : Led → Value → β → Prop) (old new : List β) (ys : List Value) (r : Value) (s : Shared) : Prop :=
 ∃ h t b Nx z, s = ⟨h, g, d, t, os⟩ ∧ new = old ++ [z] ∧ RR (Nx ++ N) r z ∧ St h₀ ((C, nsP b) :: (D, lsP ys) :: (it, P) :: (Nx ++ (N ++ K))) h
theorem GE_in {h₀ : Heap} {g : Array GenState} {d : Drawn} {os : OsState} {C D it : Addr} {P : Pr} {N K : Led} {RR : Led → Value → β → Prop} {old new : List β} {ys : List Value} {r : Value} {s : Shared} (h : Heap) (t : Nat) (b : List (Str × Value)) (Nx : Led) (z : β) (e : s = ⟨h, g, d, t, os⟩) (x : new = old ++ [z]) (y : RR (Nx ++ N) r z) (S : St h₀ ((C, nsP b) :: (D, lsP ys) :: (it, P) :: (Nx ++ (N ++ K))) h) : GE h₀ g d os C D it P N K RR old new ys r s := ⟨h, t, b, Nx, z, e, x, y, S⟩
noncomputable def GN (h₀ : Heap) (g : Array GenState) (d : Drawn) (os : OsState) (C D it : Addr) (P : Pr) (N K : Led) (old new : List β) (ys : List Value) (s : Shared) : Prop :=
 ∃ h t b Nx, s = ⟨h, g, d, t, os⟩ ∧ new = old ∧ St h₀ ((C, nsP b) :: (D, lsP ys) :: (it, P) :: (Nx ++ (N ++ K))) h
theorem comp_gr0 {elt target iter : PySem.Expr} {ifs : List PySem.Expr} {scope : Scope} {cl : List (Str × Addr)} {pos : Pos} {use : Option (Value → Sem Unit)} {Q : Value → Shared → Prop} {E : Value → Shared → Prop}
  (X : Src prog w A g d os h₀ it n val sP ok) (RR : Led → Value → β → Prop) (mono : ∀ {N N' : Led} {v : Value} {y : β}, (∀ p ∈ N, p ∈ N') → RR N v y → RR N' v y) (zs : Nat → List β) (z0 : zs 0 = [])
  (hcell : ∀ y ∈ scope.names, y.2 ≠ .cell) (hkind : scope.kind = .function) (hok : ∀ Nx, ok (Nx ++ K)) (hokC : ∀ K p q, ok K → ok (p :: q :: K)) (hn : n ≤ 100000) (S : St h₀ ((it, sP 0) :: K) h)
  (turn : ∀ i v ys Nx h t C D, i < n → val i v → St h₀ ((C, nsP []) :: (D, lsP ys) :: (it, sP (i + 1)) :: (Nx ++ K)) h → ∀ E' : Value → Shared → Prop,
   wpAny (model prog w) A (assign target (compEnvC scope cl C env) v) (fun _ s₂ =>
    wpAny (model prog w) A (forIn ifs true fun c r => if r = true then do let ok ← isTrue c (compEnvC scope cl C env) (eval c (compEnvC scope cl C env)); pure (ForInStep.yield ok) else pure (ForInStep.yield r)) (fun ok s₃ =>
      if ok = true then wpAny (model prog w) A (eval elt (compEnvC scope cl C env)) (GE h₀ g d os C D it (sP (i + 1)) Nx K RR (zs i) (zs (i + 1)) ys) E' s₃
      else GN h₀ g d os C D it (sP (i + 1)) Nx K (zs i) (zs (i + 1)) ys s₃) E' s₂) E' ⟨h, g, d, t, os⟩)
  (done : ∀ ys Nx h t C D, All2 (RR Nx) ys (zs n) → St h₀ ((C, nsP []) :: (D, lsP ys) :: (Nx ++ K)) h → match use with
   | none => Q (.ref D) ⟨h, g, d, t, os⟩
   | some u => wpAny (model prog w) A (u (.ref D)) (fun _ s => ∃ K' h' t', s = ⟨h', g, d, t', os⟩ ∧ St h₀ ((C, nsP []) :: K') h' ∧ ∀ h'', St h₀ K' h'' → Q .none ⟨h'', g, d, t', os⟩) E ⟨h, g, d, t, os⟩)
  (stab : use = none → ∀ ys Nx h t D, All2 (RR Nx) ys (zs n) → St h₀ ((D, lsP ys) :: (Nx ++ K)) h → Q (.ref D) ⟨h, g, d, t, os⟩) :
  wpAny (model prog w) A (newList []) (fun acc s₃ => wpAny (model prog w) A (newFunctionEnv scope env.globals cl [] env.qual none .none (some env)) (fun cenv s₄ =>
   codeAny (model prog w) A (.compStart (.ListComp elt [⟨target, iter, ifs, 0⟩] scope pos) 0 (.ref it) acc { cenv with scope := relabel scope env }) (compPost (model prog w) A E use Q acc cenv.locals) s₄) E s₃) E ⟨h, g, d, t, os⟩ := by
 refine comp_src hcell hkind X (fun i ys K' => ∃ Nx, K' = Nx ++ K ∧ All2 (RR Nx) ys (zs i) ∧ ys.length ≤ i ∧ i ≤ n) S ⟨[], rfl, by rw [z0]; exact .nil, Nat.le_refl _, Nat.zero_le _⟩ (fun i ys K' ⟨Nx, e, _⟩ => e ▸ hok Nx) hokC
  (fun i ys K' ⟨Nx, _, _, hl, hi⟩ => Nat.le_trans (show ys.length ≤ 100000 by lia) (by decide)) ?_ ?_ ?_
 ·intro i v ys K' h t C D hi hv zr S' E'
  refine xEAAA zr fun Nx zq a hl zu => ?_
  clear zr
  subst zq
  refine wpAny_mono (turn i v ys Nx h t C D hi hv S' E') (fun _ s₂ z => wpAny_mono z (fun ok s₃ z => ?_) fun _ _ e => e) fun _ _ e => e
  cases ok with
  | true =>
   rw [if_pos rfl] at z ⊢
   refine wpAny_mono z (fun r s ⟨h, t, b, Nx2, z, e, fz, x, S⟩ => (CE_in _ h t b e (⟨Nx2 ++ Nx, (List.append_assoc _ _ _).symm, ?_, ?_, hi⟩) S)) fun _ _ e => e
   ·rw [fz]
    exact (a.imp fun v y q => mono (fun p hp => List.mem_append_right _ hp) q).snoc x
   ·rw [List.length_append, List.length_singleton]; (exact Nat.succ_le_succ (by assumption))
  | false =>
   rw [if_neg (by decide)] at z ⊢
   (revert z; intro zh; refine xEEEEAA zh fun h t b Nx2 e fz S => ?_; clear zh)
   refine (CN_in _ h t b e (⟨Nx2 ++ Nx, (List.append_assoc _ _ _).symm, ?_, by (exact Nat.le_succ_of_le (by assumption)), hi⟩) S)
   rw [fz]
   exact a.imp fun v y q => mono (fun p hp => List.mem_append_right _ hp) q
 ·intro ys K' h t C D zr S'
  refine xEAAA zr fun Nx zq a zu zw => ?_
  clear zr
  subst zq
  cases use with
  | none => exact done ys Nx h t C D a S'
  | some u => exact done ys Nx h t C D a S'
 ·intro e ys K' h t D zr S'
  refine xEAAA zr fun Nx zq a zu zw => ?_
  clear zr
  subst zq
  exact stab e ys Nx h t D a S'
theorem comp_gr {elt target iter : PySem.Expr} {ifs : List PySem.Expr} {scope : Scope} {cl : List (Str × Addr)} {pos : Pos} {Q : Value → Shared → Prop} {E : Value → Shared → Prop}
  (X : Src prog w A g d os h₀ it n val sP ok) (RR : Led → Value → β → Prop) (mono : ∀ {N N' : Led} {v : Value} {y : β}, (∀ p ∈ N, p ∈ N') → RR N v y → RR N' v y) (zs : Nat → List β) (z0 : zs 0 = [])
  (hcell : ∀ y ∈ scope.names, y.2 ≠ .cell) (hkind : scope.kind = .function) (hok : ∀ Nx, ok (Nx ++ K)) (hokC : ∀ K p q, ok K → ok (p :: q :: K)) (hn : n ≤ 100000) (S : St h₀ ((it, sP 0) :: K) h)
  (turn : ∀ i v ys Nx h t C D, i < n → val i v → St h₀ ((C, nsP []) :: (D, lsP ys) :: (it, sP (i + 1)) :: (Nx ++ K)) h → ∀ E' : Value → Shared → Prop,
   wpAny (model prog w) A (assign target (compEnvC scope cl C env) v) (fun _ s₂ =>
    wpAny (model prog w) A (forIn ifs true fun c r => if r = true then do let ok ← isTrue c (compEnvC scope cl C env) (eval c (compEnvC scope cl C env)); pure (ForInStep.yield ok) else pure (ForInStep.yield r)) (fun ok s₃ =>
      if ok = true then wpAny (model prog w) A (eval elt (compEnvC scope cl C env)) (GE h₀ g d os C D it (sP (i + 1)) Nx K RR (zs i) (zs (i + 1)) ys) E' s₃
      else GN h₀ g d os C D it (sP (i + 1)) Nx K (zs i) (zs (i + 1)) ys s₃) E' s₂) E' ⟨h, g, d, t, os⟩)
  (done : ∀ Nx h t D, St h₀ ((D, lsR (RR Nx) (zs n)) :: (Nx ++ K)) h → Q (.ref D) ⟨h, g, d, t, os⟩) :
  wpAny (model prog w) A (newList []) (fun acc s₃ => wpAny (model prog w) A (newFunctionEnv scope env.globals cl [] env.qual none .none (some env)) (fun cenv s₄ =>
   codeAny (model prog w) A (.compStart (.ListComp elt [⟨target, iter, ifs, 0⟩] scope pos) 0 (.ref it) acc { cenv with scope := relabel scope env }) (compPost (model prog w) A E none Q acc cenv.locals) s₄) E s₃) E ⟨h, g, d, t, os⟩ :=
 comp_gr0 X RR mono zs z0 hcell hkind hok hokC hn S turn (fun ys Nx h t C D a S' => done Nx h t D (S'.dropHead.closeR a)) fun _ ys Nx h t D a S' => done Nx h t D (S'.closeR a)
theorem comp_grS {elt target iter : PySem.Expr} {ifs : List PySem.Expr} {scope : Scope} {cl : List (Str × Addr)} {pos py : Pos} {y : Str} {L : Addr} {b : List (Str × Value)} {Q : Flow → Shared → Prop} {E : Value → Shared → Prop}
  (X : Src prog w A g d os h₀ it n val sP ok) (RR : Led → Value → β → Prop) (mono : ∀ {N N' : Led} {v : Value} {y : β}, (∀ p ∈ N, p ∈ N') → RR N v y → RR N' v y) (zs : Nat → List β) (z0 : zs 0 = [])
  (hcell : ∀ y ∈ scope.names, y.2 ≠ .cell) (hkind : scope.kind = .function) (hok : ∀ Nx, ok (Nx ++ K)) (hokC : ∀ K p q, ok K → ok (p :: q :: K)) (hn : n ≤ 100000) (S : St h₀ ((it, sP 0) :: K) h)
  (hL : env.locals = L) {K' : Addr → Led} {b' : Addr → List (Str × Value)} (u : ∀ D, Up L (nsP b) (nsP (b' D)) K (K' D)) (p : ∀ D, Pt y (.ref D) b (b' D))
  (turn : ∀ i v ys Nx h t C D, i < n → val i v → St h₀ ((C, nsP []) :: (D, lsP ys) :: (it, sP (i + 1)) :: (Nx ++ K)) h → ∀ E' : Value → Shared → Prop,
   wpAny (model prog w) A (assign target (compEnvC scope cl C env) v) (fun _ s₂ =>
    wpAny (model prog w) A (forIn ifs true fun c r => if r = true then do let ok ← isTrue c (compEnvC scope cl C env) (eval c (compEnvC scope cl C env)); pure (ForInStep.yield ok) else pure (ForInStep.yield r)) (fun ok s₃ =>
      if ok = true then wpAny (model prog w) A (eval elt (compEnvC scope cl C env)) (GE h₀ g d os C D it (sP (i + 1)) Nx K RR (zs i) (zs (i + 1)) ys) E' s₃
      else GN h₀ g d os C D it (sP (i + 1)) Nx K (zs i) (zs (i + 1)) ys s₃) E' s₂) E' ⟨h, g, d, t, os⟩)
  (done : ∀ Nx h t D, St h₀ ((D, lsR (RR Nx) (zs n)) :: (Nx ++ K' D)) h → Q .next ⟨h, g, d, t, os⟩)
  (hy : env.kindOf y = some .local := by rfl) (hp : (env.scope.kind == .class || (env.scope.kind == .module && env.locals != env.globals)) = false := by rfl) :
  wpAny (model prog w) A (newList []) (fun acc s₃ => wpAny (model prog w) A (newFunctionEnv scope env.globals cl [] env.qual none .none (some env)) (fun cenv s₄ =>
   codeAny (model prog w) A (.compStart (.ListComp elt [⟨target, iter, ifs, 0⟩] scope pos) 0 (.ref it) acc { cenv with scope := relabel scope env }) (compPost (model prog w) A E (some (assign (.Name y py) env)) (fun _ s => Q .next s) acc cenv.locals) s₄) E s₃) E ⟨h, g, d, t, os⟩ := by
 refine comp_gr0 X RR mono zs z0 hcell hkind hok hokC hn S turn (fun ys Nx h t C D a S' => ?_) fun e => nomatch e
 exact asg_L S' hL (.tail (.tail (Up.app (u D) Nx))) (p D) (fun h' S₂ => ⟨_, h', _, rfl, S₂, fun h'' S₃ => done Nx h'' _ D (S₃.closeR a)⟩) hy hp
end
end
section
section
variable {prog : Program} {w : World} {A : Around} {E : Value → Shared → Prop} {env : Env} {elt t1 i1 t2 i2 : PySem.Expr} {ifs : List PySem.Expr} {scope : Scope} {pos : Pos} {it acc : Value}
theorem compTurn_two0 : compTurn (.ListComp elt [⟨t1, i1, [], 0⟩, ⟨t2, i2, ifs, 0⟩] scope pos) 0 it acc env = (do
   standAt i1.pos
   match ← pyNext it with
   | none => pure (.done .next)
   | some v =>
    letOwnedTupleGo t1 it v
    assign t1 env v
    let mut ok := true
    for c in ([] : List PySem.Expr) do
     if ok then ok ← isTrue c env (eval c env)
    if ok then
     let x ← eval i2 env
     standAt i2.pos
     let x ← foldedSetIterable i2 env x
     let _ ← runOwn (.compStart (.ListComp elt [⟨t1, i1, [], 0⟩, ⟨t2, i2, ifs, 0⟩] scope pos) 1 (← holding [x] (pyIter x)) acc env) env
    again (.compLoop (.ListComp elt [⟨t1, i1, [], 0⟩, ⟨t2, i2, ifs, 0⟩] scope pos) 0 it acc env)) := by rfl
theorem compTurn_two1 : compTurn (.ListComp elt [⟨t1, i1, [], 0⟩, ⟨t2, i2, ifs, 0⟩] scope pos) 1 it acc env = (do
   standAt i2.pos
   match ← pyNext it with
   | none => pure (.done .next)
   | some v =>
    letOwnedTupleGo t2 it v
    assign t2 env v
    let mut ok := true
    for c in ifs do
     if ok then ok ← isTrue c env (eval c env)
    if ok then
     (do let _ ← call (.builtin "list.append") [acc, ← eval elt env])
    again (.compLoop (.ListComp elt [⟨t1, i1, [], 0⟩, ⟨t2, i2, ifs, 0⟩] scope pos) 1 it acc env)) := by rfl
theorem compLoop_two1 {R : Result → Shared → Prop} {s : Shared} (I : Nat → Shared → Prop)
  (turn : ∀ n s, I n s → wpAny (model prog w) A (pyNext it) (fun r s₁ => match r with
   | none => R (.ok .next) s₁
   | some v => wpAny (model prog w) A (letOwnedTupleGo t2 it v) (fun _ s₁ => wpAny (model prog w) A (assign t2 env v) (fun _ s₂ =>
     wpAny (model prog w) A (forIn ifs true fun c r => if r = true then do let ok ← isTrue c env (eval c env); pure (ForInStep.yield ok) else pure (ForInStep.yield r)) (fun ok s₃ =>
      if ok = true then wpAny (model prog w) A (eval elt env) (fun x s₄ =>
       wpAny (model prog w) A (call (.builtin "list.append") [acc, x]) (fun _ s₅ => ∃ m, m < n ∧ I m s₅) (notedBy (model prog w) A env fun e s' => R (.error e) s') s₄) (notedBy (model prog w) A env fun e s' => R (.error e) s') s₃
      else ∃ m, m < n ∧ I m s₃) (notedBy (model prog w) A env fun e s' => R (.error e) s') s₂) (notedBy (model prog w) A env fun e s' => R (.error e) s') s₁) (notedBy (model prog w) A env fun e s' => R (.error e) s') s₁) (notedBy (model prog w) A env fun e s' => R (.error e) s') s)
  (n : Nat) (h : I n s) :
  codeAny (model prog w) A (.compLoop (.ListComp elt [⟨t1, i1, [], 0⟩, ⟨t2, i2, ifs, 0⟩] scope pos) 1 it acc env) R s := by
 refine codeAny_loop rfl I (fun n s hI => ?_) n h
 show wpAny _ A ((compTurn (.ListComp elt [⟨t1, i1, [], 0⟩, ⟨t2, i2, ifs, 0⟩] scope pos) 1 it acc env).onRaise (fun x => do noteFrame x env; theTreesLotGoes x)) _ _ s
 refine wpAny_noted ?_
 rw [compTurn_two1]
 refine wpAny_bind (wpAny_standAt (wpAny_bind (wpAny_mono (turn n s hI) (fun r s₁ h₁ => ?_) fun _ _ h' => h')))
 cases r with
 | none => exact wpAny_pure h₁
 | some v =>
  refine wpAny_bind (wpAny_mono h₁ (fun _ s₁ h₁ => ?_) fun _ _ h' => h')
  refine wpAny_bind (wpAny_mono h₁ (fun _ s₂ h₂ => wpAny_bind (wpAny_mono h₂ (fun ok s₃ h₃ => ?_) fun _ _ h' => h')) fun _ _ h' => h')
  cases ok with
  | false => exact wpAny_pure ⟨rfl, h₃⟩
  | true =>
   exact wpAny_bind (wpAny_bind (wpAny_mono h₃ (fun x s₄ h₄ => wpAny_bind (wpAny_mono h₄ (fun _ s₅ h₅ => wpAny_pure (wpAny_pure ⟨rfl, h₅⟩)) fun _ _ h' => h')) fun _ _ h' => h'))
theorem compLoop_two0 {R : Result → Shared → Prop} {s : Shared} (I : Nat → Shared → Prop) (hs : ∀ x, foldedSetIterable i2 env x = pure x)
  (turn : ∀ n s, I n s → wpAny (model prog w) A (pyNext it) (fun r s₁ => match r with
   | none => R (.ok .next) s₁
   | some v => wpAny (model prog w) A (letOwnedTupleGo t1 it v) (fun _ s₁ => wpAny (model prog w) A (assign t1 env v) (fun _ s₂ =>
     wpAny (model prog w) A (eval i2 env) (fun x s₃ => wpAny (model prog w) A (pyIter x) (fun it2 s₄ =>
      codeAny (model prog w) A (.compStart (.ListComp elt [⟨t1, i1, [], 0⟩, ⟨t2, i2, ifs, 0⟩] scope pos) 1 it2 acc env) (fun r s' => match r with
       | .ok _ => ∃ m, m < n ∧ I m s'
       | .error e => cameBackBy (model prog w) A env (notedBy (model prog w) A env fun e s' => R (.error e) s') e s') s₄)
      (notedBy (model prog w) A env fun e s' => R (.error e) s') s₃) (notedBy (model prog w) A env fun e s' => R (.error e) s') s₂) (notedBy (model prog w) A env fun e s' => R (.error e) s') s₁) (notedBy (model prog w) A env fun e s' => R (.error e) s') s₁) (notedBy (model prog w) A env fun e s' => R (.error e) s') s)
  (n : Nat) (h : I n s) :
  codeAny (model prog w) A (.compLoop (.ListComp elt [⟨t1, i1, [], 0⟩, ⟨t2, i2, ifs, 0⟩] scope pos) 0 it acc env) R s := by
 refine codeAny_loop rfl I (fun n s hI => ?_) n h
 show wpAny _ A ((compTurn (.ListComp elt [⟨t1, i1, [], 0⟩, ⟨t2, i2, ifs, 0⟩] scope pos) 0 it acc env).onRaise (fun x => do noteFrame x env; theTreesLotGoes x)) _ _ s
 refine wpAny_noted ?_
 rw [compTurn_two0]
 refine wpAny_bind (wpAny_standAt (wpAny_bind (wpAny_mono (turn n s hI) (fun r s₁ h₁ => ?_) fun _ _ h' => h')))
 cases r with
 | none => exact wpAny_pure h₁
 | some v =>
  refine wpAny_bind (wpAny_mono h₁ (fun _ s₁ h₁ => ?_) fun _ _ h' => h')
  refine wpAny_bind (wpAny_mono h₁ (fun _ s₂ h₂ => wpAny_bind (wpAny_tests_nil ?_)) fun _ _ h' => h')
  refine wpAny_bind (wpAny_mono h₂ (fun x s₃ h₃ => wpAny_bind (wpAny_standAt (wpAny_bind (wpAny_of_eq (hs x) ?_)))) fun _ _ h' => h')
  refine wpAny_bind (wpAny_holding (wpAny_mono h₃ (fun it2 s₄ h₄ => ?_) fun _ _ h' => h'))
  refine wpAny_bind (wpAny_runOwn (h := none) ?_)
  rw [Around.mark_none]
  refine codeAny_mono h₄ fun r s₅ h₅ => ?_
  cases r with
  | ok f => exact wpAny_pure ⟨rfl, h₅⟩
  | error e => exact h₅
theorem compStart_two1 {R : Result → Shared → Prop} {s : Shared}
  (h0 : codeAny (model prog w) A (.compLoop (.ListComp elt [⟨t1, i1, [], 0⟩, ⟨t2, i2, ifs, 0⟩] scope pos) 1 it acc env) R s)
  (h : wpAny (model prog w) A (pyIter it) (fun it' s' => codeAny (model prog w) A (.compLoop (.ListComp elt [⟨t1, i1, [], 0⟩, ⟨t2, i2, ifs, 0⟩] scope pos) 1 it' acc env) R s')
   (notedBy (model prog w) A env fun x s' => R (.error x) s') s) :
  codeAny (model prog w) A (.compStart (.ListComp elt [⟨t1, i1, [], 0⟩, ⟨t2, i2, ifs, 0⟩] scope pos) 1 it acc env) R s := by
 refine codeAny_of_tree ?_
 show wpAny _ A ((compStart (.ListComp elt [⟨t1, i1, [], 0⟩, ⟨t2, i2, ifs, 0⟩] scope pos) 1 it acc env).onRaise (fun x => do noteFrame x env; standAt theWindowsPlace)) _ _ s
 refine wpAny_notedAt ?_
 unfold compStart
 show wpAny _ A (ask >>= _) _ _ s
 refine wpAny_bind (wpAny_askSetting (wpAny_ite ?_))
 split
 ·first
   | exact wpAny_bind (wpAny_pure (wpAny_pure (And.intro rfl h0)))
   | exact wpAny_pure (And.intro rfl h0)
 ·first
   | exact wpAny_bind (wpAny_rule (wpAny_bind (wpAny_standAt (wpAny_bind (wpAny_mono h (fun it' s' h' => wpAny_pure (And.intro rfl h')) fun _ _ x => x)))))
   | (refine wpAny_bind (wpAny_rule ?_); show wpAny _ _ (standAt i2.pos >>= _) _ _ s; exact wpAny_bind (wpAny_standAt (wpAny_bind (wpAny_mono h (fun it' s' h' => wpAny_pure (And.intro rfl h')) fun _ _ x => x))))
theorem e_comp2 {cl : List (Str × Addr)} {Q : Value → Shared → Prop} {s : Shared}
  (hclos : closureFor scope env = pure cl) (hkind : scope.kind = .function) (hnames : ∀ x ∈ scope.names, x.2 = .local → scope.names.lookup x.1 = some .local)
  (hh : wpAny (model prog w) A (eval i1 env) (fun x s₁ => wpAny (model prog w) A (pyIter x) (fun it s₂ => wpAny (model prog w) A (newList []) (fun acc s₃ =>
   wpAny (model prog w) A (newFunctionEnv scope env.globals cl [] env.qual none .none (some env)) (fun cenv s₄ =>
    codeAny (model prog w) A (.compStart (.ListComp elt [⟨t1, i1, [], 0⟩, ⟨t2, i2, ifs, 0⟩] scope pos) 0 it acc { cenv with scope := relabel scope env }) (compPost (model prog w) A E none Q acc cenv.locals) s₄) E s₃) E s₂) E s₁) E s)
  (hs : ∀ x, foldedSetIterable i1 env x = pure x := by intro _; rfl) :
  wpAny (model prog w) A (eval (.ListComp elt [⟨t1, i1, [], 0⟩, ⟨t2, i2, ifs, 0⟩] scope pos) env) Q E s := by
 rw [eval_ListComp]
 exact wpAny_comprehension_free (use := none) rfl hs hclos hkind hnames hh
end
end
section
section
variable {prog : Program} {w : World} {A : Around} {env : Env} {h₀ h : Heap} {g : Array GenState} {d : Drawn} {t : Nat} {os : OsState} {K : Led} {it it2 C D : Addr} {n : Nat} {val : Nat → Value → Prop} {sP : Nat → Pr} {ok : Led → Prop} {β : Type}
 {elt t1 i1 t2 i2 : PySem.Expr} {ifs : List PySem.Expr} {scope : Scope} {cl : List (Str × Addr)} {pos : Pos}
theorem Sr3 {P Q R : Addr × Pr} (S : St h₀ (P :: Q :: R :: K) h) : St h₀ (R :: P :: Q :: K) h := S.perm (((List.Perm.swap _ _ _).trans (List.Perm.cons _ (List.Perm.swap _ _ _))))
theorem Sl3 {P Q R : Addr × Pr} (S : St h₀ (R :: P :: Q :: K) h) : St h₀ (P :: Q :: R :: K) h := S.perm (((List.Perm.cons _ (List.Perm.swap _ _ _)).trans (List.Perm.swap _ _ _)))
theorem in_src {R : Result → Shared → Prop} {b0 : List (Str × Value)} {ys0 : List Value} (X : Src prog w A g d os h₀ it2 n val sP ok) (I : Nat → List Value → Led → Prop) (S : St h₀ ((C, nsP b0) :: (D, lsP ys0) :: (it2, sP 0) :: K) h) (i0 : I 0 ys0 K) (hok : ∀ i ys K, I i ys K → ok K)
  (hokC : ∀ K p q, ok K → ok (p :: q :: K)) (hsz : ∀ i ys K, I i ys K → ys.length ≤ sizeLine)
  (turn : ∀ i v ys K h t, i < n → val i v → I i ys K → St h₀ ((C, nsP []) :: (D, lsP ys) :: (it2, sP (i + 1)) :: K) h → ∀ E' : Value → Shared → Prop,
   wpAny (model prog w) A (assign t2 (compEnvC scope cl C env) v) (fun _ s₂ =>
    wpAny (model prog w) A (forIn ifs true fun c r => if r = true then do let ok ← isTrue c (compEnvC scope cl C env) (eval c (compEnvC scope cl C env)); pure (ForInStep.yield ok) else pure (ForInStep.yield r)) (fun ok s₃ =>
      if ok = true then wpAny (model prog w) A (eval elt (compEnvC scope cl C env)) (CE I h₀ g d os C D it2 (sP (i + 1)) (i + 1) ys) E' s₃
      else CN I h₀ g d os C D it2 (sP (i + 1)) (i + 1) ys s₃) E' s₂) E' ⟨h, g, d, t, os⟩)
  (done : ∀ ys K h t, I n ys K → St h₀ ((C, nsP []) :: (D, lsP ys) :: K) h → R (.ok .next) ⟨h, g, d, t, os⟩) :
  codeAny (model prog w) A (.compStart (.ListComp elt [⟨t1, i1, [], 0⟩, ⟨t2, i2, ifs, 0⟩] scope pos) 1 (.ref it2) (.ref D) (compEnvC scope cl C env)) R ⟨h, g, d, t, os⟩ := by
 have loop : codeAny (model prog w) A (.compLoop (.ListComp elt [⟨t1, i1, [], 0⟩, ⟨t2, i2, ifs, 0⟩] scope pos) 1 (.ref it2) (.ref D) (compEnvC scope cl C env)) R ⟨h, g, d, t, os⟩ := by
  refine compLoop_two1 (fun k s' => ∃ i ys K b h' t, s' = ⟨h', g, d, t, os⟩ ∧ I i ys K ∧ St h₀ ((C, nsP b) :: (D, lsP ys) :: (it2, sP i) :: K) h' ∧ i ≤ n ∧ k = n + 1 - i) ?_ (n + 1) ⟨0, ys0, K, b0, _, _, rfl, i0, S, Nat.zero_le _, rfl⟩
  intro k s' zr; (revert zr; intro zh; refine xEEEEEEAAAA zh fun i ys K' b h' t' zq6 hI S' hi zq10 => ?_; clear zh; subst zq6; subst zq10)
  by_cases hlt : i < n
  ·refine X.item hlt (hokC _ _ _ (hok _ _ _ hI)) (Sr3 S') fun v h₁ t₁ hv S₁ => ?_
   refine X.own S₁ ?_
   have S₁' := (Sl3 S₁).weak (Up.head (P' := nsP [])) nsP_nil
   refine wpAny_mono (turn i v ys K' h₁ t₁ hlt hv hI S₁' _) (fun _ s₂ h₂ => wpAny_mono h₂ (fun ok s₃ h₃ => ?_) fun _ _ e => e) fun _ _ e => e
   cases ok with
   | false =>
    (revert h₃; intro zh; refine xEEEEAA zh fun K₃ h₄ t₄ b₄ zq4 hI₃ S₃ => ?_; clear zh; subst zq4)
    exact ⟨n + 1 - (i + 1), by lia, i + 1, ys, K₃, b₄, h₄, t₄, rfl, hI₃, S₃, hlt, rfl⟩
   | true =>
    refine wpAny_mono h₃ (fun y s₄ h₄ => ?_) fun _ _ e => e
    (revert h₄; intro zh; refine xEEEEAA zh fun K₃ h₄ t₄ b₄ zq4 hI₃ S₃ => ?_; clear zh; subst zq4)
    refine ls_append S₃ (.tail .head) (fun h₅ S₅ => ?_) (hsz i ys K' hI)
    exact ⟨n + 1 - (i + 1), by lia, i + 1, ys ++ [y], K₃, b₄, h₅, t₄, rfl, hI₃, S₅, hlt, rfl⟩
  ·have hin : i = n := by lia
   subst hin
   refine X.stop (hokC _ _ _ (hok _ _ _ hI)) (Sr3 S') fun h₁ t₁ S₁ => ?_
   exact done ys K' h₁ t₁ hI (S₁.weak (Up.head (P' := nsP [])) nsP_nil)
 exact compStart_two1 loop (X.self (Sr3 S) loop)
noncomputable def OutP (A : Around) (prog : Program) (w : World) (I : Nat → List Value → Led → Prop) (h₀ : Heap) (g : Array GenState) (d : Drawn) (os : OsState) (env : Env) (E' : Value → Shared → Prop) (C D it : Addr) (P : Pr) (i : Nat) (r : Result) (s : Shared) : Prop :=
 match r with
 | .ok _ => ∃ K h t b ys, s = ⟨h, g, d, t, os⟩ ∧ I i ys K ∧ St h₀ ((C, nsP b) :: (D, lsP ys) :: (it, P) :: K) h
 | .error e => cameBackBy (model prog w) A env E' e s
theorem comp2_src {Q : Value → Shared → Prop} {E : Value → Shared → Prop}
  (hcell : ∀ y ∈ scope.names, y.2 ≠ .cell) (hkind : scope.kind = .function) (hs : ∀ C x, foldedSetIterable i2 (compEnvC scope cl C env) x = pure x)
  (X : Src prog w A g d os h₀ it n val sP ok) (I : Nat → List Value → Led → Prop) (S : St h₀ ((it, sP 0) :: K) h) (i0 : I 0 [] K) (hok : ∀ i ys K, I i ys K → ok K) (hokC : ∀ K p q, ok K → ok (p :: q :: K))
  (turn : ∀ i v ys K h t C D, i < n → val i v → I i ys K → St h₀ ((C, nsP []) :: (D, lsP ys) :: (it, sP (i + 1)) :: K) h → ∀ E' : Value → Shared → Prop,
   wpAny (model prog w) A (assign t1 (compEnvC scope cl C env) v) (fun _ s₂ => wpAny (model prog w) A (eval i2 (compEnvC scope cl C env)) (fun x s₃ => wpAny (model prog w) A (pyIter x) (fun it2 s₄ =>
    codeAny (model prog w) A (.compStart (.ListComp elt [⟨t1, i1, [], 0⟩, ⟨t2, i2, ifs, 0⟩] scope pos) 1 it2 (.ref D) (compEnvC scope cl C env)) (OutP A prog w I h₀ g d os (compEnvC scope cl C env) E' C D it (sP (i + 1)) (i + 1)) s₄) E' s₃) E' s₂) E' ⟨h, g, d, t, os⟩)
  (done : ∀ ys K h t D, I n ys K → St h₀ ((D, lsP ys) :: K) h → Q (.ref D) ⟨h, g, d, t, os⟩) :
  wpAny (model prog w) A (newList []) (fun acc s₃ => wpAny (model prog w) A (newFunctionEnv scope env.globals cl [] env.qual none .none (some env)) (fun cenv s₄ =>
   codeAny (model prog w) A (.compStart (.ListComp elt [⟨t1, i1, [], 0⟩, ⟨t2, i2, ifs, 0⟩] scope pos) 0 (.ref it) acc { cenv with scope := relabel scope env }) (compPost (model prog w) A E none Q acc cenv.locals) s₄) E s₃) E ⟨h, g, d, t, os⟩ := by
 refine n_list S fun D h₁ S₁ => wpAny_newFunctionEnv hcell (by intro y hy; simp at hy) (fun h₂ hns₂ hsb₂ => ?_) hkind
 dsimp only at hns₂ hsb₂ ⊢
 have S₂ : St h₀ ((h₁.objs.size, nsP []) :: (D, lsP []) :: (it, sP 0) :: K) h₂ := by
  have ext : ∀ b o, h₁.get? b = some o → h₂.get? b = some o := fun b o e => hsb₂.extBut b o (Nat.ne_of_lt (Heap.lt_size e)) (Heap.get?_push_of_some _ e)
  refine xEA (nsP_of hns₂ (b := []) (fun _ hp => nomatch hp) List.nodup_nil) fun o e x => ?_
  exact (S₁.ext ext).add e x (S₁.none_of_lt (Nat.le_refl _)) fun p hp q => Nat.lt_irrefl _ (by have := S₁.lt (a := p.1) (P := p.2) hp; rw [q] at this; exact this)
 generalize h₁.objs.size = C at *
 show codeAny _ _ (.compStart _ 0 (.ref it) (.ref D) (compEnvC scope cl C env)) (compPost (model prog w) A E none Q (.ref D) C) _
 have loop : codeAny (model prog w) A (.compLoop (.ListComp elt [⟨t1, i1, [], 0⟩, ⟨t2, i2, ifs, 0⟩] scope pos) 0 (.ref it) (.ref D) (compEnvC scope cl C env)) (compPost (model prog w) A E none Q (.ref D) C) ⟨h₂, g, d, t + ([] : List (Str × Value)).length, os⟩ := by
  refine compLoop_two0 (fun k s' => ∃ i ys K b h' t, s' = ⟨h', g, d, t, os⟩ ∧ I i ys K ∧ St h₀ ((C, nsP b) :: (D, lsP ys) :: (it, sP i) :: K) h' ∧ i ≤ n ∧ k = n + 1 - i) (hs C) ?_ (n + 1) ⟨0, [], K, [], _, _, rfl, i0, S₂, Nat.zero_le _, rfl⟩
  intro k s' zr; (revert zr; intro zh; refine xEEEEEEAAAA zh fun i ys K' b h' t' zq6 hI S' hi zq10 => ?_; clear zh; subst zq6; subst zq10)
  by_cases hlt : i < n
  ·refine X.item hlt (hokC _ _ _ (hok _ _ _ hI)) (Sr3 S') fun v h₁ t₁ hv S₁ => ?_
   refine X.own S₁ ?_
   have S₁' := (Sl3 S₁).weak (Up.head (P' := nsP [])) nsP_nil
   refine wpAny_mono (turn i v ys K' h₁ t₁ C D hlt hv hI S₁' _) (fun _ s₂ h₂ => wpAny_mono h₂ (fun x s₃ h₃ => wpAny_mono h₃ (fun it2 s₄ h₄ => codeAny_mono h₄ fun r s₅ h₅ => ?_) fun _ _ e => e) fun _ _ e => e) fun _ _ e => e
   cases r with
   | ok f =>
    obtain ⟨K₃, h₄, t₄, b₄, ys₄, rfl, hI₃, S₃⟩ := h₅
    exact ⟨n + 1 - (i + 1), by lia, i + 1, ys₄, K₃, b₄, h₄, t₄, rfl, hI₃, S₃, hlt, rfl⟩
   | error e => exact h₅
  ·have hin : i = n := by lia
   subst hin
   refine X.stop (hokC _ _ _ (hok _ _ _ hI)) (Sr3 S') fun h₁ t₁ S₁ => ?_
   have S₁' := S₁.weak (Up.head (P' := nsP [])) nsP_nil
   refine xEAA (S₁'.ns (List.Mem.head _)) fun f hn zu2 zu3 => ?_
   refine ⟨f, hn, fun h'' hs => done ys K' h'' t₁ D hI ?_⟩
   have nC : ∀ p ∈ (D, lsP ys) :: K', p.1 ≠ C := fun p hp q => by
    have nd := S₁'.nd
    rw [List.map_cons, List.nodup_cons] at nd
    exact nd.1 (by (refine (q) ▸ ?_); exact List.mem_map.mpr ⟨p, hp, rfl⟩)
   have S3 := S₁'.dropHead
   refine ⟨fun b o e => hs.extBut b o (fun q => ?_) (S3.keep b o e), fun p hp => ?_, S3.new, S3.nd⟩
   ·have := S₁'.new _ (List.Mem.head _); rw [← q, e] at this; cases this
   ·refine xEA (S3.ent p hp) fun o e x => ?_
    exact ⟨o, hs.extBut _ _ (nC p hp) e, x⟩
 exact codeAny_compStart_list loop (X.self (Sr3 S₂) loop)
end
end
section
section
variable {prog : Program} {w : World} {A : Around} {env : Env} {h₀ h : Heap} {g : Array GenState} {d : Drawn} {t : Nat} {os : OsState} {K : Led} {it : Addr} {n : Nat} {val : Nat → Value → Prop} {sP : Nat → Pr} {ok : Led → Prop} {Kt : Type} [DecidableEq Kt] {knd : KeyKind prog w Kt}
 {kx vx target iter : PySem.Expr} {scope : Scope} {cl : List (Str × Addr)} {pos : Pos}
theorem e_compD {ifs : List PySem.Expr} {Q : Value → Shared → Prop} {E : Value → Shared → Prop} {s : Shared}
  (hclos : closureFor scope env = pure cl) (hkind : scope.kind = .function) (hnames : ∀ x ∈ scope.names, x.2 = .local → scope.names.lookup x.1 = some .local)
  (hh : wpAny (model prog w) A (eval iter env) (fun x s₁ => wpAny (model prog w) A (pyIter x) (fun it s₂ => wpAny (model prog w) A newDict (fun acc s₃ =>
   wpAny (model prog w) A (newFunctionEnv scope env.globals cl [] env.qual none .none (some env)) (fun cenv s₄ =>
    codeAny (model prog w) A (.compStart (.DictComp kx vx [⟨target, iter, ifs, 0⟩] scope pos) 0 it acc { cenv with scope := relabel scope env }) (compPost (model prog w) A E none Q acc cenv.locals) s₄) E s₃) E s₂) E s₁) E s)
  (hs : ∀ x, foldedSetIterable iter env x = pure x := by intro _; rfl) :
  wpAny (model prog w) A (eval (.DictComp kx vx [⟨target, iter, ifs, 0⟩] scope pos) env) Q E s := by
 rw [arm_eval_DictComp]
 exact wpAny_comprehension_free (use := none) rfl hs hclos hkind hnames hh
theorem compD_src {Q : Value → Shared → Prop} {E : Value → Shared → Prop}
  (hcell : ∀ y ∈ scope.names, y.2 ≠ .cell) (hkind : scope.kind = .function) (ht : ∀ it v, letOwnedTupleGo target it v = pure ())
  (X : Src prog w A g d os h₀ it n val sP ok) (zs : Nat → List (Kt × Value)) (z0 : zs 0 = []) (hsz : ∀ i, i ≤ n → (zs i).length ≤ sizeLine) (S : St h₀ ((it, sP 0) :: K) h) (hok : ok K) (hokC : ∀ K p q, ok K → ok (p :: q :: K))
  (turn : ∀ i v h t C D, i < n → val i v → St h₀ ((C, nsP []) :: (D, dP knd (.type "dict") none #[] (zs i)) :: (it, sP (i + 1)) :: K) h → ∀ E' : Value → Shared → Prop,
   wpAny (model prog w) A (assign target (compEnvC scope cl C env) v) (fun _ s₂ => wpAny (model prog w) A (eval kx (compEnvC scope cl C env)) (fun kv s₃ => wpAny (model prog w) A (eval vx (compEnvC scope cl C env)) (fun vv s₄ =>
    ∃ h t b k, s₄ = ⟨h, g, d, t, os⟩ ∧ knd.is k kv = true ∧ stored (zs i) k vv = zs (i + 1) ∧ St h₀ ((C, nsP b) :: (D, dP knd (.type "dict") none #[] (zs i)) :: (it, sP (i + 1)) :: K) h) E' s₃) E' s₂) E' ⟨h, g, d, t, os⟩)
  (done : ∀ h t D, (∀ a o, h₀.get? a = some o → a < D) → St h₀ ((D, dP knd (.type "dict") none #[] (zs n)) :: K) h → Q (.ref D) ⟨h, g, d, t, os⟩) :
  wpAny (model prog w) A newDict (fun acc s₃ => wpAny (model prog w) A (newFunctionEnv scope env.globals cl [] env.qual none .none (some env)) (fun cenv s₄ =>
   codeAny (model prog w) A (.compStart (.DictComp kx vx [⟨target, iter, [], 0⟩] scope pos) 0 (.ref it) acc { cenv with scope := relabel scope env }) (compPost (model prog w) A E none Q acc cenv.locals) s₄) E s₃) E ⟨h, g, d, t, os⟩ := by
 have hD : ∀ a o, h₀.get? a = some o → a < h.objs.size := fun a o e => Heap.lt_size (S.keep a o e)
 have S₁ := S.push (P := dP knd (.type "dict") none #[] (zs 0)) (o := { cls := .type "dict", data := .dict #[] }) (by rw [z0]; exact ⟨rfl, rfl, rfl, #[], 0, rfl, fun _ he => by simp at he, Pairs.nil, List.nodup_nil⟩) rfl
 refine wpAny_newObj_type (wpAny_newFunctionEnv hcell (by intro y hy; simp at hy) (fun h₂ hns₂ hsb₂ => ?_) hkind)
 dsimp only at hns₂ hsb₂ ⊢
 generalize h.objs.size = D at *
 generalize hh1 : h.push { cls := .type "dict", data := .dict #[] } = h₁ at *
 have S₂ : St h₀ ((h₁.objs.size, nsP []) :: (D, dP knd (.type "dict") none #[] (zs 0)) :: (it, sP 0) :: K) h₂ := by
  have ext : ∀ b o, h₁.get? b = some o → h₂.get? b = some o := fun b o e => hsb₂.extBut b o (Nat.ne_of_lt (Heap.lt_size e)) (Heap.get?_push_of_some _ e)
  refine xEA (nsP_of hns₂ (b := []) (fun _ hp => nomatch hp) List.nodup_nil) fun o e x => ?_
  exact (S₁.ext ext).add e x (S₁.none_of_lt (Nat.le_refl _)) fun p hp q => Nat.lt_irrefl _ (by have := S₁.lt (a := p.1) (P := p.2) hp; rw [q] at this; exact this)
 generalize h₁.objs.size = C at *
 show codeAny _ _ (.compStart _ 0 (.ref it) (.ref D) (compEnvC scope cl C env)) (compPost (model prog w) A E none Q (.ref D) C) _
 have loop : codeAny (model prog w) A (.compLoop (.DictComp kx vx [⟨target, iter, [], 0⟩] scope pos) 0 (.ref it) (.ref D) (compEnvC scope cl C env)) (compPost (model prog w) A E none Q (.ref D) C) ⟨h₂, g, d, t + ([] : List (Str × Value)).length, os⟩ := by
  refine codeAny_compLoop_testsD (ht := ht _) (fun k s' => ∃ i b h' t, s' = ⟨h', g, d, t, os⟩ ∧ St h₀ ((C, nsP b) :: (D, dP knd (.type "dict") none #[] (zs i)) :: (it, sP i) :: K) h' ∧ i ≤ n ∧ k = n + 1 - i) ?_ (n + 1) ⟨0, [], _, _, rfl, S₂, Nat.zero_le _, rfl⟩
  intro k s' zr; (revert zr; intro zh; refine xEEEEAAA zh fun i b h' t' zq4 S' hi zq7 => ?_; clear zh; subst zq4; subst zq7)
  by_cases hlt : i < n
  ·refine X.item hlt (hokC _ _ _ hok) (Sr3 S') fun v h₁ t₁ hv S₁ => ?_
   have S₁' := (Sl3 S₁).weak (Up.head (P' := nsP [])) nsP_nil
   refine wpAny_mono (turn i v h₁ t₁ C D hlt hv S₁' _) (fun _ s₂ h₂ => wpAny_tests_nil ?_) fun _ _ e => e
   rw [if_pos rfl]
   refine wpAny_mono h₂ (fun kv s₃ h₃ => wpAny_mono h₃ (fun vv s₄ h₄ => ?_) fun _ _ e => e) fun _ _ e => e
   (revert h₄; intro zh; refine xEEEEAAA zh fun h₅ t₅ b₅ k zq4 hk hz S₅ => ?_; clear zh; subst zq4)
   refine wpAny_dictSet_pairs (hsz := hsz i hi) hk (S₅.isDict (.tail _ (.head _))) fun h₆ hd₆ hs₆ => ?_
   have S₆ := S₅.dictUp (.tail .head) hd₆ hs₆.extBut
   rw [hz] at S₆
   exact ⟨n + 1 - (i + 1), by lia, i + 1, b₅, h₆, _, rfl, S₆, hlt, rfl⟩
  ·have hin : i = n := by lia
   subst hin
   refine X.stop (hokC _ _ _ hok) (Sr3 S') fun h₁ t₁ S₁ => ?_
   have S₁' := S₁.weak (Up.head (P' := nsP [])) nsP_nil
   refine xEAA (S₁'.ns (List.Mem.head _)) fun f hn zu2 zu3 => ?_
   refine ⟨f, hn, fun h'' hs => done h'' t₁ D hD ?_⟩
   have nC : ∀ p ∈ (D, dP knd (.type "dict") none #[] (zs i)) :: K, p.1 ≠ C := fun p hp q => by
    have nd := S₁'.nd
    rw [List.map_cons, List.nodup_cons] at nd
    exact nd.1 (by (refine (q) ▸ ?_); exact List.mem_map.mpr ⟨p, hp, rfl⟩)
   have S3 := S₁'.dropHead
   refine ⟨fun b o e => hs.extBut b o (fun q => ?_) (S3.keep b o e), fun p hp => ?_, S3.new, S3.nd⟩
   ·have := S₁'.new _ (List.Mem.head _); rw [← q, e] at this; cases this
   ·refine xEA (S3.ent p hp) fun o e x => ?_
    exact ⟨o, hs.extBut _ _ (nC p hp) e, x⟩
 exact codeAny_compStart_dict loop (X.self (Sr3 S₂) loop)
end
end
section
noncomputable def abcz : Str := "ABCDEZ"
noncomputable def letter (k : Nat) : Str := Txt.item abc (k : Int)
noncomputable def rowR (N : Led) (v : Value) (ws : List Str) : Prop := ∃ a, v = .ref a ∧ (a, lsR isS ws) ∈ N
theorem rowR.mono {N N' : Led} (m : ∀ p ∈ N, p ∈ N') {v : Value} {ws : List Str} (x : rowR N v ws) : rowR N' v ws := by (revert x; intro zh; refine xEA zh fun a e h => ?_; clear zh); exact ⟨a, e, m _ h⟩
noncomputable def namesOf (Ws : List (List Str)) (n : Nat) : List Str := (List.range n).flatMap fun k => (letter k :: Ws.getD k []).filter (inS abcz)
theorem namesOf_succ (Ws : List (List Str)) (n : Nat) : namesOf Ws (n + 1) = namesOf Ws n ++ (letter n :: Ws.getD n []).filter (inS abcz) := by
 unfold namesOf
 (refine (Eq.symm (List.range_succ)) ▸ ?_; refine (Eq.symm (List.flatMap_append)) ▸ ?_; try with_reducible rfl)
 simp
theorem namesOf_le (Ws : List (List Str)) (hw : ∀ ws ∈ Ws, ws.length ≤ 100) (n : Nat) : (namesOf Ws n).length ≤ 101 * n := by
 induction n with
 | zero => simp [namesOf]
 | succ n ih =>
  rw [namesOf_succ, List.length_append]
  have h1 := List.length_filter_le (inS abcz) (letter n :: Ws.getD n [])
  have h2 : (Ws.getD n []).length ≤ 100 := by
   rw [List.getD_eq_getElem?_getD]
   cases e : Ws[n]? with
   | none => simp
   | some ws => exact hw ws (List.mem_of_getElem? e)
  rw [List.length_cons] at h1
  lia
theorem filter_take_succ {α : Type} {p : α → Bool} {xs : List α} {j : Nat} {y : α} (h : xs[j]? = some y) : (xs.take (j + 1)).filter p = (xs.take j).filter p ++ (if p y then [y] else []) := by
 (refine (Eq.symm (List.take_add_one)) ▸ ?_; refine (Eq.symm (h)) ▸ ?_; rewrite [List.filter_append]; try with_reducible rfl)
 congr 1
 show List.filter p [y] = _
 rw [List.filter_cons]
 rfl
noncomputable def seenT (ns : List Str) (n : Nat) : List Str := (List.range n).filterMap fun j => match ns[j]? with | some y => if (ns.take j).any (fun n => n == y) then none else some y | none => none
theorem seenT_succ {ns : List Str} {j : Nat} {y : Str} (h : ns[j]? = some y) : seenT ns (j + 1) = seenT ns j ++ (if (ns.take j).any (fun n => n == y) then [] else [y]) := by
 unfold seenT
 (refine (Eq.symm (List.range_succ)) ▸ ?_; refine (Eq.symm (List.filterMap_append)) ▸ ?_; try with_reducible rfl)
 congr 1
 simp only [List.filterMap_cons, List.filterMap_nil, h]
 by_cases e : (ns.take j).any (fun n => n == y) = true
 ·(refine (Eq.symm (if_pos e)) ▸ ?_; refine (Eq.symm (if_pos e)) ▸ ?_; try with_reducible rfl)
 ·(refine (Eq.symm (if_neg e)) ▸ ?_; refine (Eq.symm (if_neg e)) ▸ ?_; try with_reducible rfl)
theorem seenT_le (ns : List Str) (n : Nat) : (seenT ns n).length ≤ n := by
 unfold seenT
 exact Nat.le_trans (List.length_filterMap_le _ _) (by simp)
noncomputable def seenF (Ws : List (List Str)) : List Str := seenT (namesOf Ws 5) (namesOf Ws 5).length
noncomputable def idx (l : List Str) (x : Str) : Option Nat := l.findIdx? fun s => decide (s = x)
noncomputable def dueNum (seen signs : List Str) (x : Str) : Int := match idx seen x with | some j => 256 + (j : Nat) | none => match idx signs x with | some j => 7 + (j : Nat) | none => 0
theorem idx_any {l : List Str} {x : Str} : (l.any fun n => n == x) = (idx l x).isSome := by
 unfold idx
 rw [List.findIdx?_isSome]
 rfl
theorem all2_map {α β γ : Type _} {R : β → γ → Prop} {f : α → β} {g : α → γ} : ∀ {l : List α}, (∀ k ∈ l, R (f k) (g k)) → All2 R (l.map f) (l.map g)
 | [], _ => .nil
 | k :: l, h => .cons (h k (.head _)) (all2_map fun k hk => h k (.tail _ hk))
noncomputable def intR (N : Led) (v : Value) (y : List Int) : Prop := ∃ a, v = .ref a ∧ (a, lsR isI y) ∈ N
theorem intR.mono {N N' : Led} (m : ∀ p ∈ N, p ∈ N') {v : Value} {y : List Int} (x : intR N v y) : intR N' v y := by (revert x; intro zh; refine xEA zh fun a e h => ?_; clear zh); exact ⟨a, e, m _ h⟩
section
variable {prog : Program} {w : World} {A : Around} {env : Env} {h₀ h : Heap} {g : Array GenState} {d : Drawn} {t : Nat} {os : OsState} {K : Led} {it : Addr} {n : Nat} {val : Nat → Value → Prop} {sP : Nat → Pr} {ok : Led → Prop}
theorem Sl3' {a b c e : Addr × Pr} (S : St h₀ (a :: b :: c :: e :: K) h) : St h₀ (b :: c :: e :: a :: K) h :=
 S.perm ((List.Perm.swap _ _ _).trans (((List.Perm.swap _ _ _).cons _).trans (((List.Perm.swap _ _ _).cons _).cons _))).symm
theorem comp_src1 {elt target iter : PySem.Expr} {ifs : List PySem.Expr} {scope : Scope} {cl : List (Str × Addr)} {pos : Pos} {Q : Value → Shared → Prop} {E : Value → Shared → Prop}
  (hcell : ∀ y ∈ scope.names, y.2 ≠ .cell) (hkind : scope.kind = .function)
  (X : Src prog w A g d os h₀ it n val sP ok) (I : Nat → List Value → Led → Prop) (S : St h₀ ((it, sP 0) :: K) h) (i0 : I 0 [] K) (hok : ∀ i ys K, I i ys K → ok K)
  (hokC : ∀ K p q, ok K → ok (p :: q :: K)) (hsz : ∀ i ys K, I i ys K → ys.length ≤ sizeLine)
  (turn : ∀ i v ys K h t C D, i < n → val i v → I i ys K → St h₀ ((C, nsP []) :: (D, lsP ys) :: (it, sP (i + 1)) :: K) h → ∀ E' : Value → Shared → Prop,
   wpAny (model prog w) A (assign target (compEnvC scope cl C env) v) (fun _ s₂ =>
    wpAny (model prog w) A (forIn ifs true fun c r => if r = true then do let ok ← isTrue c (compEnvC scope cl C env) (eval c (compEnvC scope cl C env)); pure (ForInStep.yield ok) else pure (ForInStep.yield r)) (fun ok s₃ =>
      if ok = true then wpAny (model prog w) A (eval elt (compEnvC scope cl C env)) (CE I h₀ g d os C D it (sP (i + 1)) (i + 1) ys) E' s₃
      else CN I h₀ g d os C D it (sP (i + 1)) (i + 1) ys s₃) E' s₂) E' ⟨h, g, d, t, os⟩)
  (done : ∀ ys K h t D, I n ys K → St h₀ ((D, lsP ys) :: K) h → Q (.ref D) ⟨h, g, d, t, os⟩) :
  wpAny (model prog w) A (newList []) (fun acc s₃ => wpAny (model prog w) A (newFunctionEnv scope env.globals cl [] env.qual none .none (some env)) (fun cenv s₄ =>
   codeAny (model prog w) A (.compStart (.ListComp elt [⟨target, iter, ifs, 0⟩] scope pos) 0 (.ref it) acc { cenv with scope := relabel scope env }) (compPost (model prog w) A E none Q acc cenv.locals) s₄) E s₃) E ⟨h, g, d, t, os⟩ :=
 comp_src hcell hkind X I S i0 hok hokC hsz turn (fun ys K h t C D hI S => done ys K h t D hI S.dropHead) fun _ ys K h t D hI S => done ys K h t D hI S
end
section
variable {w : World} {A : Around} {E : Value → Shared → Prop} {h₀ h : Heap} {g : Array GenState} {d : Drawn} {t : Nat} {os : OsState} {mg mb : Str → Option Value} {K : Led}
theorem due_call {Nr : Led} {R : Result → Shared → Prop} {rs sg : Addr} {Ws : List (List Str)} {signs : List Str} (C : Cx w mg mb h₀) (S : St h₀ K h) (hdep : A.depth < recursionLimit) (hh : A.handled = none)
  (hNr : ∀ p ∈ Nr, p ∈ K) (mrs : (rs, lsR (rowR Nr) Ws) ∈ K) (hWs : Ws.length = 5) (hw : ∀ ws ∈ Ws, ws.length ≤ 100) (msg : (sg, lsR isS signs) ∈ K) (hsg : signs.length ≤ 100)
  (hin : ∀ ws ∈ Ws, ∀ x ∈ ws, idx (seenF Ws) x = none → (idx signs x).isSome = true) {jk : Nat → Nat} (hjk : ∀ k, k < 5 → idx (seenF Ws) (letter k) = some (jk k))
  (q : ∀ tp sn dc kvs N2 h t, 108 < dc → (sn, lsR isS (seenF Ws)) ∈ N2 → rulesK kvs N2 ((List.range 5).map fun k => (256 + (jk k : Int), (Ws.getD k []).map (dueNum (seenF Ws) signs))) →
   St h₀ ((tp, tpP [.ref sn, .ref dc]) :: (dc, dP (intKind PP w) (.type "dict") none #[] kvs) :: (N2 ++ K)) h → R (.ok (.ret (.ref tp))) ⟨h, g, d, t, os⟩) :
  codeAny (model PP w) A (.call (.ref 233) ⟨[.ref rs, .ref sg], []⟩) R ⟨h, g, d, t, os⟩ := by
 refine' call_C (binds := [("rows", .ref rs), ("signs", .ref sg)]) (bl := []) C S ?hroom ?ho ?hcd (fun t => BindsTo.of_eq ?hbind) ?hkind ?hnd0 ?hbl ?hnd ?h1 ?h2 ?h3 ?k
 case ho => k_is
 case hcd => k_is
 case hbind => exact rfl
 case hroom => assumption
 case hkind =>
  intro n y hy
  rcases List.mem_cons.mp hy with rfl | hy
  ·exact .inr ⟨rfl, rfl⟩
  ·rw [List.mem_singleton] at hy; subst hy; exact .inr ⟨rfl, rfl⟩
 case hnd0 => decide
 case hbl => intro L y hy; cases hy
 case hnd => simp only [List.map_nil]; decide
 case h1 => rfl
 case h2 => rfl
 case h3 => rfl
 intro L h₁ t₁ S₁
 replace S₁ : St h₀ ((L + 5, cellP none) :: (L + 4, cellP none) :: (L + 3, cellP none) :: (L + 2, cellP (some (.ref sg))) :: (L + 1, cellP (some (.ref rs))) :: (L, nsP []) :: K) h₁ := S₁
 have hsz : sizeLine ≥ 100000 := by decide
 refine k_execs_cons ?_
 refine k_Assign_Name ?_
 refine e_comp2 rfl rfl (by decide) ?_
 refine k_Call_Name_kw ?_
 refine name_B C S₁ C.b_range ?_
 refine PyProof.Rows.callWith_type rfl (ea_any rfl ?_)
 refine k_items_cons ?_
 refine c_int ?_
 refine wpAny_items_nil ?_
 refine mk_range (n := 5) S₁ fun r h₂ t₂ S₂ => ?_
 refine it_range S₂ (.head _) (by decide) fun it h₃ S₃ => ?_
 refine comp2_src (by decide) rfl (fun C x => rfl) (srcRange (n := 5) (by exact hh) it) (fun i ys K' => K' = (r, rangeP 5) :: (L + 5, cellP none) :: (L + 4, cellP none) :: (L + 3, cellP none) :: (L + 2, cellP (some (.ref sg))) :: (L + 1, cellP (some (.ref rs))) :: (L, nsP []) :: K ∧ All2 isS ys (namesOf Ws i)) S₃
  ⟨rfl, by exact .nil⟩ (fun _ _ _ _ => trivial) (fun _ _ _ _ => trivial) ?turn ?done
 case turn =>
  rintro i v ys K' h₄ t₄ Cn D hi ⟨tk, rfl⟩ ⟨rfl, a⟩ S₄ E'
  have ha := a.length
  have hn := namesOf_le Ws hw i
  obtain ⟨ws, hws⟩ : ∃ ws, Ws[i]? = some ws := ⟨Ws[i]'(by lia), List.getElem?_eq_getElem (by lia)⟩
  have hwl := hw ws (List.mem_of_getElem? hws)
  have hns : namesOf Ws (i + 1) = namesOf Ws i ++ (letter i :: ws).filter (inS abcz) := by (rewrite [namesOf_succ]; refine (Eq.symm (List.getD_eq_getElem?_getD)) ▸ ?_; refine (Eq.symm (hws)) ▸ ?_; try with_reducible rfl); rfl
  refine asg_L S₄ (by exact rfl) .head (.new (by simp only [List.map_nil]; decide)) fun h₅ S₅ => ?_
  refine k_BinOp ?_
  refine List_ ?_
  refine k_items_cons ?_
  refine k_Subscript ?_
  refine c_str ?_
  refine name_L S₅ (by exact rfl) (.head _) (.head _) ?_
  refine str_item (fitsSsize_of (N := 100) (by (exact Int.natCast_nonneg _)) (by lia) (by decide)) ?_ ?_ ?_
  ·show -((5 : Nat) : Int) ≤ _; (exact Int.natCast_nonneg _)
  ·show _ < ((5 : Nat) : Int); lia
  refine wpAny_items_nil ?_
  refine n_list S₅ fun l1 h₆ S₆ => ?_
  replace S₆ := S₆.wk (.keep (lsR_of (R := isS) (xs := [letter i]) (.cons ⟨_, rfl⟩ .nil)) .refl)
  refine k_Subscript ?_
  refine name_C S₆ (by exact rfl) (mT (mT (mT (mT (mT (mT (mT (mT (mT mH))))))))) ?_
  refine name_L S₆ (by exact rfl) (.tail _ (.head _)) (.head _) ?_
  refine lr_item (R := rowR Nr) (xs := Ws) (y := ws) S₆ (mT (mT (mT (mT (mT (mT (mT (mT (mT (mT (mT (by assumption)))))))))))) (by (exact Int.natCast_nonneg _)) (by lia) (by exact hws) fun v hv => ?_
  (revert hv; intro zh; refine xEA zh fun ra ev mra => ?_; clear zh)
  replace mra := hNr _ mra
  subst ev
  refine add_lr (R := isS) (xs := [letter i]) (ys := ws) S₆ (.head _) (mT (mT (mT (mT (mT (mT (mT (mT (mT (mT (mT (by assumption)))))))))))) (fun c h₇ S₇ => ?_) (Nat.le_trans (show 1 + ws.length ≤ 100000 by lia) hsz)
  refine it_lr S₇ (.head _) fun it2 h₈ S₈ => ?_
  have S₉ : St h₀ ((Cn, nsP [("k", .int i tk)]) :: (D, lsP ys) :: (it2, itP c 0) :: (c, lsR isS (letter i :: ws)) :: (it, rgP 5 (i + 1)) :: (r, rangeP 5) :: (L + 5, cellP none) :: (L + 4, cellP none) :: (L + 3, cellP none) :: (L + 2, cellP (some (.ref sg))) :: (L + 1, cellP (some (.ref rs))) :: (L, nsP []) :: K) h₈ :=
   (((S₈.sub (.cons_cons _ (.cons_cons _ (.cons _ (List.Sublist.refl _))))).take (.tail (.tail .head))).take (.tail (.tail (.tail .head)))).swap
  clear S₁ S₂ S₃ S₄ S₅ S₆ S₇ S₈
  refine in_src (srcR (R := isS) (xs := letter i :: ws) (l := c) (by exact hh) it2) (fun j ys' K' => K' = (c, lsR isS (letter i :: ws)) :: (it, rgP 5 (i + 1)) :: (r, rangeP 5) :: (L + 5, cellP none) :: (L + 4, cellP none) :: (L + 3, cellP none) :: (L + 2, cellP (some (.ref sg))) :: (L + 1, cellP (some (.ref rs))) :: (L, nsP []) :: K ∧
   All2 isS ys' (namesOf Ws i ++ ((letter i :: ws).take j).filter (inS abcz)) ∧ ys'.length ≤ 1000) S₉ ⟨rfl, by simpa using a, by lia⟩ (fun j ys' K' ⟨e, _⟩ => e ▸ .head _) (fun _ _ _ m => .tail _ (.tail _ m)) (fun j ys' K' ⟨_, _, e⟩ => Nat.le_trans (Nat.le_trans e (by decide)) hsz) ?turn2 ?done2
  case turn2 =>
   rintro j v ys' K' h₁₀ t₁₀ hj ⟨y, hy, tv, rfl⟩ ⟨rfl, a', hl'⟩ S₁₀ E''
   have hbd : (namesOf Ws i ++ ((letter i :: ws).take (j + 1)).filter (inS abcz)).length ≤ 1000 := by
    have h1 := List.length_filter_le (inS abcz) ((letter i :: ws).take (j + 1))
    have h2 := List.length_take_le' (j + 1) (letter i :: ws)
    rw [List.length_cons] at h2
    rw [List.length_append]; lia
   refine asg_L S₁₀ (by exact rfl) .head (.new (by simp only [List.map_nil]; decide)) fun h₁₁ S₁₁ => ?_
   refine wpAny_tests_one ?_
   refine k_isTrue_Compare1 ?_
   refine name_L S₁₁ (by exact rfl) (.head _) (.head _) ?_
   refine c_str ?_
   refine in_ss ?_
   refine tr_b ?_
   have fs := filter_take_succ (p := inS abcz) hy
   rw [fs] at hbd
   refine ite_b (fun e => ?_) fun e => ?_
   ·refine name_L S₁₁ (by exact rfl) (.head _) (.head _) ?_
    have e' : inS abcz y = true := e
    rw [e'] at hbd
    refine (CE_in _ _ _ _ rfl (⟨rfl, ?_, ?_⟩) S₁₁)
    ·(refine (Eq.symm (fs)) ▸ ?_; refine (Eq.symm (e')) ▸ ?_; refine (Eq.symm (if_pos rfl)) ▸ ?_; rewrite [← List.append_assoc]; try with_reducible rfl)
     exact a'.snoc ⟨_, rfl⟩
    ·have := a'.length
     (refine (Eq.symm (List.length_append)) ▸ ?_; refine (Eq.symm (List.length_singleton)) ▸ ?_; refine (Eq.symm (this)) ▸ ?_; try with_reducible rfl)
     rw [← List.append_assoc, List.length_append] at hbd
     simpa using hbd
   ·have e' : inS abcz y = false := e
    refine (CN_in _ _ _ _ rfl (⟨rfl, ?_, hl'⟩) S₁₁)
    (refine (Eq.symm (fs)) ▸ ?_; refine (Eq.symm (e')) ▸ ?_; rewrite [if_neg (by decide), List.append_nil]; try with_reducible rfl)
    exact a'
  case done2 =>
   intro ys' K' h₁₀ t₁₀ zr S₁₀; (revert zr; intro zh; refine xAA zh fun zq0 a' hl' => ?_; clear zh; subst zq0)
   rw [List.take_length, ← hns] at a'
   refine ⟨_, _, _, _, ys', rfl, ⟨rfl, a'⟩, S₁₀.sub (.cons_cons _ (.cons_cons _ (.cons _ (List.Sublist.refl _))))⟩
 case done =>
  intro ys K' h₄ t₄ D zr S₄; obtain ⟨rfl, a⟩ := zr
  replace S₄ := S₄.closeR a
  refine store_C S₄ (by exact rfl) (.tail (.tail (.tail (.tail .head)))) fun nh₁ T₁ => ?_
  replace T₁ : St h₀ ((D, lsR isS (namesOf Ws 5)) :: (L + 5, cellP none) :: (L + 4, cellP none) :: (L + 3, cellP (some (.ref D))) :: (L + 2, cellP (some (.ref sg))) :: (L + 1, cellP (some (.ref rs))) :: (L, nsP []) :: K) nh₁ := T₁.sub (.cons_cons _ (.cons _ (List.Sublist.refl _)))
  clear S₁ S₂ S₃ S₄
  clear a
  rename Addr => nm
  have hnl := namesOf_le Ws hw 5
  have hsd : seenF Ws = seenT (namesOf Ws 5) (namesOf Ws 5).length := rfl
  generalize namesOf Ws 5 = ns at *
  try dsimp only
  refine k_execs_cons ?_
  refine k_Assign_Name ?_
  refine e_comp rfl rfl (by decide) ?_
  refine k_Call_Name_kw ?_
  refine name_B C T₁ C.b_range ?_
  refine PyProof.Rows.callWith_type rfl (ea_any rfl ?_)
  refine k_items_cons ?_
  refine k_Call_Name_kw ?_
  refine name_B C T₁ C.b_len ?_
  refine cw_B ?_
  refine k_items_cons ?_
  refine name_C T₁ (by exact rfl) (mT (mT (mT mH))) ?_
  refine wpAny_items_nil ?_
  refine lr_len T₁ (.head _) ?_ (by (exact Nat.lt_of_le_of_lt (by assumption) (by decide)))
  refine wpAny_items_nil ?_
  refine mk_range (n := ns.length) T₁ fun r2 nh₂ nt₂ T₂ => ?_
  refine it_range T₂ (.head _) (by (exact Nat.le_trans (by assumption) (by decide))) fun it2 nh₃ T₃ => ?_
  refine comp_src1 (by decide) rfl (srcRange (n := ns.length) (by exact hh) it2) (fun i ys K' => K' = (r2, rangeP ns.length) :: (nm, lsR isS ns) :: (L + 5, cellP none) :: (L + 4, cellP none) :: (L + 3, cellP (some (.ref nm))) :: (L + 2, cellP (some (.ref sg))) :: (L + 1, cellP (some (.ref rs))) :: (L, nsP []) :: K ∧ All2 isS ys (seenT ns i) ∧ i ≤ ns.length) T₃
   ⟨rfl, by exact .nil, Nat.zero_le _⟩ (fun _ _ _ _ => trivial) (fun _ _ _ _ => trivial) (fun i ys K' ⟨_, a, b⟩ => Nat.le_trans (show ys.length ≤ 100000 by rw [a.length]; have := seenT_le ns i; lia) hsz) ?turn3 ?done3
  case turn3 =>
   rintro i v ys K' nh₄ nt₄ Cn D hi ⟨tk, rfl⟩ ⟨rfl, a, _⟩ T₄ E'
   obtain ⟨y, hy⟩ : ∃ y, ns[i]? = some y := ⟨ns[i], List.getElem?_eq_getElem hi⟩
   refine asg_L T₄ (by exact rfl) .head (.new (by simp only [List.map_nil]; decide)) fun nh₅ T₅ => ?_
   refine wpAny_tests_one ?_
   refine k_isTrue_Compare1 ?_
   refine k_Subscript ?_
   refine name_C T₅ (by exact rfl) (mT (mT (mT (mT (mT (mT (mT mH))))))) ?_
   refine name_L T₅ (by exact rfl) (.head _) (.head _) ?_
   refine lr_item (R := isS) (xs := ns) (y := y) T₅ (mT (mT (mT (mT mH)))) (by (exact Int.natCast_nonneg _)) (by lia) (by exact hy) fun v hv => ?_
   obtain ⟨tv, rfl⟩ := hv
   refine e_upto (h₀ := h₀) isS ns ?_
   refine name_C T₅ (by exact rfl) (mT (mT (mT (mT (mT (mT (mT mH))))))) ?_
   refine name_L T₅ (by exact rfl) (.head _) (.head _) ?_
   refine (SlF_in nm i tk _ rfl rfl T₅ (mT (mT (mT (mT mH)))) (Nat.le_trans (show ns.length ≤ 100000 by (exact Nat.le_trans (by assumption) (by decide))) hsz) (fun Ds nh₆ T₆ => ?_))
   refine notIn_S T₆ (.head _) ?_
   refine tr_b ?_
   replace T₆ := T₆.dropHead
   have sn := seenT_succ hy
   refine ite_b (fun e => ?_) fun e => ?_
   ·refine k_Subscript ?_
    refine name_C T₆ (by exact rfl) (mT (mT (mT (mT (mT (mT (mT mH))))))) ?_
    refine name_L T₆ (by exact rfl) (.head _) (.head _) ?_
    refine lr_item (R := isS) (xs := ns) (y := y) T₆ (mT (mT (mT (mT mH)))) (by (exact Int.natCast_nonneg _)) (by lia) (by exact hy) fun v hv => ?_
    refine (CE_in _ _ _ _ rfl (⟨rfl, ?_, hi⟩) T₆)
    rw [Bool.not_eq_true'] at e
    (refine (Eq.symm (sn)) ▸ ?_; refine (Eq.symm (e)) ▸ ?_; rewrite [if_neg (by decide)]; try with_reducible rfl)
    exact a.snoc hv
   ·refine (CN_in _ _ _ _ rfl (⟨rfl, ?_, hi⟩) T₆)
    rw [Bool.not_eq_false'] at e
    (refine (Eq.symm (sn)) ▸ ?_; refine (Eq.symm (e)) ▸ ?_; refine (Eq.symm (if_pos rfl)) ▸ ?_; rewrite [List.append_nil]; try with_reducible rfl)
    exact a
  case done3 =>
   intro ys K' nh₄ nt₄ D zr T₄; (revert zr; intro zh; refine xAA zh fun zq0 a zu2 => ?_; clear zh; subst zq0)
   replace T₄ := T₄.closeR a
   refine store_C T₄ (by exact rfl) (.tail (.tail (.tail (.tail .head)))) fun nh₅ T₅ => ?_
   rw [← hsd] at T₅
   replace T₅ : St h₀ ((D, lsR isS (seenF Ws)) :: (nm, lsR isS ns) :: (L + 5, cellP none) :: (L + 4, cellP (some (.ref D))) :: (L + 3, cellP (some (.ref nm))) :: (L + 2, cellP (some (.ref sg))) :: (L + 1, cellP (some (.ref rs))) :: (L, nsP []) :: K) nh₅ := T₅.sub (.cons_cons _ (.cons _ (List.Sublist.refl _)))
   clear T₁ T₂ T₃ T₄ a
   have hsl : (seenF Ws).length ≤ 505 := by rw [hsd]; exact Nat.le_trans (seenT_le _ _) (by assumption)
   rename Addr => se
   generalize seenF Ws = seen at *
   try dsimp only
   refine k_execs_cons ?_
   refine k_Assign_Name ?_
   refine e_comp rfl rfl (by decide) ?_
   refine name_C T₅ (by exact rfl) (mT (mT (mT (mT (mT (mT mH)))))) ?_
   refine it_lr T₅ (mT (mT (mT (mT (mT (mT (mT (mT (by assumption))))))))) fun it3 nh₆ T₆ => ?_
   refine comp_gr (srcR (R := rowR Nr) (xs := Ws) (l := rs) (by exact hh) it3) intR (fun m x => x.mono m) (fun i => (Ws.take i).map fun ws => ws.map (dueNum seen signs)) (by rfl) (by decide) rfl (fun Nx => List.mem_append_right _ (mT (mT (mT (mT (mT (mT (mT (mT (by assumption)))))))))) (fun _ _ _ m => .tail _ (.tail _ m)) (by lia) T₆ ?turn4 ?done4
   case turn4 =>
    intro i v ys Nx nh₇ nt₇ Cn D2 hi zr T₇ E'; (revert zr; intro zh; refine xEAEA zh fun ws hws ra zq3 mra => ?_; clear zh; subst zq3)
    replace mra := hNr _ mra
    have hwl := hw ws (List.mem_of_getElem? hws)
    have hww := hin ws (List.mem_of_getElem? hws)
    refine asg_L T₇ (by exact rfl) .head (.new (by simp only [List.map_nil]; decide)) fun nh₈ T₈ => ?_
    refine wpAny_tests_nil ?_
    refine if_t ?_
    refine e_comp rfl rfl (by decide) ?_
    refine name_L T₈ (by exact rfl) (.head _) (.head _) ?_
    refine comp_fm (R := isS) (R' := isI) (xs := ws) (fun x => some (dueNum seen signs x)) (by decide) rfl (by exact hh) T₈ (.tail _ (.tail _ (.tail _ (List.mem_append_right _ (mT (mT (mT (mT (mT (mT (mT (mT (by assumption))))))))))))) (Nat.le_trans (show ws.length ≤ 100000 by (exact Nat.le_trans (by assumption) (by decide))) hsz) ?turn5 ?done5
    case turn5 =>
     rintro j v y nh₉ nt₉ Cn2 D3 it4 ys2 hy hv T₉ E''
     obtain ⟨tv, rfl⟩ := hv
     refine asg_L T₉ (by exact rfl) .head (.new (by simp only [List.map_nil]; decide)) fun nh₁₀ T₁₀ => ?_
     refine wpAny_tests_nil ?_
     refine if_t ?_
     refine wpAny_IfExp ?_
     refine k_isTrue_Compare1 ?_
     refine name_L T₁₀ (by exact rfl) (.head _) (.head _) ?_
     have mse : (se, lsR isS seen) ∈ (Cn2, nsP [("word", .str y tv)]) :: (D3, lsP ys2) :: (it4, itP ra (j + 1)) :: (Cn, nsP [("row", .ref ra)]) :: (D2, lsP ys) :: (it3, itP rs (i + 1)) :: (Nx ++ (se, lsR isS seen) :: (nm, lsR isS ns) :: (L + 5, cellP none) :: (L + 4, cellP (some (.ref se))) :: (L + 3, cellP (some (.ref nm))) :: (L + 2, cellP (some (.ref sg))) :: (L + 1, cellP (some (.ref rs))) :: (L, nsP []) :: K) :=
      .tail _ (.tail _ (.tail _ (.tail _ (.tail _ (.tail _ (List.mem_append_right _ (.head _)))))))
     refine name_C T₁₀ (by exact rfl) (.tail _ (.tail _ (.tail _ (.tail _ (.tail _ (.tail _ (List.mem_append_right _ (mT (mT (mT mH)))))))))) ?_
     refine in_S T₁₀ mse ?_
     refine tr_b ?_
     (refine (Eq.symm (idx_any)) ▸ ?_; try with_reducible rfl)
     cases hx : idx seen y with
     | some q =>
      refine if_t ?_
      refine k_BinOp ?_
      refine c_int ?_
      refine k_MethodCall ?_
      refine name_C T₁₀ (by exact rfl) (.tail _ (.tail _ (.tail _ (.tail _ (.tail _ (.tail _ (List.mem_append_right _ (mT (mT (mT mH)))))))))) ?_
      refine gm_listR (R := isS) (xs := seen) PySem.F.slot_list_index PySem.F.type_list_index T₁₀ mse ?_
      refine cw_B ?_
      refine k_items_cons ?_
      refine name_L T₁₀ (by exact rfl) (.head _) (.head _) ?_
      refine wpAny_items_nil ?_
      refine ix_S T₁₀ mse hx (by (exact Nat.le_trans (by assumption) (by decide))) ?_
      refine add_ii ?_
      exact FE.mk (256 + (q : Int)) (by rw [dueNum, hx]) ⟨_, rfl⟩ T₁₀
     | none =>
      refine if_f ?_
      obtain ⟨q, hq⟩ := Option.isSome_iff_exists.mp (hww y (List.mem_of_getElem? hy) hx)
      refine k_BinOp ?_
      refine c_int ?_
      refine k_MethodCall ?_
      refine name_C T₁₀ (by exact rfl) (.tail _ (.tail _ (.tail _ (.tail _ (.tail _ (.tail _ (List.mem_append_right _ (mT (mT (mT (mT (mT mH)))))))))))) ?_
      have msg2 : (sg, lsR isS signs) ∈ (Cn2, nsP [("word", .str y tv)]) :: (D3, lsP ys2) :: (it4, itP ra (j + 1)) :: (Cn, nsP [("row", .ref ra)]) :: (D2, lsP ys) :: (it3, itP rs (i + 1)) :: (Nx ++ (se, lsR isS seen) :: (nm, lsR isS ns) :: (L + 5, cellP none) :: (L + 4, cellP (some (.ref se))) :: (L + 3, cellP (some (.ref nm))) :: (L + 2, cellP (some (.ref sg))) :: (L + 1, cellP (some (.ref rs))) :: (L, nsP []) :: K) :=
       .tail _ (.tail _ (.tail _ (.tail _ (.tail _ (.tail _ (List.mem_append_right _ (mT (mT (mT (mT (mT (mT (mT (mT (by assumption)))))))))))))))
      refine gm_listR (R := isS) (xs := signs) PySem.F.slot_list_index PySem.F.type_list_index T₁₀ msg2 ?_
      refine cw_B ?_
      refine k_items_cons ?_
      refine name_L T₁₀ (by exact rfl) (.head _) (.head _) ?_
      refine wpAny_items_nil ?_
      refine ix_S T₁₀ msg2 hq (by (exact Nat.le_trans (by assumption) (by decide))) ?_
      refine add_ii ?_
      exact FE.mk (7 + (q : Int)) (by rw [dueNum, hx, hq]) ⟨_, rfl⟩ T₁₀
    case done5 =>
     intro nh₉ nt₉ D3 T₉
     refine (GE_in nh₉ nt₉ ([("row", .ref ra)]) ([(D3, lsR isI (ws.map (dueNum seen signs)))]) (ws.map (dueNum seen signs)) rfl (?_) (⟨D3, rfl, .head _⟩) (?_))
     ·(refine (Eq.symm (List.take_add_one)) ▸ ?_; refine (Eq.symm (hws)) ▸ ?_; refine (Eq.symm (List.map_append)) ▸ ?_; try with_reducible rfl); rfl
     ·have e : ws.filterMap (fun x => some (dueNum seen signs x)) = ws.map (dueNum seen signs) := by rw [← List.filterMap_eq_map]; rfl
      rw [e] at T₉
      exact Sl3' T₉
   case done4 =>
    intro Nx nh₇ nt₇ du T₇
    refine store_C T₇ (by exact rfl) (.tail (Up.app (.tail (.tail .head)) Nx)) fun nh₈ T₈ => ?_
    rw [List.take_of_length_le (Nat.le_refl _)] at T₈
    (refine xEAEAE (T₈.get (.head _)) fun o eo vs av nv zq5 => ?_; subst zq5)
    have T₉ : St h₀ ((du, lsP vs) :: (Nx ++ (se, lsR isS seen) :: (nm, lsR isS ns) :: (L + 5, cellP (some (.ref du))) :: (L + 4, cellP (some (.ref se))) :: (L + 3, cellP (some (.ref nm))) :: (L + 2, cellP (some (.ref sg))) :: (L + 1, cellP (some (.ref rs))) :: (L, nsP []) :: K)) nh₈ :=
     T₈.upd .head (Heap.ExtBut.refl _ _) eo ⟨nv, rfl⟩
    have hvl : vs.length = 5 := by rw [av.length, List.length_map, hWs]
    clear T₅ T₆ T₇ T₈ eo
    have mse : ∀ {a b c : Addr × Pr}, (se, lsR isS seen) ∈ a :: b :: c :: (Nx ++ (se, lsR isS seen) :: (nm, lsR isS ns) :: (L + 5, cellP (some (.ref du))) :: (L + 4, cellP (some (.ref se))) :: (L + 3, cellP (some (.ref nm))) :: (L + 2, cellP (some (.ref sg))) :: (L + 1, cellP (some (.ref rs))) :: (L, nsP []) :: K) :=
     .tail _ (.tail _ (.tail _ (List.mem_append_right _ (.head _))))
    have hinj : ∀ i j, i < 5 → j < 5 → jk i = jk j → i = j := by
     intro i j hi hj e
     have h1 := hjk i hi
     have h2 := hjk j hj
     rw [← e] at h2
     unfold idx at h1 h2
     refine xEA (List.findIdx?_eq_some_iff_getElem.mp h1) fun l1 p1 zu2 => ?_
     refine xEA (List.findIdx?_eq_some_iff_getElem.mp h2) fun l2 p2 zu2 => ?_
     have e2 : letter i = letter j := (of_decide_eq_true p1).symm.trans (of_decide_eq_true p2)
     have key : ∀ i, i < 5 → ∀ j, j < 5 → letter i = letter j → i = j := by decide
     exact key i hi j hj e2
    refine k_execs_cons ?_
    refine k_Return_some ?_
    refine k_Tuple ?_
    refine k_items_cons ?_
    refine name_C T₉ (by exact rfl) (.tail _ (List.mem_append_right _ (mT (mT (mT mH))))) ?_
    refine k_items_cons ?_
    refine e_compD rfl rfl (by decide) ?_
    refine k_Call_Name_kw ?_
    refine name_B C T₉ C.b_range ?_
    refine PyProof.Rows.callWith_type rfl (ea_any rfl ?_)
    refine k_items_cons ?_
    refine c_int ?_
    refine wpAny_items_nil ?_
    refine mk_range (n := 5) T₉ fun r3 nh₁₀ nt₁₀ T₁₀ => ?_
    refine it_range T₁₀ (.head _) (by decide) fun it5 nh₁₁ T₁₁ => ?_
    refine compD_src (knd := intKind PP w) (by decide) rfl (fun _ _ => rfl) (srcRange (n := 5) (by exact hh) it5) (fun i => (List.range i).map fun k => (256 + (jk k : Int), vs.getD k .none)) rfl
     (fun i hi => Nat.le_trans (show ((List.range i).map _).length ≤ 100000 by rw [List.length_map, List.length_range]; (exact Nat.le_trans (by assumption) (by decide))) hsz) T₁₁ trivial (fun _ _ _ _ => trivial) ?turn6 ?done6
    case turn6 =>
     intro i v nh₁₂ nt₁₂ Cn D2 hi zr T₁₂ E'; obtain ⟨tk, rfl⟩ := zr
     refine asg_L T₁₂ (by exact rfl) .head (.new (by simp only [List.map_nil]; decide)) fun nh₁₃ T₁₃ => ?_
     have mse2 : ∀ {a b c e f : Addr × Pr}, (se, lsR isS seen) ∈ a :: b :: c :: e :: f :: (Nx ++ (se, lsR isS seen) :: (nm, lsR isS ns) :: (L + 5, cellP (some (.ref du))) :: (L + 4, cellP (some (.ref se))) :: (L + 3, cellP (some (.ref nm))) :: (L + 2, cellP (some (.ref sg))) :: (L + 1, cellP (some (.ref rs))) :: (L, nsP []) :: K) :=
      .tail _ (.tail _ mse)
     refine k_BinOp ?_
     refine c_int ?_
     refine k_MethodCall ?_
     refine name_C T₁₃ (by exact rfl) (.tail _ (.tail _ (.tail _ (.tail _ (.tail _ (List.mem_append_right _ (mT (mT (mT mH))))))))) ?_
     refine gm_listR (R := isS) (xs := seen) PySem.F.slot_list_index PySem.F.type_list_index T₁₃ mse2 ?_
     refine cw_B ?_
     refine k_items_cons ?_
     refine k_Subscript ?_
     refine c_str ?_
     refine name_L T₁₃ (by exact rfl) (.head _) (.head _) ?_
     refine str_item (fitsSsize_of (N := 100) (by (exact Int.natCast_nonneg _)) (by lia) (by decide)) ?_ ?_ ?_
     ·show -((5 : Nat) : Int) ≤ _; (exact Int.natCast_nonneg _)
     ·show _ < ((5 : Nat) : Int); lia
     refine wpAny_items_nil ?_
     refine ix_S T₁₃ mse2 (hjk i hi) (by (exact Nat.le_trans (by assumption) (by decide))) ?_
     refine add_ii ?_
     refine k_Subscript ?_
     refine name_C T₁₃ (by exact rfl) (.tail _ (.tail _ (.tail _ (.tail _ (.tail _ (List.mem_append_right _ (mT (mT mH)))))))) ?_
     refine name_L T₁₃ (by exact rfl) (.head _) (.head _) ?_
     refine ls_item T₁₃ (vs := vs) (v := vs.getD i .none) (.tail _ (.tail _ (.tail _ (.tail _ (.head _))))) (by (exact Int.natCast_nonneg _)) (by lia) (getD_some (by lia)) ?_
     refine ⟨_, _, _, 256 + (jk i : Int), rfl, intKind_is PP w _ _, ?_, T₁₃⟩
     rw [stored_new]
     ·(refine (Eq.symm (List.range_succ)) ▸ ?_; refine (Eq.symm (List.map_append)) ▸ ?_; try with_reducible rfl); rfl
     ·intro hm
      refine xEA (List.mem_map.mp hm) fun x hx ex => ?_
      (refine xEA (List.mem_map.mp hx) fun j hj zq2 => ?_; subst zq2)
      rw [List.mem_range] at hj
      have e1 : (256 + (jk j : Int)) = 256 + (jk i : Int) := ex
      have := hinj j i (by lia) hi (by lia)
      lia
    case done6 =>
     intro nh₁₂ nt₁₂ dc hdc T₁₂
     refine wpAny_items_nil ?_
     refine n_tup T₁₂ fun tp nh₁₃ T₁₃ => ?_
     dsimp only [retV]
     have h108 : 108 < dc := by
      refine xEA (o108 w) fun o ho zu2 => ?_
      exact hdc _ _ (C.X _ _ ho)
     refine q tp se dc ((List.range 5).map fun k => (256 + (jk k : Int), vs.getD k .none)) (Nx ++ [(se, lsR isS seen), (nm, lsR isS ns), (L + 5, cellP (some (.ref du))), (L + 4, cellP (some (.ref se))), (L + 3, cellP (some (.ref nm))), (L + 2, cellP (some (.ref sg))), (L + 1, cellP (some (.ref rs))), (L, nsP [])]) nh₁₃ nt₁₂ h108 (List.mem_append_right _ (.head _)) ?_ ?_
     ·refine all2_map fun k hk => ?_
      rw [List.mem_range] at hk
      obtain ⟨ws, hws⟩ : ∃ ws, Ws[k]? = some ws := ⟨Ws[k]'(by lia), List.getElem?_eq_getElem (by lia)⟩
      (refine xEAEA (av.get (i := k) (b := ws.map (dueNum seen signs)) (by rw [List.getElem?_map, hws]; rfl)) fun v hv a zq3 ma => ?_; subst zq3)
      refine ⟨rfl, a, ?_, ?_⟩
      ·show vs.getD k .none = _
       (refine (Eq.symm (List.getD_eq_getElem?_getD)) ▸ ?_; refine (Eq.symm (hv)) ▸ ?_; try with_reducible rfl); rfl
      ·show (a, lsR isI ((Ws.getD k []).map (dueNum seen signs))) ∈ _
       (refine (Eq.symm (List.getD_eq_getElem?_getD)) ▸ ?_; refine (Eq.symm (hws)) ▸ ?_; try with_reducible rfl)
       exact List.mem_append_left _ ma
     ·have T₁₄ := T₁₃.sub (K' := (tp, tpP [.ref se, .ref dc]) :: (dc, dP (intKind PP w) (.type "dict") none #[] ((List.range 5).map fun k => (256 + (jk k : Int), vs.getD k .none))) :: (Nx ++ (se, lsR isS seen) :: (nm, lsR isS ns) :: (L + 5, cellP (some (.ref du))) :: (L + 4, cellP (some (.ref se))) :: (L + 3, cellP (some (.ref nm))) :: (L + 2, cellP (some (.ref sg))) :: (L + 1, cellP (some (.ref rs))) :: (L, nsP []) :: K))
       (.cons_cons _ (.cons_cons _ (.cons _ (.cons _ (List.Sublist.refl _)))))
      rw [List.append_assoc]
      exact T₁₄
end
end
section
noncomputable def dI (ns : List Int) : PyData := .list (ns.map .int)
noncomputable def dTold (y : Int ⊕ List Int) : PyData := match y with | .inl b => .str (noLine b) | .inr row => dI row
noncomputable def dTl (y : Tl) : PyData := .tuple [dTold y.told, dI y.runs, dI y.keys]
noncomputable def dIt (y : Int × List Int) : PyData := .tuple [.int y.1, dI y.2]
noncomputable def dAll (tls : List Tl) (kept : List (Int × List Int)) : PyData := .tuple [.list (tls.map dTl), .list (kept.map dIt)]
noncomputable def Okd (n : Nat) (d : PyData) : Prop := d.canLay0 = true ∧ d.depth ≤ n
theorem okd_int (i : Int) : Okd 1 (.int i) := ⟨by simp [PyData.canLay0], by simp [PyData.depth]⟩
theorem okd_str {x : Str} (h : PyData.strOk x = true) : Okd 1 (.str x) := ⟨by simp [PyData.canLay0, h], by simp [PyData.depth]⟩
theorem Okd.up {n m : Nat} {d : PyData} (h : Okd n d) (le : n ≤ m) : Okd m d := ⟨h.1, Nat.le_trans h.2 le⟩
theorem okd_all {n : Nat} : ∀ {ds : List PyData}, (∀ d ∈ ds, Okd n d) → PyData.canLayAll0 ds = true ∧ PyData.depthAll ds ≤ n
 | [], _ => ⟨by simp [PyData.canLayAll0], by simp [PyData.depthAll]⟩
 | d :: ds, h => by
  have h1 := h d (.head _)
  have h2 := okd_all fun e he => h e (.tail _ he)
  refine ⟨by simp [PyData.canLayAll0, h1.1, h2.1], ?_⟩
  simp only [PyData.depthAll]
  exact Nat.max_le.mpr ⟨h1.2, h2.2⟩
theorem okd_list {n : Nat} {ds : List PyData} (h : ∀ d ∈ ds, Okd n d) : Okd (n + 1) (.list ds) := by
 have := okd_all h
 exact ⟨by simp [PyData.canLay0, this.1], by simp only [PyData.depth]; lia⟩
theorem okd_tuple {n : Nat} {ds : List PyData} (h : ∀ d ∈ ds, Okd n d) : Okd (n + 1) (.tuple ds) := by
 have := okd_all h
 exact ⟨by simp [PyData.canLay0, this.1], by simp only [PyData.depth]; lia⟩
theorem okd_dI (ns : List Int) : Okd 2 (dI ns) := okd_list fun d hd => by (refine xEA (List.mem_map.mp hd) fun i zu1 zq2 => ?_; subst zq2); exact okd_int i
theorem ok_ofString (x : String) : PyData.strOk (Str.ofString x) = true := by
 rw [Str.ofString_eq_toList]
 unfold PyData.strOk
 rw [List.all_toArray, List.all_eq_true]
 intro n hn
 (refine xEA (List.mem_map.mp hn) fun c zu1 zq2 => ?_; subst zq2)
 have := c.valid
 refine decide_eq_true ?_
 have h : c.val.toNat < 0x110000 := by
  rcases this with h | h
  ·exact Nat.lt_trans h (by decide)
  ·exact h.2
 exact h
theorem ok_append {x y : Str} (hx : PyData.strOk x = true) (hy : PyData.strOk y = true) : PyData.strOk (x ++ y) = true := by
 unfold PyData.strOk at *
 show (x.cps ++ y.cps).all _ = true
 (refine (Eq.symm (Array.all_append)) ▸ ?_; refine (Eq.symm (hx)) ▸ ?_; refine (Eq.symm (hy)) ▸ ?_); rfl
theorem okd_dTold (y : Int ⊕ List Int) : Okd 2 (dTold y) := by
 cases y with
 | inl b => exact (okd_str (ok_append (ok_ofString _) (ok_ofString _))).up (by decide)
 | inr row => exact okd_dI row
theorem okd_dTl (y : Tl) : Okd 3 (dTl y) := okd_tuple fun d hd => by
 rcases List.mem_cons.mp hd with rfl | hd
 ·exact okd_dTold _
 rcases List.mem_cons.mp hd with rfl | hd
 ·exact okd_dI _
 rcases List.mem_cons.mp hd with rfl | hd
 ·exact okd_dI _
 ·cases hd
theorem okd_dIt (y : Int × List Int) : Okd 3 (dIt y) := okd_tuple fun d hd => by
 rcases List.mem_cons.mp hd with rfl | hd
 ·exact (okd_int _).up (by decide)
 rcases List.mem_cons.mp hd with rfl | hd
 ·exact okd_dI _
 ·cases hd
theorem okd_map {α : Type} {f : α → PyData} {n : Nat} (h : ∀ x, Okd n (f x)) (xs : List α) : Okd (n + 1) (.list (xs.map f)) := okd_list fun d hd => by (refine xEA (List.mem_map.mp hd) fun x zu1 zq2 => ?_; subst zq2); exact h x
theorem okd_dAll (tls : List Tl) (kept : List (Int × List Int)) : Okd 5 (dAll tls kept) := okd_tuple fun d hd => by
 rcases List.mem_cons.mp hd with rfl | hd
 ·exact okd_map okd_dTl _
 rcases List.mem_cons.mp hd with rfl | hd
 ·exact okd_map okd_dIt _
 ·cases hd
theorem Okd.shaped {n : Nat} {d : PyData} (h : Okd n d) (le : n ≤ 64) : SeqAt.shaped d = true := by
 unfold SeqAt.shaped
 rw [h.1, Bool.true_and]
 exact decide_eq_true (Nat.le_trans h.2 le)
section
variable {h₀ h : Heap} {K N : Led} {α : Type} {R : Value → α → Prop} {f : α → PyData}
theorem rd_vs (hR : ∀ v y, R v y → ∃ as, Reads h v (f y) as) : ∀ {vs : List Value} {xs : List α}, All2 R vs xs → ∃ as, ReadsAll h vs (xs.map f) as := by
 intro vs xs a
 induction a with
 | nil => exact ⟨[], .nil⟩
 | cons r _ ih =>
  obtain ⟨as, h1⟩ := hR _ _ r
  obtain ⟨bs, h2⟩ := ih
  exact ⟨as ++ bs, .cons h1 h2⟩
theorem rd_list {a : Addr} (hR : ∀ v y, R v y → ∃ as, Reads h v (f y) as) (S : St h₀ K h) (m : (a, lsR R xs) ∈ K) : ∃ as, Reads h (.ref a) (.list (xs.map f)) as := by
 (refine xEAEAE (S.get m) fun o e vs av n zq5 => ?_; subst zq5)
 obtain ⟨as, r⟩ := rd_vs hR av
 exact ⟨a :: as, .list e rfl rfl r⟩
theorem rd_tup {a : Addr} {vs : List Value} {ds : List PyData} {as : List Addr} (S : St h₀ K h) (m : (a, tpP vs) ∈ K) (r : ReadsAll h vs ds as) : ∃ as, Reads h (.ref a) (.tuple ds) as := by
 (refine xEAE (S.get m) fun o e n zq3 => ?_; subst zq3)
 exact ⟨as, .tuple e rfl rfl r⟩
theorem rd_isI (v : Value) (y : Int) (x : isI v y) : ∃ as, Reads h v (.int y) as := by obtain ⟨t, rfl⟩ := x; exact ⟨_, .int _ _⟩
theorem rd_isS (v : Value) (y : Str) (x : isS v y) : ∃ as, Reads h v (.str y) as := by obtain ⟨t, rfl⟩ := x; exact ⟨_, .str _ _⟩
theorem rd_ints {a : Addr} {ns : List Int} (S : St h₀ K h) (m : (a, lsR isI ns) ∈ K) : ∃ as, Reads h (.ref a) (dI ns) as := rd_list rd_isI S m
theorem rd_told (S : St h₀ K h) (m : ∀ p ∈ N, p ∈ K) (v : Value) (y : Int ⊕ List Int) (x : toldR N v y) : ∃ as, Reads h v (dTold y) as := by
 cases y with
 | inl b => exact rd_isS v _ x
 | inr row => (revert x; intro zh; refine xEA zh fun a zq1 ma => ?_; clear zh; subst zq1); exact rd_ints S (m _ ma)
theorem rd_tl (S : St h₀ K h) (m : ∀ p ∈ N, p ∈ K) (v : Value) (y : Tl) (x : stR N v y) : ∃ as, Reads h v (dTl y) as := by
 (revert x; intro zh; refine xEEEEAAAA zh fun p tv r k zq4 mp ht mr mk => ?_; clear zh; subst zq4)
 obtain ⟨as, h1⟩ := rd_told S m _ _ ht
 obtain ⟨bs, h2⟩ := rd_ints S (m _ mr)
 obtain ⟨cs, h3⟩ := rd_ints S (m _ mk)
 exact rd_tup S (m _ mp) (.cons h1 (.cons h2 (.cons h3 .nil)))
theorem rd_it (S : St h₀ K h) (m : ∀ p ∈ N, p ∈ K) (v : Value) (y : Int × List Int) (x : itR N v y) : ∃ as, Reads h v (dIt y) as := by
 (revert x; intro zh; refine xEEEAA zh fun p tk a zq3 mp ma => ?_; clear zh; subst zq3)
 obtain ⟨bs, h2⟩ := rd_ints S (m _ ma)
 exact rd_tup S (m _ mp) (.cons (.int _ _) (.cons h2 .nil))
theorem rd_all {tp sa li : Addr} {tls : List Tl} {kept : List (Int × List Int)} (S : St h₀ K h) (m : ∀ p ∈ N, p ∈ K) (mt : (tp, tpP [.ref sa, .ref li]) ∈ K) (ms : (sa, lsR (stR N) tls) ∈ K) (ml : (li, lsR (itR N) kept) ∈ K) : ∃ as, Reads h (.ref tp) (dAll tls kept) as := by
 obtain ⟨as, h1⟩ := rd_list (rd_tl S m) S ms
 obtain ⟨bs, h2⟩ := rd_list (rd_it S m) S ml
 exact rd_tup S mt (.cons h1 (.cons h2 .nil))
end
section
variable {prog : Program} {w : World} {A : Around} {E : Value → Shared → Prop} {h₀ h : Heap} {g : Array GenState} {d : Drawn} {t : Nat} {os : OsState} {K : Led}
theorem eq_reads {n : Nat} {a b : Value} {d₁ : PyData} {Q : Value → Shared → Prop} (ra : ∃ as, Reads h a d₁ as) (rb : ∃ bs, Reads h b d₁ bs) (ok : Okd n d₁) (hn : n ≤ 64) (hu : A.units + 64 < cLine) (q : Q (.bool true) ⟨h, g, d, t, os⟩) : wpAny (model prog w) A (compareOp .Eq a b) Q E ⟨h, g, d, t, os⟩ := by
 obtain ⟨as, ra⟩ := ra
 obtain ⟨bs, rb⟩ := rb
 refine eq_dataH (s := ⟨h, g, d, t, os⟩) ra rb (ok.shaped hn) (ok.shaped hn) hu ?_
 rw [SeqAt.eqv_refl _ ok.1]; exact q
theorem ne_reads {n : Nat} {a b : Value} {d₁ : PyData} {Q : Value → Shared → Prop} (ra : ∃ as, Reads h a d₁ as) (rb : ∃ bs, Reads h b d₁ bs) (ok : Okd n d₁) (hn : n ≤ 64) (hu : A.units + 64 < cLine) (q : Q (.bool false) ⟨h, g, d, t, os⟩) : wpAny (model prog w) A (compareOp .NotEq a b) Q E ⟨h, g, d, t, os⟩ := by
 obtain ⟨as, ra⟩ := ra
 obtain ⟨bs, rb⟩ := rb
 refine ne_dataH (s := ⟨h, g, d, t, os⟩) ra rb (ok.shaped hn) (ok.shaped hn) hu ?_
 rw [SeqAt.eqv_refl _ ok.1]; exact q
end
end
section
theorem look?_of_mem {α : Type} : ∀ {l : List (Int × α)}, (l.map (·.1)).Nodup → ∀ {p : Int × α}, p ∈ l → look? l p.1 = some p.2
 | q :: l, nd, p, m => by
  rw [List.map_cons, List.nodup_cons] at nd
  unfold look?
  rw [List.find?_cons]
  by_cases e : q.1 = p.1
  ·rw [decide_eq_true e]
   rcases List.mem_cons.mp m with rfl | m
   ·rfl
   ·exact absurd (e ▸ List.mem_map_of_mem m) nd.1
  ·rw [decide_eq_false e]
   have m' : p ∈ l := by
    rcases List.mem_cons.mp m with rfl | m
    ·exact absurd rfl e
    ·exact m
   exact look?_of_mem nd.2 m'
section
variable {w : World} {A : Around} {E : Value → Shared → Prop} {h₀ h : Heap} {g : Array GenState} {d : Drawn} {t : Nat} {os : OsState} {K N N' : Led}
theorem hits_of {kb : List (Int × Value)} {specs : List (Int × List Int)} (S : St h₀ K h) (hb : rulesK kb N' specs) (nd : (specs.map (·.1)).Nodup) (mN : ∀ p ∈ N, p ∈ K) (mN' : ∀ p ∈ N', p ∈ K) (hu : A.in1.units + 64 < cLine) :
  ∀ {l : List (Int × Value)} {sp : List (Int × List Int)}, rulesK l N sp → (∀ s ∈ sp, s ∈ specs) → KeqHits A.in1 ⟨h, g, d, t, os⟩ kb l true
 | _, _, .nil, _ => .nil
 | (k, v) :: r, s :: sp, .cons ⟨e, a, ev, ma⟩ hr, hs => by
  dsimp only at e ev
  subst e ev
  refine xEA ((ru_get hb s.1).2 s.2 (look?_of_mem nd (hs s (.head _)))) fun pb hpb mb => ?_
  refine xEAA (S.openR (mN _ ma)) fun vs x hl zu3 => ?_
  refine xEAA (S.openR (mN' _ mb)) fun us y hl' zu3 => ?_
  have eq := keq_ints (s := ⟨h, g, d, t, os⟩) hl (ints_of x) hl' (ints_of y) hu
  rw [decide_eq_true rfl] at eq
  exact KeqHits.hit (e := true) (b := true) hpb eq (hits_of S hb nd mN mN' hu hr fun s' hs' => hs s' (.tail _ hs'))
theorem eq_dicts {ra rb : Addr} {ka kb : List (Int × Value)} {specs : List (Int × List Int)} {Q : Value → Shared → Prop} (S : St h₀ K h) (hra : 108 < ra) (hrb : 108 < rb) (ma : (ra, dP (intKind PP w) (.type "dict") none #[] ka) ∈ K) (mb : (rb, dP (intKind PP w) (.type "dict") none #[] kb) ∈ K)
  (ha : rulesK ka N specs) (hb : rulesK kb N' specs) (nd : (specs.map (·.1)).Nodup) (mN : ∀ p ∈ N, p ∈ K) (mN' : ∀ p ∈ N', p ∈ K) (hu : A.units + 68 < cLine) (q : Q (.bool true) ⟨h, g, d, t, os⟩) :
  wpAny (model PP w) A (compareOp .Eq (.ref ra) (.ref rb)) Q E ⟨h, g, d, t, os⟩ := by
 have hl : ka.length = kb.length := by rw [ha.length, hb.length]
 refine keq_eq (s := ⟨h, g, d, t, os⟩) (r := true) (not_sys hra) (not_sys hrb) (S.isDict ma) (S.isDict mb) (by (exact Nat.lt_of_le_of_lt (Nat.le_add_right _ _) (by assumption))) (fun _ => hits_of S hb nd mN mN' (by show A.units + 1 + 64 < _; lia) ha fun _ x => x) ?_
 rw [hl, beq_self_eq_true]; exact q
end
end
section
noncomputable def lawD : { p : Arguments × List Stmt × Scope // findDef "law" PP.main.body = some p } := ⟨_, rfl⟩
noncomputable abbrev lawSc : Scope := lawD.1.2.2
noncomputable def lS0 : { s : Stmt // lawD.1.2.1[0]? = some s } := ⟨_, rfl⟩
noncomputable def lS1 : { s : Stmt // lawD.1.2.1[1]? = some s } := ⟨_, rfl⟩
noncomputable def lS2 : { s : Stmt // lawD.1.2.1[2]? = some s } := ⟨_, rfl⟩
noncomputable def lS3 : { s : Stmt // lawD.1.2.1[3]? = some s } := ⟨_, rfl⟩
noncomputable def lS4 : { s : Stmt // lawD.1.2.1[4]? = some s } := ⟨_, rfl⟩
noncomputable def lS5 : { s : Stmt // lawD.1.2.1[5]? = some s } := ⟨_, rfl⟩
noncomputable def lS6 : { s : Stmt // lawD.1.2.1[6]? = some s } := ⟨_, rfl⟩
noncomputable def lS7 : { s : Stmt // lawD.1.2.1[7]? = some s } := ⟨_, rfl⟩
noncomputable def lS8 : { s : Stmt // lawD.1.2.1[8]? = some s } := ⟨_, rfl⟩
noncomputable def lS9 : { s : Stmt // lawD.1.2.1[9]? = some s } := ⟨_, rfl⟩
noncomputable def lS10 : { s : Stmt // lawD.1.2.1[10]? = some s } := ⟨_, rfl⟩
noncomputable def lS11 : { s : Stmt // lawD.1.2.1[11]? = some s } := ⟨_, rfl⟩
theorem law_split : lawD.1.2.1 = [lS0.1, lS1.1, lS2.1, lS3.1, lS4.1, lS5.1, lS6.1, lS7.1, lS8.1, lS9.1, lS10.1, lS11.1] := rfl
noncomputable abbrev lawEnv (L fa : Addr) (cd : Value) : Env := envOfC "law" lawSc L fa cd
noncomputable def signsT : Str := "( ) [ ] : , ; + - * / | & < > = . % { } == != <= >= ~ ^ << >> ** += -= *= /= %= &= |= ^= <<= >>= **= // //= @ @= -> ... := !"
theorem words_signs : Txt.words signsT = signsL := by decide +kernel
noncomputable def menuL : List Str := signsL ++ [("!" : Str), ("!" : Str), ("Z" : Str), ("Z" : Str)]
theorem menu_len : menuL.length = 52 := by decide +kernel
noncomputable def drawnOf (xs : List Int) : List Int := (xs.take 16).map fun x => x.fmod 480480
noncomputable def Wf (xs : List Int) (k : Nat) : List Str := (drawnOf xs ++ tens).foldl (rowsStep menuL) (fun _ => []) k
noncomputable abbrev cells3 (L : Addr) (r n s : Option Value) : Led := [(L + 3, cellP s), (L + 2, cellP n), (L + 1, cellP r)]
section
variable {w : World} {A : Around} {E : Value → Shared → Prop} {h₀ h : Heap} {g : Array GenState} {d : Drawn} {t : Nat} {os : OsState} {mg mb : Str → Option Value} {K : Led} {L fa sp sg dw : Addr} {cd : Value} {Q : Flow → Shared → Prop} {xs : List Int} {vs : List Value}
theorem law_0 (S : St h₀ ((L + 3, cellP none) :: (L + 2, cellP none) :: (L + 1, cellP none) :: (L, nsP [("script", .ref sp)]) :: K) h)
  (q : ∀ sg h t, St h₀ ((sg, lsR isS signsL) :: (L + 3, cellP none) :: (L + 2, cellP none) :: (L + 1, cellP none) :: (L, nsP [("signs", .ref sg), ("script", .ref sp)]) :: K) h → Q .next ⟨h, g, d, t, os⟩) :
  wpAny (model PP w) A (exec lS0.1 (lawEnv L fa cd)) Q E ⟨h, g, d, t, os⟩ := by
 dsimp only [lS0]
 refine k_Assign_Name ?_
 refine k_MethodCall ?_
 refine c_str ?_
 refine gm_split ?_
 refine cw_B ?_
 refine wpAny_items_nil ?_
 refine split_S S (by decide +kernel) fun sg h₁ t₁ S₁ => ?_
 replace S₁ : St h₀ ((sg, lsR isS (Txt.words signsT)) :: (L + 3, cellP none) :: (L + 2, cellP none) :: (L + 1, cellP none) :: (L, nsP [("script", .ref sp)]) :: K) h₁ := S₁
 rw [words_signs] at S₁
 refine store_L S₁ (by exact rfl) (.tail (.tail (.tail (.tail .head)))) (.new (by simp only [List.map_cons, List.map_nil]; decide)) fun h₂ S₂ => ?_
 exact q _ _ _ S₂
theorem law_1 (hh : A.handled = none) (hsp : h₀.IsList sp vs.toArray) (hI : IntsAre vs xs) (hlen : xs.length ≤ 63) (S : St h₀ ((sg, lsR isS signsL) :: (L + 3, cellP none) :: (L + 2, cellP none) :: (L + 1, cellP none) :: (L, nsP [("signs", .ref sg), ("script", .ref sp)]) :: K) h)
  (q : ∀ dw h t, St h₀ ((dw, lsR isI (drawnOf xs)) :: (sg, lsR isS signsL) :: (L + 3, cellP none) :: (L + 2, cellP none) :: (L + 1, cellP none) :: (L, nsP [("drawn", .ref dw), ("signs", .ref sg), ("script", .ref sp)]) :: K) h → Q .next ⟨h, g, d, t, os⟩) :
  wpAny (model PP w) A (exec lS1.1 (lawEnv L fa cd)) Q E ⟨h, g, d, t, os⟩ := by
 dsimp only [lS1]
 refine s_comp rfl rfl rfl (by decide) ?_
 have av := of_ints hI
 refine wpAny_Subscript_list_slice ?_ (by intro _ _; rfl)
 refine name_L S (by exact rfl) (.tail _ (.tail _ (.tail _ (.tail _ (.head _))))) (.tail _ (.head _)) ?_
 refine wpAny_evalPart_none (wpAny_evalPart_some (c_int ?_))
 (revert hsp; intro zh; refine xEAA zh fun o eo r1 r2 => ?_; clear zh)
 refine ⟨sp, vs.toArray, none, some (16 : Int), rfl, ⟨o, S.keep _ _ eo, r1, r2⟩, by rw [List.size_toArray, av.length]; exact Nat.le_trans hlen (by decide), .none, .int _ _, ?_⟩
 (refine (Eq.symm (show (16 : Int) = ((16 : Nat) : Int) from rfl)) ▸ ?_; rewrite [slicePick_upto'])
 have S₁ := (S.ext (h' := h.push { cls := .type "slice", data := .fields #[.none, .int ((16 : Nat) : Int) t, .none] }) fun b o e => Heap.get?_push_of_some _ e).push (P := lsR isI (xs.take 16)) (o := { cls := .type "list", data := .seq (vs.take 16).toArray }) ⟨vs.take 16, av.take 16, 0, rfl⟩ rfl
 rw [Heap.size_push] at S₁
 generalize h.objs.size + 1 = dl at S₁ ⊢
 have S₂ : St h₀ ((dl, lsR isI (xs.take 16)) :: (sg, lsR isS signsL) :: (L + 3, cellP none) :: (L + 2, cellP none) :: (L + 1, cellP none) :: (L, nsP [("signs", .ref sg), ("script", .ref sp)]) :: K) ((h.push { cls := .type "slice", data := .fields #[.none, .int ((16 : Nat) : Int) t, .none] }).push { cls := .type "list", data := .seq (vs.toArray.toList.take 16).toArray }) := S₁
 refine comp_fmS (b' := ([] : List (Str × Value))) (R := isI) (R' := isI) (xs := xs.take 16) (L := L) (fun x => some (x.fmod 480480)) (by decide) rfl hh S₂ (.head _) (Nat.le_trans (List.length_take_le _ _) (by decide)) rfl (fun D => .tail (.tail (.tail (.tail (.tail .head))))) (fun D => .new (by simp only [List.map_cons, List.map_nil]; decide)) ?_ ?_
 ·rintro i v y h₃ t₃ Cn D it ys hy hv S₃ E'
  obtain ⟨tv, rfl⟩ := hv
  refine asg_L S₃ (by exact rfl) .head (.new (by simp only [List.map_nil]; decide)) fun h₄ S₄ => ?_
  refine wpAny_tests_nil ?_
  refine if_t ?_
  refine k_BinOp ?_
  refine name_L S₄ (by exact rfl) (.head _) (.head _) ?_
  refine c_int ?_
  refine mod_ii ?_
  exact FE.mk (y.fmod 480480) rfl ⟨_, rfl⟩ S₄
 ·intro h₃ t₃ D S₃
  have e : (xs.take 16).filterMap (fun x => some (x.fmod 480480)) = drawnOf xs := by rw [drawnOf, ← List.filterMap_eq_map]; rfl
  rw [e] at S₃
  exact q D h₃ t₃ (S₃.sub (.cons_cons _ (.cons _ (List.Sublist.refl _))))
end
end
section
noncomputable def WsOf (xs : List Int) : List (List Str) := (List.range 5).map (Wf xs)
theorem f228 (w : World) : ∃ o, (hd.heap_1 w.params).lookup 228 = some o ∧ ∃ fd, o.data = .func fd := by
 refine' ex_look (P := fun o => ∃ fd, o.data = .func fd) ?hh ?pf
 case hh => k_is
 case pf => exact ⟨_, rfl⟩
noncomputable abbrev LF (L : Addr) (r n s : Option Value) (b : List (Str × Value)) (N : Led) : Led :=
 (L + 3, cellP s) :: (L + 2, cellP n) :: (L + 1, cellP r) :: (L, nsP b) :: (247, exP (tabObj #[])) :: (242, exP (tabObj #[])) :: (100, exP (tabObj #[])) :: N
section
variable {w : World} {A : Around} {E : Value → Shared → Prop} {h₀ h : Heap} {g : Array GenState} {d : Drawn} {t : Nat} {os : OsState} {mg mb : Str → Option Value} {K N : Led} {L fa sp sg dw : Addr} {cd : Value} {Q : Flow → Shared → Prop} {xs : List Int} {vs : List Value}
theorem law_2 (C : Cx w mg mb h₀) (hh : A.handled = none) (hd : A.depth + 3 < recursionLimit) (S : St h₀ ((dw, lsR isI (drawnOf xs)) :: (sg, lsR isS signsL) :: LF L none none none [("drawn", .ref dw), ("signs", .ref sg), ("script", .ref sp)] []) h)
  (q : ∀ rs Nr N h t, (∀ p ∈ Nr, p ∈ N) → (rs, lsR (rowR Nr) (WsOf xs)) ∈ N → (sg, lsR isS signsL) ∈ N → (dw, lsR isI (drawnOf xs)) ∈ N → St h₀ (LF L (some (.ref rs)) none none [("drawn", .ref dw), ("signs", .ref sg), ("script", .ref sp)] N) h → Q .next ⟨h, g, d, t, os⟩) :
  wpAny (model PP w) A (exec lS2.1 (lawEnv L fa cd)) Q E ⟨h, g, d, t, os⟩ := by
 refine xEAE (f228 w) fun o ho fd hfd => ?_
 dsimp only [lS2]
 refine k_Assign_Name ?_
 refine k_Call_Name_kw ?_
 refine name_G C S C.g_rows ?_
 refine cw_D (o := o) (fd := fd) ?_
 refine k_items_cons ?_
 refine name_L S (by exact rfl) (.tail _ (.tail _ (.tail _ (.tail _ (.tail _ (.head _)))))) (.head _) ?_
 refine k_items_cons ?_
 refine k_BinOp ?_
 refine name_L S (by exact rfl) (.tail _ (.tail _ (.tail _ (.tail _ (.tail _ (.head _)))))) (.tail _ (.head _)) ?_
 refine List_ ?_
 refine k_items_cons ?_; refine c_str ?_
 refine k_items_cons ?_; refine c_str ?_
 refine k_items_cons ?_; refine c_str ?_
 refine k_items_cons ?_; refine c_str ?_
 refine wpAny_items_nil ?_
 refine n_list S fun l4 h₁ S₁ => ?_
 replace S₁ := S₁.wk (.keep (lsR_of (R := isS) (xs := [("!" : Str), ("!" : Str), ("Z" : Str), ("Z" : Str)]) (.cons ⟨_, rfl⟩ (.cons ⟨_, rfl⟩ (.cons ⟨_, rfl⟩ (.cons ⟨_, rfl⟩ .nil))))) .refl)
 refine add_lr (R := isS) (xs := signsL) (ys := [("!" : Str), ("!" : Str), ("Z" : Str), ("Z" : Str)]) S₁ (.tail _ (.tail _ (.head _))) (.head _) (fun mn h₂ S₂ => ?_) (by decide +kernel)
 refine wpAny_items_nil ⟨⟨C.X.keeps S₂.keep _ _ ho, hfd⟩, wpAny_call ?_⟩
 refine rows_call (ns := drawnOf xs) (menu := menuL) C S₂ (by (exact Nat.le_of_lt (by assumption))) (by exact hh) (.tail _ (.tail _ (.head _))) (.head _) (by unfold drawnOf; rw [List.length_map]; exact List.length_take_le _ _) menu_len fun rs r0 r1 r2 r3 r4 h₃ t₃ S₃ => ?_
 refine store_C S₃ (by exact rfl) (.tail (.tail (.tail (.tail (.tail (.tail (.tail (.tail (.tail (.tail (.tail (.tail .head)))))))))))) fun h₄ S₄ => ?_
 let Nr : Led := [(r4, lsR isS (Wf xs 4)), (r3, lsR isS (Wf xs 3)), (r2, lsR isS (Wf xs 2)), (r1, lsR isS (Wf xs 1)), (r0, lsR isS (Wf xs 0))]
 have hr : All2 (rowR Nr) [.ref r0, .ref r1, .ref r2, .ref r3, .ref r4] (WsOf xs) :=
  .cons ⟨r0, rfl, .tail _ (.tail _ (.tail _ (.tail _ (.head _))))⟩ (.cons ⟨r1, rfl, .tail _ (.tail _ (.tail _ (.head _)))⟩ (.cons ⟨r2, rfl, .tail _ (.tail _ (.head _))⟩ (.cons ⟨r3, rfl, .tail _ (.head _)⟩ (.cons ⟨r4, rfl, .head _⟩ .nil))))
 have S₅ : St h₀ ([(rs, lsR (rowR Nr) (WsOf xs)), (r4, lsR isS (Wf xs 4)), (r3, lsR isS (Wf xs 3)), (r2, lsR isS (Wf xs 2)), (r1, lsR isS (Wf xs 1)), (r0, lsR isS (Wf xs 0)), (mn, lsR isS menuL), (l4, lsR isS [("!" : Str), ("!" : Str), ("Z" : Str), ("Z" : Str)]), (dw, lsR isI (drawnOf xs)), (sg, lsR isS signsL)] ++
   LF L (some (.ref rs)) none none [("drawn", .ref dw), ("signs", .ref sg), ("script", .ref sp)] []) h₄ := S₄.wk (.keep (lsR_of hr) .refl)
 refine q rs Nr [(rs, lsR (rowR Nr) (WsOf xs)), (r4, lsR isS (Wf xs 4)), (r3, lsR isS (Wf xs 3)), (r2, lsR isS (Wf xs 2)), (r1, lsR isS (Wf xs 1)), (r0, lsR isS (Wf xs 0)), (mn, lsR isS menuL), (l4, lsR isS [("!" : Str), ("!" : Str), ("Z" : Str), ("Z" : Str)]), (dw, lsR isI (drawnOf xs)), (sg, lsR isS signsL)] h₄ _
  (fun p hp => ?_) (.head _) (by simp) (by simp) (S₅.perm ?_)
 ·simp only [Nr, List.mem_cons, List.not_mem_nil, or_false] at hp ⊢
  rcases hp with h | h | h | h | h <;> simp [h]
 ·have := List.perm_append_comm (l₁ := LF L (some (.ref rs)) none none [("drawn", .ref dw), ("signs", .ref sg), ("script", .ref sp)] []) (l₂ := [(rs, lsR (rowR Nr) (WsOf xs)), (r4, lsR isS (Wf xs 4)), (r3, lsR isS (Wf xs 3)), (r2, lsR isS (Wf xs 2)), (r1, lsR isS (Wf xs 1)), (r0, lsR isS (Wf xs 0)), (mn, lsR isS menuL), (l4, lsR isS [("!" : Str), ("!" : Str), ("Z" : Str), ("Z" : Str)]), (dw, lsR isI (drawnOf xs)), (sg, lsR isS signsL)])
  exact this
end
end
section
noncomputable def joined (row : List Str) : Str := Txt.join " " row
noncomputable def lineT (k : Nat) (row : List Str) : Str := Txt.mul " " (k : Int) ++ letter k ++ Txt.mul " " ((k : Int).fmod 2) ++ "=" ++ Txt.mul " " ((k : Int).fmod 3) ++ joined row ++ Txt.mul "\t" (k : Int)
theorem len_app (x y : Str) : (x ++ y).length = x.length + y.length := Array.size_append
theorem mulOk1 {c : Str} (hc : c.length = 1) {n : Int} (h0 : 0 ≤ n) (h1 : n < 5) : MulOk c n := by
 unfold MulOk
 (refine (Eq.symm (hc)) ▸ ?_)
 have : n = 0 ∨ n = 1 ∨ n = 2 ∨ n = 3 ∨ n = 4 := by lia
 rcases this with rfl | rfl | rfl | rfl | rfl <;> decide
theorem mulLen {c : Str} (hc : c.length = 1) {n : Int} (h0 : 0 ≤ n) (h1 : n < 5) : (Txt.mul c n).length ≤ 5 := by
 have : n = 0 ∨ n = 1 ∨ n = 2 ∨ n = 3 ∨ n = 4 := by lia
 obtain ⟨a⟩ := c
 have ha : a.size = 1 := hc
 unfold Txt.mul
 rcases this with rfl | rfl | rfl | rfl | rfl
 ·exact Nat.zero_le 5
 ·simp [Str.length, ha]
 all_goals
  simp only [Str.length, ha]
  simp [List.replicate, ha]
theorem strs_off {vs : List Value} {ws : List Str} (a : All2 isS vs ws) : ∃ l : List (Str × Tok), vs = strValues l ∧ l.map (·.1) = ws := by
 induction a with
 | nil => exact ⟨[], rfl, rfl⟩
 | cons r _ ih =>
  obtain ⟨t, rfl⟩ := r
  (revert ih; intro zh; refine xEA zh fun l zq1 zq2 => ?_; clear zh; subst zq1; subst zq2)
  exact ⟨(_, t) :: l, rfl, rfl⟩
section
variable {prog : Program} {w : World} {A : Around} {E : Value → Shared → Prop} {h₀ h : Heap} {g : Array GenState} {d : Drawn} {t : Nat} {os : OsState} {K : Led}
theorem jn_S {sep : Str} {ts : Tok} {l : Addr} {ws : List Str} {Q : Value → Shared → Prop} (S : St h₀ K h) (m : (l, lsR isS ws) ∈ K) (hw : ∀ y ∈ ws, y.length ≤ 3) (hl : ws.length ≤ 100) (hs : sep.length ≤ 3) (q : ∀ t' k, Q (.str (Txt.join sep ws) t') ⟨h, g, d, k, os⟩) :
  wpAny (model prog w) A (call (.builtin "str.join") [.str sep ts, .ref l]) Q E ⟨h, g, d, t, os⟩ := by
 refine xEAA (S.openR m) fun vs a hv zu3 => ?_
 (refine xEA (strs_off a) fun ps zq1 e => ?_; subst zq1)
 refine SC.join (s := ⟨h, g, d, t, os⟩) hv e ?_ q
 unfold JoinOk
 rw [StrLaws.joinFits (B := 3) hw]
 ·rfl
 ·have : ws.length * sep.length ≤ 100 * 3 := Nat.mul_le_mul hl hs
  lia
structure RowsOk (xs : List Int) : Prop where
 len : ∀ k, k < 5 → (Wf xs k).length ≤ 26
 wlen : ∀ k, k < 5 → ∀ y ∈ Wf xs k, y.length ≤ 3
 jlen : ∀ k, k < 5 → (joined (Wf xs k)).length ≤ 200
 parse : ∀ k, k < 5 → ParseOk (lineT k (Wf xs k)) (letter k) (joined (Wf xs k))
theorem gm_join {M : Model} {x : Str} {tx : Tok} {pl : Sem Bool} {Q : Value × List Value → Shared → Prop} {s : Shared} (q : Q (.builtin "str.join", [.str x tx]) s) : wpAny M A (getMethod (.str x tx) "join" pl) Q E s := GM.join q
end
theorem perm_in {α : Type _} {X Nx N : List α} {a r : α} : (X ++ (a :: (Nx ++ r :: N))).Perm (a :: (Nx ++ r :: (X ++ N))) := by
 classical
 rw [List.perm_iff_count]; intro x
 simp only [List.count_cons, List.count_append]; lia
noncomputable def prsTo (xs : List Int) (i : Nat) : List (Str × Str) := (List.range i).map fun k => (letter k, joined (Wf xs k))
theorem prsTo_succ (xs : List Int) (i : Nat) : prsTo xs (i + 1) = prsTo xs i ++ [(letter i, joined (Wf xs i))] := by
 unfold prsTo
 (refine (Eq.symm (List.range_succ)) ▸ ?_; refine (Eq.symm (List.map_append)) ▸ ?_); rfl
theorem pairR_mono {N N' : Led} {v : Value} {y : Str × Str} (m : ∀ p ∈ N, p ∈ N') (x : pairR N v y) : pairR N' v y := by (revert x; intro zh; refine xEA zh fun p e a => ?_; clear zh); exact ⟨p, e, m _ a⟩
section
variable {w : World} {A : Around} {E : Value → Shared → Prop} {h₀ h : Heap} {g : Array GenState} {d : Drawn} {t : Nat} {os : OsState} {mg mb : Str → Option Value} {K N Nr : Led} {L fa sp sg dw rs : Addr} {cd : Value} {Q : Flow → Shared → Prop} {xs : List Int} {vs : List Value}
set_option maxHeartbeats 1000000 in
theorem law_3 (C : Cx w mg mb h₀) (hh : A.handled = none) (hd : A.depth + 12 < recursionLimit) (P : RowsOk xs) (hNr : ∀ p ∈ Nr, p ∈ N) (mrs : (rs, lsR (rowR Nr) (WsOf xs)) ∈ N) (S : St h₀ (LF L (some (.ref rs)) none none [("drawn", .ref dw), ("signs", .ref sg), ("script", .ref sp)] N) h)
  (q : ∀ pl Np N2 h t, (∀ p ∈ N, p ∈ N2) → (∀ p ∈ Np, p ∈ N2) → (pl, lsR (pairR Np) (prsTo xs 5)) ∈ N2 → St h₀ (LF L (some (.ref rs)) none none [("pairs", .ref pl), ("drawn", .ref dw), ("signs", .ref sg), ("script", .ref sp)] N2) h → Q .next ⟨h, g, d, t, os⟩) :
  wpAny (model PP w) A (exec lS3.1 (lawEnv L fa cd)) Q E ⟨h, g, d, t, os⟩ := by
 dsimp only [lS3]
 refine s_comp rfl rfl rfl (by decide) ?_
 refine k_Call_Name_kw ?_
 refine name_B C S C.b_range ?_
 refine PyProof.Rows.callWith_type rfl (ea_any rfl ?_)
 refine k_items_cons ?_
 refine c_int ?_
 refine wpAny_items_nil ?_
 refine mk_range (n := 5) S fun r h₁ t₁ S₁ => ?_
 refine it_range S₁ (.head _) (by decide) fun it h₂ S₂ => ?_
 refine comp_grS (b' := fun D => [("pairs", .ref D), ("drawn", .ref dw), ("signs", .ref sg), ("script", .ref sp)]) (K' := fun D => (r, rangeP 5) :: LF L (some (.ref rs)) none none [("pairs", .ref D), ("drawn", .ref dw), ("signs", .ref sg), ("script", .ref sp)] N)
  (srcRange (n := 5) hh it) pairR (fun m x => pairR_mono m x) (prsTo xs) rfl (by decide) rfl (fun _ => trivial) (fun _ _ _ _ => trivial) (by decide) S₂ rfl (fun D => .tail (.tail (.tail (.tail .head)))) (fun D => .new (by simp only [List.map_cons, List.map_nil]; decide)) ?turn ?done
 case turn =>
  intro i v ys Nx h₃ t₃ Cn D hi zr S₃ E'; obtain ⟨tk, rfl⟩ := zr
  have hws : (WsOf xs)[i]? = some (Wf xs i) := by
   rw [WsOf, List.getElem?_map, List.getElem?_range hi]; rfl
  refine asg_L S₃ (by exact rfl) .head (.new (by simp only [List.map_nil]; decide)) fun h₄ S₄ => ?_
  refine wpAny_tests_nil ?_
  refine if_t ?_
  refine k_MethodCall ?_
  refine name_G C S₄ C.g_pair ?_
  refine gm_parse C S₄ fun m h₅ S₅ => ?_
  refine cw_meth (self := .ref 203) (fn197 w) ?_
  have hf2a := fmod_ge (i : Int) (n := 2) (by decide)
  have hf2b := fmod_lt (i : Int) (n := 2) (by decide)
  have hf3a := fmod_ge (i : Int) (n := 3) (by decide)
  have hf3b := fmod_lt (i : Int) (n := 3) (by decide)
  have hm1 := mulLen (c := Str.ofString " ") (by decide) (n := (i : Int)) (by (exact Int.natCast_nonneg _)) (by lia)
  have hm2 := mulLen (c := Str.ofString " ") (by decide) (n := (i : Int).fmod 2) (by assumption) (by omega)
  have hm3 := mulLen (c := Str.ofString " ") (by decide) (n := (i : Int).fmod 3) (by assumption) (by omega)
  have hm4 := mulLen (c := Str.ofString "\t") (by decide) (n := (i : Int)) (by (exact Int.natCast_nonneg _)) (by lia)
  have hj := P.jlen i hi
  have hlt : (Txt.item (Str.ofString "ABCDE") (i : Int)).length = 1 := rfl
  have he1 : (Str.ofString "=").length = 1 := by decide
  have hpar := P.parse i hi
  have hline : lineT i (Wf xs i) = Txt.mul (Str.ofString " ") (i : Int) ++ Txt.item (Str.ofString "ABCDE") (i : Int) ++ Txt.mul (Str.ofString " ") ((i : Int).fmod 2) ++ Str.ofString "=" ++ Txt.mul (Str.ofString " ") ((i : Int).fmod 3) ++ joined (Wf xs i) ++ Txt.mul (Str.ofString "\t") (i : Int) := rfl
  rw [hline] at hpar
  clear hline
  have hb : ∀ n : Nat, n ≤ 1000 → n ≤ sizeLine := fun n hn => Nat.le_trans hn (by decide)
  refine k_items_cons ?_
  refine k_BinOp ?_
  refine k_BinOp ?_
  refine k_BinOp ?_
  refine k_BinOp ?_
  refine k_BinOp ?_
  refine k_BinOp ?_
  refine k_BinOp ?_
  refine c_str ?_
  refine name_L S₅ (by exact rfl) (.tail _ (.head _)) (.head _) ?_
  refine SB.mul (mulOk1 (by decide) (by (exact Int.natCast_nonneg _)) (by lia)) fun u1 k1 => ?_
  generalize Txt.mul (Str.ofString " ") (i : Int) = y1 at hm1 hpar ⊢
  refine k_Subscript ?_
  refine c_str ?_
  refine name_L S₅ (by exact rfl) (.tail _ (.head _)) (.head _) ?_
  refine str_item (fitsSsize_of (N := 100) (by (exact Int.natCast_nonneg _)) (by lia) (by decide)) ?_ ?_ ?_
  ·show -((5 : Nat) : Int) ≤ _; (exact Int.natCast_nonneg _)
  ·show _ < ((5 : Nat) : Int); lia
  generalize Txt.item (Str.ofString "ABCDE") (i : Int) = y2 at hlt hpar ⊢
  refine PyProof.Rows.add_str (fun u2 k2 => ?_) (hb _ (by first | lia | (simp only [len_app]; omega)))
  refine k_BinOp ?_
  refine c_str ?_
  refine k_BinOp ?_
  refine name_L S₅ (by exact rfl) (.tail _ (.head _)) (.head _) ?_
  refine c_int ?_
  refine mod_ii ?_
  refine SB.mul (mulOk1 (by decide) (by assumption) (by omega)) fun u3 k3 => ?_
  generalize Txt.mul (Str.ofString " ") ((i : Int).fmod 2) = y3 at hm2 hpar ⊢
  refine PyProof.Rows.add_str (fun u4 k4 => ?_) (hb _ (by first | omega | (simp only [len_app]; lia)))
  refine c_str ?_
  generalize Str.ofString "=" = ye at he1 hpar ⊢
  refine PyProof.Rows.add_str (fun u5 k5 => ?_) (hb _ (by first | omega | (simp only [len_app]; lia)))
  refine k_BinOp ?_
  refine c_str ?_
  refine k_BinOp ?_
  refine name_L S₅ (by exact rfl) (.tail _ (.head _)) (.head _) ?_
  refine c_int ?_
  refine mod_ii ?_
  refine SB.mul (mulOk1 (by decide) (by assumption) (by omega)) fun u6 k6 => ?_
  generalize Txt.mul (Str.ofString " ") ((i : Int).fmod 3) = y4 at hm3 hpar ⊢
  refine PyProof.Rows.add_str (fun u7 k7 => ?_) (hb _ (by first | omega | (simp only [len_app]; lia)))
  refine k_MethodCall ?_
  refine c_str ?_
  refine gm_join ?_
  refine cw_B ?_
  refine k_items_cons ?_
  refine k_Subscript ?_
  have mN : ∀ {p : Addr × Pr}, p ∈ N → p ∈ (m, exP (methodObj (.ref 197) (.ref 203))) :: (Cn, nsP [("k", .int i tk)]) :: (D, lsP ys) :: (it, rgP 5 (i + 1)) :: (Nx ++ (r, rangeP 5) :: LF L (some (.ref rs)) none none [("drawn", .ref dw), ("signs", .ref sg), ("script", .ref sp)] N) :=
   fun hp => .tail _ (.tail _ (.tail _ (.tail _ (List.mem_append_right _ (.tail _ (.tail _ (.tail _ (.tail _ (.tail _ (.tail _ (.tail _ (.tail _ hp))))))))))))
  have mC : (L + 1, cellP (some (.ref rs))) ∈ (m, exP (methodObj (.ref 197) (.ref 203))) :: (Cn, nsP [("k", .int i tk)]) :: (D, lsP ys) :: (it, rgP 5 (i + 1)) :: (Nx ++ (r, rangeP 5) :: LF L (some (.ref rs)) none none [("drawn", .ref dw), ("signs", .ref sg), ("script", .ref sp)] N) :=
   .tail _ (.tail _ (.tail _ (.tail _ (List.mem_append_right _ (.tail _ (.tail _ (.tail _ (.head _))))))))
  refine name_C S₅ (by exact rfl) mC ?_
  refine name_L S₅ (by exact rfl) (.tail _ (.head _)) (.head _) ?_
  refine lr_item (R := rowR Nr) (xs := WsOf xs) (y := Wf xs i) S₅ (mN mrs) (by (exact Int.natCast_nonneg _)) (by lia) (by exact hws) fun v hv => ?_
  (revert hv; intro zh; refine xEA zh fun ra ev mra => ?_; clear zh)
  subst ev
  refine wpAny_items_nil ?_
  refine jn_S S₅ (mN (hNr _ mra)) (P.wlen i hi) (by have := P.len i hi; (exact Nat.le_trans (by assumption) (by decide))) (by decide) fun u8 k8 => ?_
  change (Txt.join (Str.ofString " ") (Wf xs i)).length ≤ 200 at hj
  change ParseOk (_ ++ Txt.join (Str.ofString " ") (Wf xs i) ++ _) _ _ at hpar
  generalize hjj : Txt.join (Str.ofString " ") (Wf xs i) = y5 at hj hpar ⊢
  refine PyProof.Rows.add_str (fun u9 k9 => ?_) (hb _ (by first | omega | (simp only [len_app]; lia)))
  refine k_BinOp ?_
  refine c_str ?_
  refine name_L S₅ (by exact rfl) (.tail _ (.head _)) (.head _) ?_
  refine SB.mul (mulOk1 (by decide) (by (exact Int.natCast_nonneg _)) (by lia)) fun u10 k10 => ?_
  generalize Txt.mul (Str.ofString "\t") (i : Int) = y6 at hm4 hpar ⊢
  refine PyProof.Rows.add_str (fun u11 k11 => ?_) (hb _ (by first | omega | (simp only [len_app]; lia)))
  (refine xEA (S₅.get (.head _)) fun om hom zq2 => ?_; subst zq2)
  refine wpAny_items_nil ⟨⟨hom, C.X.keeps S₅.keep⟩, wpAny_call ?_⟩
  refine parse_call C S₅ (.head _) (by exact hd) (by exact hh) hpar fun p h₆ t₆ S₆ => ?_
  refine (GE_in h₆ t₆ ([("k", .int i tk)]) ([(p, prP (letter i) (joined (Wf xs i)))]) ((letter i, joined (Wf xs i))) rfl (prsTo_succ xs i) (⟨p, rfl, .head _⟩) (?_))
  exact Sl3' (S₆.sub (.cons_cons _ (.cons _ (List.Sublist.refl _))))
 case done =>
  intro Nx h₃ t₃ pl S₃
  refine q pl Nx ((pl, lsR (pairR Nx) (prsTo xs 5)) :: (Nx ++ (r, rangeP 5) :: N)) h₃ t₃ (fun p hp => .tail _ (List.mem_append_right _ (.tail _ hp))) (fun p hp => .tail _ (List.mem_append_left _ hp)) (.head _) (S₃.perm ?_)
  exact perm_in (X := LF L (some (.ref rs)) none none [("pairs", .ref pl), ("drawn", .ref dw), ("signs", .ref sg), ("script", .ref sp)] [])
end
end
section
noncomputable def ssR (N : Led) (v : Value) (y : Str × Str) : Prop := ∃ p t1 t2, v = .ref p ∧ (p, tpP [.str y.1 t1, .str y.2 t2]) ∈ N
theorem ssR_mono {N N' : Led} {v : Value} {y : Str × Str} (m : ∀ p ∈ N, p ∈ N') (x : ssR N v y) : ssR N' v y := by (revert x; intro zh; refine xEEEA zh fun p t1 t2 e a => ?_; clear zh); exact ⟨p, t1, t2, e, m _ a⟩
noncomputable def dSS (y : Str × Str) : PyData := .tuple [.str y.1, .str y.2]
theorem take_succ_get {α : Type} {xs : List α} {i : Nat} {y : α} (h : xs[i]? = some y) : xs.take (i + 1) = xs.take i ++ [y] := by (refine (Eq.symm (List.take_add_one)) ▸ ?_; refine (Eq.symm (h)) ▸ ?_); rfl
section
variable {w : World} {A : Around} {E : Value → Shared → Prop} {h₀ h : Heap} {g : Array GenState} {d : Drawn} {t : Nat} {os : OsState} {mg mb : Str → Option Value} {K N Nr Np : Led} {L fa sp sg dw rs pl : Addr} {cd : Value} {Q : Flow → Shared → Prop} {xs : List Int} {vs : List Value}
theorem rd_ss (S : St h₀ K h) (m : ∀ p ∈ N, p ∈ K) (v : Value) (y : Str × Str) (x : ssR N v y) : ∃ as, Reads h v (dSS y) as := by
 (revert x; intro zh; refine xEEEA zh fun p t1 t2 zq3 mp => ?_; clear zh; subst zq3)
 exact rd_tup S (m _ mp) (.cons (.str _ _) (.cons (.str _ _) .nil))
theorem letter_ok (k : Nat) (hk : k < 5) : PyData.strOk (letter k) = true := by
 have key : ∀ k, k < 5 → PyData.strOk (letter k) = true := by decide +kernel
 exact key k hk
theorem law_4 (C : Cx w mg mb h₀) (hh : A.handled = none) (hd : A.depth + 12 < recursionLimit) (hun : A.units + 64 < cLine) (P : RowsOk xs) (jok : ∀ k, k < 5 → PyData.strOk (joined (Wf xs k)) = true) (hNr : ∀ p ∈ Nr, p ∈ N) (mrs : (rs, lsR (rowR Nr) (WsOf xs)) ∈ N)
  (hNp : ∀ p ∈ Np, p ∈ N) (mpl : (pl, lsR (pairR Np) (prsTo xs 5)) ∈ N) (S : St h₀ (LF L (some (.ref rs)) none none [("pairs", .ref pl), ("drawn", .ref dw), ("signs", .ref sg), ("script", .ref sp)] N) h)
  (q : ∀ h t, St h₀ (LF L (some (.ref rs)) none none [("pairs", .ref pl), ("drawn", .ref dw), ("signs", .ref sg), ("script", .ref sp)] N) h → Q .next ⟨h, g, d, t, os⟩) :
  wpAny (model PP w) A (exec lS4.1 (lawEnv L fa cd)) Q E ⟨h, g, d, t, os⟩ := by
 have mG : ∀ {p : Addr × Pr}, p ∈ N → p ∈ LF L (some (.ref rs)) none none [("pairs", .ref pl), ("drawn", .ref dw), ("signs", .ref sg), ("script", .ref sp)] N :=
  fun hp => .tail _ (.tail _ (.tail _ (.tail _ (.tail _ (.tail _ (.tail _ hp))))))
 dsimp only [lS4]
 refine k_If ?_
 refine k_isTrue_Compare1 ?_
 refine e_comp rfl rfl (by decide) ?_
 refine name_L S (by exact rfl) (.tail _ (.tail _ (.tail _ (.head _)))) (.head _) ?_
 refine it_lr S (mG mpl) fun it h₁ S₁ => ?_
 refine comp_gr (srcR (R := pairR Np) (xs := prsTo xs 5) (l := pl) hh it) ssR (fun m x => ssR_mono m x) (fun i => (prsTo xs 5).take i) rfl (by decide) rfl (fun Nx => List.mem_append_right _ (mG mpl)) (fun _ _ _ m => .tail _ (.tail _ m)) (by rw [prsTo, List.length_map, List.length_range]; decide) S₁ ?turn ?done
 case turn =>
  intro i v ys Nx h₂ t₂ Cn D hi zr S₂ E'; (revert zr; intro zh; refine xEAEA zh fun y hy p zq3 mp => ?_; clear zh; subst zq3)
  have mp' : ∀ {b : List (Str × Value)}, (p, prP y.1 y.2) ∈ (Cn, nsP b) :: (D, lsP ys) :: (it, itP pl (i + 1)) :: (Nx ++ LF L (some (.ref rs)) none none [("pairs", .ref pl), ("drawn", .ref dw), ("signs", .ref sg), ("script", .ref sp)] N) :=
   .tail _ (.tail _ (.tail _ (List.mem_append_right _ (mG (hNp _ mp)))))
  refine asg_L S₂ (by exact rfl) .head (.new (by simp only [List.map_nil]; decide)) fun h₃ S₃ => ?_
  refine wpAny_tests_nil ?_
  refine if_t ?_
  refine k_Tuple ?_
  refine k_items_cons ?_
  refine Attribute_any_ ?_
  refine name_L S₃ (by exact rfl) (.head _) (.head _) ?_
  refine pr_getName C S₃ (by lia) mp' fun h₄ t₄ u S₄ => ?_
  refine k_items_cons ?_
  refine Attribute_any_ ?_
  refine name_L S₄ (by exact rfl) (.head _) (.head _) ?_
  refine pr_getValue C S₄ (by lia) mp' fun h₅ t₅ u2 S₅ => ?_
  refine wpAny_items_nil ?_
  refine n_tup S₅ fun tp h₆ S₆ => ?_
  exact (GE_in h₆ _ ([("pair", .ref p)]) ([(tp, tpP [.str y.1 u, .str y.2 u2])]) y rfl (take_succ_get hy) (⟨tp, u, u2, rfl, .head _⟩) (Sl3' S₆))
 case done =>
  intro Nx h₂ t₂ l1 S₂
  rw [List.take_length] at S₂
  refine e_comp rfl rfl (by decide) ?_
  refine k_Call_Name_kw ?_
  refine name_B C S₂ C.b_range ?_
  refine PyProof.Rows.callWith_type rfl (ea_any rfl ?_)
  refine k_items_cons ?_
  refine c_int ?_
  refine wpAny_items_nil ?_
  refine mk_range (n := 5) S₂ fun r h₃ t₃ S₃ => ?_
  refine it_range S₃ (.head _) (by decide) fun it h₄ S₄ => ?_
  refine comp_gr (srcRange (n := 5) hh it) ssR (fun m x => ssR_mono m x) (prsTo xs) rfl (by decide) rfl (fun Nx => trivial) (fun _ _ _ m => trivial) (by decide) S₄ ?turn2 ?done2
  case turn2 =>
   intro i v ys Nx2 h₅ t₅ Cn D hi zr S₅ E'; obtain ⟨tk, rfl⟩ := zr
   have hws : (WsOf xs)[i]? = some (Wf xs i) := by
    rw [WsOf, List.getElem?_map, List.getElem?_range hi]; rfl
   refine asg_L S₅ (by exact rfl) .head (.new (by simp only [List.map_nil]; decide)) fun h₆ S₆ => ?_
   refine wpAny_tests_nil ?_
   refine if_t ?_
   refine k_Tuple ?_
   refine k_items_cons ?_
   refine k_Subscript ?_
   refine c_str ?_
   refine name_L S₆ (by exact rfl) (.head _) (.head _) ?_
   refine str_item (fitsSsize_of (N := 100) (by (exact Int.natCast_nonneg _)) (by lia) (by decide)) ?_ ?_ ?_
   ·show -((5 : Nat) : Int) ≤ _; (exact Int.natCast_nonneg _)
   ·show _ < ((5 : Nat) : Int); lia
   refine k_items_cons ?_
   refine k_MethodCall ?_
   refine c_str ?_
   refine gm_join ?_
   refine cw_B ?_
   refine k_items_cons ?_
   refine k_Subscript ?_
   have mN : ∀ {p : Addr × Pr}, p ∈ LF L (some (.ref rs)) none none [("pairs", .ref pl), ("drawn", .ref dw), ("signs", .ref sg), ("script", .ref sp)] N → p ∈ (Cn, nsP [("k", .int i tk)]) :: (D, lsP ys) :: (it, rgP 5 (i + 1)) :: (Nx2 ++ (r, rangeP 5) :: (l1, lsR (ssR Nx) (prsTo xs 5)) :: (Nx ++ LF L (some (.ref rs)) none none [("pairs", .ref pl), ("drawn", .ref dw), ("signs", .ref sg), ("script", .ref sp)] N)) :=
    fun hp => .tail _ (.tail _ (.tail _ (List.mem_append_right _ (.tail _ (.tail _ (List.mem_append_right _ hp))))))
   refine name_C S₆ (by exact rfl) (mN (.tail _ (.tail _ (.head _)))) ?_
   refine name_L S₆ (by exact rfl) (.head _) (.head _) ?_
   refine lr_item (R := rowR Nr) (xs := WsOf xs) (y := Wf xs i) S₆ (mN (mG mrs)) (by (exact Int.natCast_nonneg _)) (by lia) (by exact hws) fun v hv => ?_
   (revert hv; intro zh; refine xEA zh fun ra ev mra => ?_; clear zh)
   subst ev
   refine wpAny_items_nil ?_
   refine jn_S S₆ (mN (mG (hNr _ mra))) (P.wlen i hi) (by have := P.len i hi; (exact Nat.le_trans (by assumption) (by decide))) (by decide) fun u8 k8 => ?_
   refine wpAny_items_nil ?_
   refine n_tup S₆ fun tp h₇ S₇ => ?_
   exact (GE_in h₇ _ ([("k", .int i tk)]) ([(tp, tpP [.str (letter i) _, .str (joined (Wf xs i)) u8])]) ((letter i, joined (Wf xs i))) rfl (prsTo_succ xs i) (⟨tp, _, u8, rfl, .head _⟩) (Sl3' S₇))
  case done2 =>
   intro Nx2 h₅ t₅ l2 S₅
   refine ne_reads (n := 3) (d₁ := .list ((prsTo xs 5).map dSS)) (rd_list (rd_ss (N := Nx) S₅ fun p hp => .tail _ (List.mem_append_right _ (.tail _ (.tail _ (List.mem_append_left _ hp))))) S₅ (.tail _ (List.mem_append_right _ (.tail _ (.head _)))))
    (rd_list (rd_ss (N := Nx2) S₅ fun p hp => .tail _ (List.mem_append_left _ hp)) S₅ (.head _)) ?_ (by decide) (by exact hun) ?_
   ·refine okd_list fun d hd => ?_
    (refine xEA (List.mem_map.mp hd) fun y hy zq2 => ?_; subst zq2)
    (refine xEA (List.mem_map.mp hy) fun k hk zq2 => ?_; subst zq2)
    rw [List.mem_range] at hk
    refine okd_tuple fun d hd => ?_
    rcases List.mem_cons.mp hd with rfl | hd
    ·exact okd_str (letter_ok k hk)
    rcases List.mem_cons.mp hd with rfl | hd
    ·exact okd_str (jok k hk)
    ·cases hd
   ·refine tr_b ?_
    refine if_f ?_
    refine wpAny_execs_nil ?_
    exact q h₅ t₅ (S₅.sub (.cons _ (List.sublist_append_of_sublist_right (.cons _ (.cons _ (List.sublist_append_of_sublist_right (List.Sublist.refl _)))))))
end
end
section
theorem perm_out {α : Type _} {X Y N l : List α} {a b c : α} : (X ++ (a :: b :: c :: (l ++ (Y ++ N)))).Perm (a :: b :: c :: (l ++ (Y ++ (X ++ N)))) := by
 classical
 rw [List.perm_iff_count]; intro x
 simp only [List.count_cons, List.count_append]; lia
structure NumOk (w : World) (mg : Str → Option Value) (x r : Addr) (ns : List Str) (specs : List (Int × List Int)) (cz : Addr) (N : Led) : Prop where
 hx : 108 < x
 hr : 108 < r
 num : ∃ dx f cf cell lz cellz ctv ctvz, (x, numP w dx f ns) ∈ N ∧ (dx, fzP (some (.ref lz))) ∈ N ∧ (f, exP (nlObj mg cell cf ctv)) ∈ N ∧ (cf, codP nlQ) ∈ N ∧ (cell, cellP (some (.ref x))) ∈ N ∧ (lz, exP (lzObj mg cellz cz ctvz)) ∈ N ∧ (cz, codP lzQ) ∈ N ∧ (cellz, cellP (some (.ref x))) ∈ N
 rules : ∃ kvs, (r, dP (intKind PP w) (.type "dict") none #[] kvs) ∈ N ∧ rulesK kvs N specs
 fz : (100, exP (fzTab cz)) ∈ N
 tab : ∃ ps, (242, exP (tabObj ps)) ∈ N
theorem NumOk.mono {w mg x r ns specs cz} {N N' : Led} (m : ∀ p ∈ N, p ∈ N') (a : NumOk w mg x r ns specs cz N) : NumOk w mg x r ns specs cz N' where
 hx := a.hx
 hr := a.hr
 num := by refine xEEEEEEEEAAAAAAA (a.num) fun dx f cf cell lz cellz ctv ctvz a1 a2 a3 a4 a5 a6 a7 a8 => ?_; exact ⟨dx, f, cf, cell, lz, cellz, ctv, ctvz, m _ a1, m _ a2, m _ a3, m _ a4, m _ a5, m _ a6, m _ a7, m _ a8⟩
 rules := by refine xEA (a.rules) fun kvs a1 a2 => ?_; exact ⟨kvs, m _ a1, (rulesK_mono (fun _ f => m _ f) a2)⟩
 fz := m _ a.fz
 tab := by obtain ⟨ps, e⟩ := a.tab; exact ⟨ps, m _ e⟩
theorem f245 (w : World) : ∃ o, (hd.heap_1 w.params).lookup 245 = some o ∧ ∃ fd, o.data = .func fd := by
 refine' ex_look (P := fun o => ∃ fd, o.data = .func fd) ?hh ?pf
 case hh => k_is
 case pf => exact ⟨_, rfl⟩
theorem f233 (w : World) : ∃ o, (hd.heap_1 w.params).lookup 233 = some o ∧ ∃ fd, o.data = .func fd := by
 refine' ex_look (P := fun o => ∃ fd, o.data = .func fd) ?hh ?pf
 case hh => k_is
 case pf => exact ⟨_, rfl⟩
noncomputable abbrev LG (L : Addr) (r n s : Option Value) (b : List (Str × Value)) (N : Led) : Led :=
 (L + 3, cellP s) :: (L + 2, cellP n) :: (L + 1, cellP r) :: (L, nsP b) :: (247, exP (tabObj #[])) :: N
section
variable {w : World} {A : Around} {E : Value → Shared → Prop} {h₀ h : Heap} {g : Array GenState} {d : Drawn} {t : Nat} {os : OsState} {mg mb : Str → Option Value} {K N Nr Np : Led} {L fa sp sg dw rs pl : Addr} {cd : Value} {Q : Flow → Shared → Prop} {xs : List Int} {vs : List Value}
theorem law_5 (C : Cx w mg mb h₀) (hh : A.handled = none) (hd : A.depth + 20 < recursionLimit) (hwords : ∀ p ∈ prsTo xs 5, (Txt.words p.2).length ≤ 30 ∧ p.2.length ≤ 2000) (hnd : ((readAll (prsTo xs 5)).2.map (·.1)).Nodup)
  (hNp : ∀ p ∈ Np, p ∈ N) (mpl : (pl, lsR (pairR Np) (prsTo xs 5)) ∈ N) (S : St h₀ (LF L (some (.ref rs)) none none [("pairs", .ref pl), ("drawn", .ref dw), ("signs", .ref sg), ("script", .ref sp)] N) h)
  (q : ∀ x r cz N2 h t, (∀ p ∈ N, p ∈ N2) → NumOk w mg x r (readAll (prsTo xs 5)).1 (readAll (prsTo xs 5)).2 cz N2 →
   St h₀ (LG L (some (.ref rs)) (some (.ref x)) none [("rules", .ref r), ("pairs", .ref pl), ("drawn", .ref dw), ("signs", .ref sg), ("script", .ref sp)] N2) h → Q .next ⟨h, g, d, t, os⟩) :
  wpAny (model PP w) A (exec lS5.1 (lawEnv L fa cd)) Q E ⟨h, g, d, t, os⟩ := by
 refine xEAE (f245 w) fun o ho fd hfd => ?_
 dsimp only [lS5]
 refine Assign_Tuple ?_
 refine k_Call_Name_kw ?_
 refine name_G C S C.g_read ?_
 refine cw_D (o := o) (fd := fd) ?_
 refine k_items_cons ?_
 refine name_L S (by exact rfl) (.tail _ (.tail _ (.tail _ (.head _)))) (.head _) ?_
 refine wpAny_items_nil ⟨⟨C.X.keeps S.keep _ _ ho, hfd⟩, wpAny_call ?_⟩
 have S₁ := (S.take (.tail (.tail (.tail (.tail (.tail (.tail .head))))))).take (.tail (.tail (.tail (.tail (.tail (.tail .head))))))
 refine read_call (Np := Np) (prs := prsTo xs 5) C S₁ (by assumption) (by exact hh) (fun p hp => .tail _ (.tail _ (.tail _ (.tail _ (.tail _ (hNp p hp)))))) (.tail _ (.tail _ (.tail _ (.tail _ (.tail _ mpl))))) (by rw [prsTo, List.length_map, List.length_range]; decide) hwords hnd ?_
 intro tp x dx r kvs lists f cf cell lz cz cellz ctv ctvz h₂ t₂ hx hr hrk S₂
 refine asg_T hh S₂ (.head _) rfl rfl fun h₃ S₃ => ?_
 have S₄ : St h₀ (LG L (some (.ref rs)) none none [("pairs", .ref pl), ("drawn", .ref dw), ("signs", .ref sg), ("script", .ref sp)]
  ((tp, tpP [.ref x, .ref r]) :: (x, numP w dx f (readAll (prsTo xs 5)).1) :: (r, dP (intKind PP w) (.type "dict") none #[] kvs) :: (lists ++ ((lz, exP (lzObj mg cellz cz ctvz)) :: (cz, codP lzQ) :: (cellz, cellP (some (.ref x))) :: (dx, fzP (some (.ref lz))) :: (f, exP (nlObj mg cell cf ctv)) :: (cf, codP nlQ) :: (cell, cellP (some (.ref x))) :: (242, exP (tabObj #[rawInt 164, rawInt 35, .ref cf])) :: (100, exP (fzTab cz)) :: N)))) h₃ := by
  refine S₃.perm ?_
  exact perm_out (X := LG L (some (.ref rs)) none none [("pairs", .ref pl), ("drawn", .ref dw), ("signs", .ref sg), ("script", .ref sp)] []) (Y := [(lz, exP (lzObj mg cellz cz ctvz)), (cz, codP lzQ), (cellz, cellP (some (.ref x))), (dx, fzP (some (.ref lz))), (f, exP (nlObj mg cell cf ctv)), (cf, codP nlQ), (cell, cellP (some (.ref x))), (242, exP (tabObj #[rawInt 164, rawInt 35, .ref cf])), (100, exP (fzTab cz))])
 refine assignInOrder_cons ?_
 refine wpAny_assign_Name (store_C S₄ (by exact rfl) (.tail .head) fun h₅ S₅ => ?_)
 refine assignInOrder_cons ?_
 refine asg_L S₅ (by exact rfl) (.tail (.tail (.tail .head))) (.new (by simp only [List.map_cons, List.map_nil]; decide)) fun h₆ S₆ => ?_
 refine assignInOrder_nil ?_
 refine q x r cz _ h₆ _ (fun p hp => ?_) ⟨hx, hr, ⟨dx, f, cf, cell, lz, cellz, ctv, ctvz, ?_, ?_, ?_, ?_, ?_, ?_, ?_, ?_⟩, ⟨kvs, ?_, ?_⟩, ?_, ⟨#[rawInt 164, rawInt 35, .ref cf], ?_⟩⟩ S₆
 ·exact .tail _ (.tail _ (.tail _ (List.mem_append_right _ (.tail _ (.tail _ (.tail _ (.tail _ (.tail _ (.tail _ (.tail _ (.tail _ (.tail _ hp))))))))))))
 ·exact .tail _ (.head _)
 ·exact .tail _ (.tail _ (.tail _ (List.mem_append_right _ (.tail _ (.tail _ (.tail _ (.head _)))))))
 ·exact .tail _ (.tail _ (.tail _ (List.mem_append_right _ (.tail _ (.tail _ (.tail _ (.tail _ (.head _))))))))
 ·exact .tail _ (.tail _ (.tail _ (List.mem_append_right _ (.tail _ (.tail _ (.tail _ (.tail _ (.tail _ (.head _)))))))))
 ·exact .tail _ (.tail _ (.tail _ (List.mem_append_right _ (.tail _ (.tail _ (.tail _ (.tail _ (.tail _ (.tail _ (.head _))))))))))
 ·exact .tail _ (.tail _ (.tail _ (List.mem_append_right _ (.head _))))
 ·exact .tail _ (.tail _ (.tail _ (List.mem_append_right _ (.tail _ (.head _)))))
 ·exact .tail _ (.tail _ (.tail _ (List.mem_append_right _ (.tail _ (.tail _ (.head _))))))
 ·exact .tail _ (.tail _ (.head _))
 ·exact (rulesK_mono (fun _ f => .tail _ (.tail _ (.tail _ (List.mem_append_left _ f)))) hrk)
 ·exact .tail _ (.tail _ (.tail _ (List.mem_append_right _ (.tail _ (.tail _ (.tail _ (.tail _ (.tail _ (.tail _ (.tail _ (.tail _ (.head _))))))))))))
 ·exact .tail _ (.tail _ (.tail _ (List.mem_append_right _ (.tail _ (.tail _ (.tail _ (.tail _ (.tail _ (.tail _ (.tail _ (.head _)))))))))))
end
end
section
noncomputable def jkOf (xs : List Int) (k : Nat) : Nat := (idx (seenF (WsOf xs)) (letter k)).getD 0
noncomputable def dueSpecs (xs : List Int) : List (Int × List Int) := (List.range 5).map fun k => (256 + (jkOf xs k : Int), (Wf xs k).map (dueNum (seenF (WsOf xs)) signsL))
structure DueOk (w : World) (dc sn : Addr) (xs : List Int) (N : Led) : Prop where
 hdc : 108 < dc
 seen : (sn, lsR isS (seenF (WsOf xs))) ∈ N
 due : ∃ kvs, (dc, dP (intKind PP w) (.type "dict") none #[] kvs) ∈ N ∧ rulesK kvs N (dueSpecs xs)
theorem DueOk.mono {w dc sn xs} {N N' : Led} (m : ∀ p ∈ N, p ∈ N') (a : DueOk w dc sn xs N) : DueOk w dc sn xs N' where
 hdc := a.hdc
 seen := m _ a.seen
 due := by refine xEA (a.due) fun kvs a1 a2 => ?_; exact ⟨kvs, m _ a1, (rulesK_mono (fun _ f => m _ f) a2)⟩
theorem ws_getD (xs : List Int) (k : Nat) (hk : k < 5) : (WsOf xs).getD k [] = Wf xs k := by
 rw [List.getD_eq_getElem?_getD, WsOf, List.getElem?_map, List.getElem?_range hk]; rfl
theorem mem_ws {xs : List Int} {ws : List Str} (h : ws ∈ WsOf xs) : ∃ k, k < 5 ∧ ws = Wf xs k := by
 (refine xEA (List.mem_map.mp h) fun k hk zq2 => ?_; subst zq2)
 exact ⟨k, List.mem_range.mp hk, rfl⟩
theorem perm_out2 {α : Type _} {X N l : List α} {a b : α} : (X ++ (a :: b :: (l ++ N))).Perm (a :: b :: (l ++ (X ++ N))) := by
 classical
 rw [List.perm_iff_count]; intro x
 simp only [List.count_cons, List.count_append]; lia
section
variable {w : World} {A : Around} {E : Value → Shared → Prop} {h₀ h : Heap} {g : Array GenState} {d : Drawn} {t : Nat} {os : OsState} {mg mb : Str → Option Value} {K N Nr Np : Led} {L fa sp sg dw rs pl x r : Addr} {cd : Value} {Q : Flow → Shared → Prop} {xs : List Int} {vs : List Value}
theorem law_6 (C : Cx w mg mb h₀) (hh : A.handled = none) (hd : A.depth + 20 < recursionLimit) (P : RowsOk xs) (hNr : ∀ p ∈ Nr, p ∈ N) (mrs : (rs, lsR (rowR Nr) (WsOf xs)) ∈ N) (msg : (sg, lsR isS signsL) ∈ N)
  (hin : ∀ k, k < 5 → ∀ y ∈ Wf xs k, idx (seenF (WsOf xs)) y = none → (idx signsL y).isSome = true) (hjk : ∀ k, k < 5 → (idx (seenF (WsOf xs)) (letter k)).isSome = true)
  (S : St h₀ (LG L (some (.ref rs)) (some (.ref x)) none [("rules", .ref r), ("pairs", .ref pl), ("drawn", .ref dw), ("signs", .ref sg), ("script", .ref sp)] N) h)
  (q : ∀ sn dc N2 h t, (∀ p ∈ N, p ∈ N2) → DueOk w dc sn xs N2 →
   St h₀ (LG L (some (.ref rs)) (some (.ref x)) (some (.ref sn)) [("due", .ref dc), ("rules", .ref r), ("pairs", .ref pl), ("drawn", .ref dw), ("signs", .ref sg), ("script", .ref sp)] N2) h → Q .next ⟨h, g, d, t, os⟩) :
  wpAny (model PP w) A (exec lS6.1 (lawEnv L fa cd)) Q E ⟨h, g, d, t, os⟩ := by
 refine xEAE (f233 w) fun o ho fd hfd => ?_
 have mG : ∀ {p : Addr × Pr}, p ∈ N → p ∈ LG L (some (.ref rs)) (some (.ref x)) none [("rules", .ref r), ("pairs", .ref pl), ("drawn", .ref dw), ("signs", .ref sg), ("script", .ref sp)] N :=
  fun hp => .tail _ (.tail _ (.tail _ (.tail _ (.tail _ hp))))
 have hj : ∀ k, k < 5 → idx (seenF (WsOf xs)) (letter k) = some (jkOf xs k) := by
  intro k hk
  obtain ⟨j, e⟩ := Option.isSome_iff_exists.mp (hjk k hk)
  rw [jkOf, e]; rfl
 dsimp only [lS6]
 refine Assign_Tuple ?_
 refine k_Call_Name_kw ?_
 refine name_G C S C.g_due ?_
 refine cw_D (o := o) (fd := fd) ?_
 refine k_items_cons ?_
 refine name_C S (by exact rfl) (.tail _ (.tail _ (.head _))) ?_
 refine k_items_cons ?_
 refine name_L S (by exact rfl) (.tail _ (.tail _ (.tail _ (.head _)))) (.tail _ (.tail _ (.tail _ (.head _)))) ?_
 refine wpAny_items_nil ⟨⟨C.X.keeps S.keep _ _ ho, hfd⟩, wpAny_call ?_⟩
 refine due_call (Nr := Nr) (Ws := WsOf xs) (signs := signsL) (jk := jkOf xs) C S (by (exact Nat.lt_of_le_of_lt (Nat.le_add_right _ _) (by assumption))) (by exact hh) (fun p hp => mG (hNr p hp)) (mG mrs) (by rw [WsOf, List.length_map, List.length_range]) (fun ws hws => ?_) (mG msg) (by decide) (fun ws hws => ?_) hj ?_
 ·(refine xEA (mem_ws hws) fun k hk zq2 => ?_; subst zq2)
  have := P.len k hk; (exact Nat.le_trans (by assumption) (by decide))
 ·(refine xEA (mem_ws hws) fun k hk zq2 => ?_; subst zq2)
  exact hin k hk
 intro tp sn dc kvs N2 h₂ t₂ hdc msn hrk S₂
 refine asg_T hh S₂ (.head _) rfl rfl fun h₃ S₃ => ?_
 have S₄ : St h₀ (LG L (some (.ref rs)) (some (.ref x)) none [("rules", .ref r), ("pairs", .ref pl), ("drawn", .ref dw), ("signs", .ref sg), ("script", .ref sp)] ((tp, tpP [.ref sn, .ref dc]) :: (dc, dP (intKind PP w) (.type "dict") none #[] kvs) :: (N2 ++ N))) h₃ :=
  S₃.perm (perm_out2 (X := LG L (some (.ref rs)) (some (.ref x)) none [("rules", .ref r), ("pairs", .ref pl), ("drawn", .ref dw), ("signs", .ref sg), ("script", .ref sp)] []))
 refine assignInOrder_cons ?_
 refine wpAny_assign_Name (store_C S₄ (by exact rfl) .head fun h₅ S₅ => ?_)
 refine assignInOrder_cons ?_
 refine asg_L S₅ (by exact rfl) (.tail (.tail (.tail .head))) (.new (by simp only [List.map_cons, List.map_nil]; decide)) fun h₆ S₆ => ?_
 refine assignInOrder_nil ?_
 refine q sn dc _ h₆ _ (fun p hp => .tail _ (.tail _ (List.mem_append_right _ hp))) ⟨hdc, .tail _ (.tail _ (List.mem_append_left _ msn)), kvs, .tail _ (.head _), ?_⟩ S₆
 have e : (List.range 5).map (fun k => (256 + (jkOf xs k : Int), ((WsOf xs).getD k []).map (dueNum (seenF (WsOf xs)) signsL))) = dueSpecs xs := by
  unfold dueSpecs
  apply List.map_congr_left
  intro k hk
  rw [ws_getD xs k (List.mem_range.mp hk)]
 rw [e] at hrk
 exact (rulesK_mono (fun _ f => .tail _ (.tail _ (List.mem_append_left _ f))) hrk)
end
end
section
noncomputable def abczb : Str := "ABCDEZ!"
noncomputable def wHead : List (Str × Int) := [(("C" : Str), (0 : Int)), (("B" : Str), (9 : Int))]
noncomputable def wTail : List (Str × Int) := [(("A" : Str), (9 : Int)), (("!" : Str), (9 : Int)), (("A" : Str), (0 : Int)), (("A" : Str), (9 : Int)), (("E" : Str), (0 : Int)), (("E" : Str), (9 : Int)), (("C" : Str), (4 : Int)), (("B" : Str), (4 : Int)), (("B" : Str), (9 : Int)), (("Z" : Str), (9 : Int))]
noncomputable def wordOf (x : Int) : Str × Int := (Txt.item abczb (x.fmod 7), x.fmod 11)
noncomputable def wordsOf (xs : List Int) : List (Str × Int) := wHead ++ (drawnOf xs).map wordOf ++ wTail
noncomputable def wiR (N : Led) (v : Value) (y : Str × Int) : Prop := ∃ p t1 t2, v = .ref p ∧ (p, tpP [.str y.1 t1, .int y.2 t2]) ∈ N
theorem wiR_in {N : Led} {v : Value} {y : Str × Int} (p : Addr) (t1 t2 : Tok) (e : v = .ref p) (m : (p, tpP [.str y.1 t1, .int y.2 t2]) ∈ N) : wiR N v y := ⟨p, t1, t2, e, m⟩
theorem wiR_mono {N N' : Led} {v : Value} {y : Str × Int} (m : ∀ p ∈ N, p ∈ N') (x : wiR N v y) : wiR N' v y := by (revert x; intro zh; refine xEEEA zh fun p t1 t2 e a => ?_; clear zh); exact (wiR_in p t1 t2 e (m _ a))
theorem drawn_len (xs : List Int) : (drawnOf xs).length ≤ 16 := by unfold drawnOf; rw [List.length_map]; exact List.length_take_le _ _
theorem n_tup2 {M : Model} {A : Around} {E : Value → Shared → Prop} {h₀ h : Heap} {g : Array GenState} {d : Drawn} {t : Nat} {os : OsState} {K : Led} {a b : Value} {Q : Value → Shared → Prop} (S : St h₀ K h) (q : ∀ l h', St h₀ ((l, tpP [a, b]) :: K) h' → Q (.ref l) ⟨h', g, d, t, os⟩) : wpAny M A (newTuple [a, b]) Q E ⟨h, g, d, t, os⟩ := n_tup S q
section
variable {w : World} {A : Around} {E : Value → Shared → Prop} {h₀ h : Heap} {g : Array GenState} {d : Drawn} {t : Nat} {os : OsState} {mg mb : Str → Option Value} {K N : Led} {L fa sg dw : Addr} {cd : Value} {Q : Flow → Shared → Prop} {xs : List Int} {r n s : Option Value} {b : List (Str × Value)}
set_option maxHeartbeats 400000 in
theorem law_7 (C : Cx w mg mb h₀) (hh : A.handled = none) (mdw : (dw, lsR isI (drawnOf xs)) ∈ N) (hb : (("drawn" : Str), Value.ref dw) ∈ b) (hnw : (b.map (·.1)).contains ("words" : Str) = false)
  (S : St h₀ (LG L r n s b N) h)
  (q : ∀ wl Nw N2 h t, (∀ p ∈ N, p ∈ N2) → (∀ p ∈ Nw, p ∈ N2) → (wl, lsR (wiR Nw) (wordsOf xs)) ∈ N2 → St h₀ (LG L r n s (("words", .ref wl) :: b) N2) h → Q .next ⟨h, g, d, t, os⟩) :
  wpAny (model PP w) A (exec lS7.1 (lawEnv L fa cd)) Q E ⟨h, g, d, t, os⟩ := by
 dsimp only [lS7]
 refine k_Assign_Name ?_
 refine k_BinOp ?_
 refine k_BinOp ?_
 refine List_ ?_
 refine k_items_cons ?_; refine k_Tuple ?_
 refine k_items_cons ?_; refine c_str ?_
 refine k_items_cons ?_; refine c_int ?_
 refine wpAny_items_nil ?_; with_reducible refine n_tup2 S fun p0 hp0 Sp0 => ?_
 refine k_items_cons ?_; refine k_Tuple ?_
 refine k_items_cons ?_; refine c_str ?_
 refine k_items_cons ?_; refine c_int ?_
 refine wpAny_items_nil ?_; with_reducible refine n_tup2 Sp0 fun p1 hp1 Sp1 => ?_
 refine wpAny_items_nil ?_; with_reducible refine n_list Sp1 fun lp hlp Slp => ?_
 refine (fun (a0 b0 a1 b1 : Tok) (U₀ : St h₀ ((lp, lsP [.ref p0, .ref p1]) :: (p1, tpP [.str "B" a1, .int 9 b1]) :: (p0, tpP [.str "C" a0, .int 0 b0]) :: LG L r n s b N) hlp) => ?_) _ _ _ _ Slp
 refine e_comp rfl rfl (by decide) ?_
 refine name_L U₀ (by exact rfl) (.tail _ (.tail _ (.tail _ (.tail _ (.tail _ (.tail _ (.head _))))))) hb ?_
 have mD : ∀ {u1 u2 u3 : Addr × Pr}, (dw, lsR isI (drawnOf xs)) ∈ u1 :: u2 :: u3 :: LG L r n s b N := .tail _ (.tail _ (.tail _ (.tail _ (.tail _ (.tail _ (.tail _ (.tail _ mdw)))))))
 refine it_lr U₀ mD fun it h₁ U₁ => ?_
 refine comp_gr (srcR (R := isI) (xs := drawnOf xs) (l := dw) (by exact hh) it) wiR (fun m x => wiR_mono m x) (fun i => ((drawnOf xs).take i).map wordOf) rfl (by decide) rfl (fun Nx => List.mem_append_right _ mD) (fun _ _ _ m => .tail _ (.tail _ m)) (Nat.le_trans (drawn_len xs) (by decide)) U₁ ?turn ?done
 case turn =>
  intro i v ys Nx h₂ t₂ Cn D hi zr U₂ E'; (revert zr; intro zh; refine xEA zh fun y hy hv => ?_; clear zh)
  obtain ⟨tv, rfl⟩ := hv
  refine asg_L U₂ (by exact rfl) .head (.new (by simp only [List.map_nil]; decide)) fun h₃ U₃ => ?_
  refine wpAny_tests_nil ?_
  refine if_t ?_
  refine k_Tuple ?_
  refine k_items_cons ?_
  refine k_Subscript ?_
  refine c_str ?_
  refine k_BinOp ?_
  refine name_L U₃ (by exact rfl) (.head _) (.head _) ?_
  refine c_int ?_
  refine mod_ii ?_
  have f0 := fmod_ge y (n := 7) (by decide)
  have f1 := fmod_lt y (n := 7) (by decide)
  refine str_item (fitsSsize_of (N := 100) (by lia) (by (exact Int.lt_of_lt_of_le (by assumption) (by decide))) (by decide)) ?_ ?_ ?_
  ·show -((7 : Nat) : Int) ≤ _; lia
  ·show _ < ((7 : Nat) : Int); assumption
  refine k_items_cons ?_
  refine k_BinOp ?_
  refine name_L U₃ (by exact rfl) (.head _) (.head _) ?_
  refine c_int ?_
  refine mod_ii ?_
  refine wpAny_items_nil ?_
  refine n_tup U₃ fun tp h₄ U₄ => ?_
  exact (GE_in h₄ _ ([("x", .int y tv)]) ([(tp, tpP [.str (wordOf y).1 _, .int (wordOf y).2 _])]) (wordOf y) rfl (by rw [take_succ_get hy, List.map_append]; rfl) ((wiR_in tp _ _ rfl (.head _))) (Sl3' U₄))
 case done =>
 intro Nx h₂ t₂ l2 U₂
 rw [List.take_length] at U₂
 have U₃ := (U₂.weak .head (lsR_mono (R' := wiR (Nx ++ [(p1, tpP [.str "B" a1, .int 9 b1]), (p0, tpP [.str "C" a0, .int 0 b0])])) fun v y x => wiR_mono (fun p hp => List.mem_append_left _ hp) x)).weak (.tail (Up.app (.head (P' := lsR (wiR (Nx ++ [(p1, tpP [.str "B" a1, .int 9 b1]), (p0, tpP [.str "C" a0, .int 0 b0])])) wHead)) Nx)) (lsR_of (.cons (wiR_in p0 a0 b0 rfl (List.mem_append_right _ (.tail _ (.head _)))) (.cons (wiR_in p1 a1 b1 rfl (List.mem_append_right _ (.head _))) .nil)))
 refine add_lr (R := wiR (Nx ++ [(p1, tpP [.str "B" a1, .int 9 b1]), (p0, tpP [.str "C" a0, .int 0 b0])])) (xs := wHead) (ys := (drawnOf xs).map wordOf) U₃ (.tail _ (List.mem_append_right _ (.head _))) (.head _) (fun c1 h₃ U₄ => ?_) (Nat.le_trans (show wHead.length + ((drawnOf xs).map wordOf).length ≤ 100000 by rw [List.length_map]; have := drawn_len xs; have e : wHead.length = 2 := rfl; lia) (by decide))
 refine (fun (K0 : Led) (hK0 : K0 = (c1, lsR (wiR (Nx ++ [(p1, tpP [.str "B" a1, .int 9 b1]), (p0, tpP [.str "C" a0, .int 0 b0])])) (wHead ++ (drawnOf xs).map wordOf)) :: (l2, lsR (wiR (Nx ++ [(p1, tpP [.str "B" a1, .int 9 b1]), (p0, tpP [.str "C" a0, .int 0 b0])])) ((drawnOf xs).map wordOf)) :: (Nx ++ (lp, lsR (wiR (Nx ++ [(p1, tpP [.str "B" a1, .int 9 b1]), (p0, tpP [.str "C" a0, .int 0 b0])])) wHead) :: ([(p1, tpP [.str "B" a1, .int 9 b1]), (p0, tpP [.str "C" a0, .int 0 b0])] ++ LG L r n s b N))) (U₅ : St h₀ K0 h₃) => ?_) _ rfl U₄
 clear U₀ U₁ U₂ U₃ U₄ mD Slp Sp0 Sp1 S
 refine List_ ?_
 refine k_items_cons ?_; refine k_Tuple ?_
 refine k_items_cons ?_; refine c_str ?_
 refine k_items_cons ?_; refine c_int ?_
 refine wpAny_items_nil ?_; with_reducible refine n_tup2 U₅ fun z0 hz0 Sz0 => ?_
 refine k_items_cons ?_; refine k_Tuple ?_
 refine k_items_cons ?_; refine c_str ?_
 refine k_items_cons ?_; refine c_int ?_
 refine wpAny_items_nil ?_; with_reducible refine n_tup2 Sz0 fun z1 hz1 Sz1 => ?_
 refine k_items_cons ?_; refine k_Tuple ?_
 refine k_items_cons ?_; refine c_str ?_
 refine k_items_cons ?_; refine c_int ?_
 refine wpAny_items_nil ?_; with_reducible refine n_tup2 Sz1 fun z2 hz2 Sz2 => ?_
 refine k_items_cons ?_; refine k_Tuple ?_
 refine k_items_cons ?_; refine c_str ?_
 refine k_items_cons ?_; refine c_int ?_
 refine wpAny_items_nil ?_; with_reducible refine n_tup2 Sz2 fun z3 hz3 Sz3 => ?_
 refine k_items_cons ?_; refine k_Tuple ?_
 refine k_items_cons ?_; refine c_str ?_
 refine k_items_cons ?_; refine c_int ?_
 refine wpAny_items_nil ?_; with_reducible refine n_tup2 Sz3 fun z4 hz4 Sz4 => ?_
 refine k_items_cons ?_; refine k_Tuple ?_
 refine k_items_cons ?_; refine c_str ?_
 refine k_items_cons ?_; refine c_int ?_
 refine wpAny_items_nil ?_; with_reducible refine n_tup2 Sz4 fun z5 hz5 Sz5 => ?_
 refine k_items_cons ?_; refine k_Tuple ?_
 refine k_items_cons ?_; refine c_str ?_
 refine k_items_cons ?_; refine c_int ?_
 refine wpAny_items_nil ?_; with_reducible refine n_tup2 Sz5 fun z6 hz6 Sz6 => ?_
 refine k_items_cons ?_; refine k_Tuple ?_
 refine k_items_cons ?_; refine c_str ?_
 refine k_items_cons ?_; refine c_int ?_
 refine wpAny_items_nil ?_; with_reducible refine n_tup2 Sz6 fun z7 hz7 Sz7 => ?_
 refine k_items_cons ?_; refine k_Tuple ?_
 refine k_items_cons ?_; refine c_str ?_
 refine k_items_cons ?_; refine c_int ?_
 refine wpAny_items_nil ?_; with_reducible refine n_tup2 Sz7 fun z8 hz8 Sz8 => ?_
 refine k_items_cons ?_; refine k_Tuple ?_
 refine k_items_cons ?_; refine c_str ?_
 refine k_items_cons ?_; refine c_int ?_
 refine wpAny_items_nil ?_; with_reducible refine n_tup2 Sz8 fun z9 hz9 Sz9 => ?_
 refine wpAny_items_nil ?_; with_reducible refine n_list Sz9 fun lz hlz Slz => ?_
 refine (fun (j0 e0 j1 e1 j2 e2 j3 e3 j4 e4 j5 e5 j6 e6 j7 e7 j8 e8 j9 e9 : Tok) (V₀ : St h₀ ((lz, lsP [.ref z0, .ref z1, .ref z2, .ref z3, .ref z4, .ref z5, .ref z6, .ref z7, .ref z8, .ref z9]) :: ([(z9, tpP [.str "Z" j9, .int 9 e9]), (z8, tpP [.str "B" j8, .int 9 e8]), (z7, tpP [.str "B" j7, .int 4 e7]), (z6, tpP [.str "C" j6, .int 4 e6]), (z5, tpP [.str "E" j5, .int 9 e5]), (z4, tpP [.str "E" j4, .int 0 e4]), (z3, tpP [.str "A" j3, .int 9 e3]), (z2, tpP [.str "A" j2, .int 0 e2]), (z1, tpP [.str "!" j1, .int 9 e1]), (z0, tpP [.str "A" j0, .int 9 e0])] ++ ((c1, lsR (wiR (Nx ++ [(p1, tpP [.str "B" a1, .int 9 b1]), (p0, tpP [.str "C" a0, .int 0 b0])])) (wHead ++ (drawnOf xs).map wordOf)) :: (l2, lsR (wiR (Nx ++ [(p1, tpP [.str "B" a1, .int 9 b1]), (p0, tpP [.str "C" a0, .int 0 b0])])) ((drawnOf xs).map wordOf)) :: (Nx ++ (lp, lsR (wiR (Nx ++ [(p1, tpP [.str "B" a1, .int 9 b1]), (p0, tpP [.str "C" a0, .int 0 b0])])) wHead) :: ([(p1, tpP [.str "B" a1, .int 9 b1]), (p0, tpP [.str "C" a0, .int 0 b0])] ++ LG L r n s b N))))) hlz) => ?_) _ _ _ _ _ _ _ _ _ _ _ _ _ _ _ _ _ _ _ _ (by subst hK0; exact Slz)
 have V₁ := (V₀.weak (.head (P' := lsR (wiR ([(z9, tpP [.str "Z" j9, .int 9 e9]), (z8, tpP [.str "B" j8, .int 9 e8]), (z7, tpP [.str "B" j7, .int 4 e7]), (z6, tpP [.str "C" j6, .int 4 e6]), (z5, tpP [.str "E" j5, .int 9 e5]), (z4, tpP [.str "E" j4, .int 0 e4]), (z3, tpP [.str "A" j3, .int 9 e3]), (z2, tpP [.str "A" j2, .int 0 e2]), (z1, tpP [.str "!" j1, .int 9 e1]), (z0, tpP [.str "A" j0, .int 9 e0])] ++ (Nx ++ [(p1, tpP [.str "B" a1, .int 9 b1]), (p0, tpP [.str "C" a0, .int 0 b0])]))) wTail)) (lsR_of (.cons (wiR_in z0 j0 e0 rfl (List.mem_append_left _ (.tail _ (.tail _ (.tail _ (.tail _ (.tail _ (.tail _ (.tail _ (.tail _ (.tail _ (.head _)))))))))))) (.cons (wiR_in z1 j1 e1 rfl (List.mem_append_left _ (.tail _ (.tail _ (.tail _ (.tail _ (.tail _ (.tail _ (.tail _ (.tail _ (.head _))))))))))) (.cons (wiR_in z2 j2 e2 rfl (List.mem_append_left _ (.tail _ (.tail _ (.tail _ (.tail _ (.tail _ (.tail _ (.tail _ (.head _)))))))))) (.cons (wiR_in z3 j3 e3 rfl (List.mem_append_left _ (.tail _ (.tail _ (.tail _ (.tail _ (.tail _ (.tail _ (.head _))))))))) (.cons (wiR_in z4 j4 e4 rfl (List.mem_append_left _ (.tail _ (.tail _ (.tail _ (.tail _ (.tail _ (.head _)))))))) (.cons (wiR_in z5 j5 e5 rfl (List.mem_append_left _ (.tail _ (.tail _ (.tail _ (.tail _ (.head _))))))) (.cons (wiR_in z6 j6 e6 rfl (List.mem_append_left _ (.tail _ (.tail _ (.tail _ (.head _)))))) (.cons (wiR_in z7 j7 e7 rfl (List.mem_append_left _ (.tail _ (.tail _ (.head _))))) (.cons (wiR_in z8 j8 e8 rfl (List.mem_append_left _ (.tail _ (.head _)))) (.cons (wiR_in z9 j9 e9 rfl (List.mem_append_left _ (.head _))) .nil)))))))))))).weak (.tail (Up.app (.head (P' := lsR (wiR ([(z9, tpP [.str "Z" j9, .int 9 e9]), (z8, tpP [.str "B" j8, .int 9 e8]), (z7, tpP [.str "B" j7, .int 4 e7]), (z6, tpP [.str "C" j6, .int 4 e6]), (z5, tpP [.str "E" j5, .int 9 e5]), (z4, tpP [.str "E" j4, .int 0 e4]), (z3, tpP [.str "A" j3, .int 9 e3]), (z2, tpP [.str "A" j2, .int 0 e2]), (z1, tpP [.str "!" j1, .int 9 e1]), (z0, tpP [.str "A" j0, .int 9 e0])] ++ (Nx ++ [(p1, tpP [.str "B" a1, .int 9 b1]), (p0, tpP [.str "C" a0, .int 0 b0])]))) (wHead ++ (drawnOf xs).map wordOf))) [(z9, tpP [.str "Z" j9, .int 9 e9]), (z8, tpP [.str "B" j8, .int 9 e8]), (z7, tpP [.str "B" j7, .int 4 e7]), (z6, tpP [.str "C" j6, .int 4 e6]), (z5, tpP [.str "E" j5, .int 9 e5]), (z4, tpP [.str "E" j4, .int 0 e4]), (z3, tpP [.str "A" j3, .int 9 e3]), (z2, tpP [.str "A" j2, .int 0 e2]), (z1, tpP [.str "!" j1, .int 9 e1]), (z0, tpP [.str "A" j0, .int 9 e0])])) (lsR_mono fun v y x => wiR_mono (fun p hp => List.mem_append_right _ hp) x)
 refine add_lr (R := wiR ([(z9, tpP [.str "Z" j9, .int 9 e9]), (z8, tpP [.str "B" j8, .int 9 e8]), (z7, tpP [.str "B" j7, .int 4 e7]), (z6, tpP [.str "C" j6, .int 4 e6]), (z5, tpP [.str "E" j5, .int 9 e5]), (z4, tpP [.str "E" j4, .int 0 e4]), (z3, tpP [.str "A" j3, .int 9 e3]), (z2, tpP [.str "A" j2, .int 0 e2]), (z1, tpP [.str "!" j1, .int 9 e1]), (z0, tpP [.str "A" j0, .int 9 e0])] ++ (Nx ++ [(p1, tpP [.str "B" a1, .int 9 b1]), (p0, tpP [.str "C" a0, .int 0 b0])]))) (xs := wHead ++ (drawnOf xs).map wordOf) (ys := wTail) V₁ (.tail _ (List.mem_append_right _ (.head _))) (.head _) (fun c2 h₄ V₂ => ?_) (Nat.le_trans (show (wHead ++ (drawnOf xs).map wordOf).length + wTail.length ≤ 100000 by rw [List.length_append, List.length_map]; have := drawn_len xs; have e : wHead.length = 2 := rfl; have e2 : wTail.length = 10 := rfl; lia) (by decide))
 refine store_L V₂ (by exact rfl) (.tail (.tail (Up.app (.tail (.tail (Up.app (.tail (Up.app (.tail (.tail (.tail .head))) [(p1, tpP [.str "B" a1, .int 9 b1]), (p0, tpP [.str "C" a0, .int 0 b0])])) Nx))) [(z9, tpP [.str "Z" j9, .int 9 e9]), (z8, tpP [.str "B" j8, .int 9 e8]), (z7, tpP [.str "B" j7, .int 4 e7]), (z6, tpP [.str "C" j6, .int 4 e6]), (z5, tpP [.str "E" j5, .int 9 e5]), (z4, tpP [.str "E" j4, .int 0 e4]), (z3, tpP [.str "A" j3, .int 9 e3]), (z2, tpP [.str "A" j2, .int 0 e2]), (z1, tpP [.str "!" j1, .int 9 e1]), (z0, tpP [.str "A" j0, .int 9 e0])]))) (.new hnw) fun h₅ V₃ => ?_
 have V₄ : St h₀ ([(c2, lsR (wiR ([(z9, tpP [.str "Z" j9, .int 9 e9]), (z8, tpP [.str "B" j8, .int 9 e8]), (z7, tpP [.str "B" j7, .int 4 e7]), (z6, tpP [.str "C" j6, .int 4 e6]), (z5, tpP [.str "E" j5, .int 9 e5]), (z4, tpP [.str "E" j4, .int 0 e4]), (z3, tpP [.str "A" j3, .int 9 e3]), (z2, tpP [.str "A" j2, .int 0 e2]), (z1, tpP [.str "!" j1, .int 9 e1]), (z0, tpP [.str "A" j0, .int 9 e0])] ++ (Nx ++ [(p1, tpP [.str "B" a1, .int 9 b1]), (p0, tpP [.str "C" a0, .int 0 b0])]))) (wordsOf xs)), (lz, lsR (wiR ([(z9, tpP [.str "Z" j9, .int 9 e9]), (z8, tpP [.str "B" j8, .int 9 e8]), (z7, tpP [.str "B" j7, .int 4 e7]), (z6, tpP [.str "C" j6, .int 4 e6]), (z5, tpP [.str "E" j5, .int 9 e5]), (z4, tpP [.str "E" j4, .int 0 e4]), (z3, tpP [.str "A" j3, .int 9 e3]), (z2, tpP [.str "A" j2, .int 0 e2]), (z1, tpP [.str "!" j1, .int 9 e1]), (z0, tpP [.str "A" j0, .int 9 e0])] ++ (Nx ++ [(p1, tpP [.str "B" a1, .int 9 b1]), (p0, tpP [.str "C" a0, .int 0 b0])]))) wTail)] ++ ([(z9, tpP [.str "Z" j9, .int 9 e9]), (z8, tpP [.str "B" j8, .int 9 e8]), (z7, tpP [.str "B" j7, .int 4 e7]), (z6, tpP [.str "C" j6, .int 4 e6]), (z5, tpP [.str "E" j5, .int 9 e5]), (z4, tpP [.str "E" j4, .int 0 e4]), (z3, tpP [.str "A" j3, .int 9 e3]), (z2, tpP [.str "A" j2, .int 0 e2]), (z1, tpP [.str "!" j1, .int 9 e1]), (z0, tpP [.str "A" j0, .int 9 e0])] ++ ([(c1, lsR (wiR ([(z9, tpP [.str "Z" j9, .int 9 e9]), (z8, tpP [.str "B" j8, .int 9 e8]), (z7, tpP [.str "B" j7, .int 4 e7]), (z6, tpP [.str "C" j6, .int 4 e6]), (z5, tpP [.str "E" j5, .int 9 e5]), (z4, tpP [.str "E" j4, .int 0 e4]), (z3, tpP [.str "A" j3, .int 9 e3]), (z2, tpP [.str "A" j2, .int 0 e2]), (z1, tpP [.str "!" j1, .int 9 e1]), (z0, tpP [.str "A" j0, .int 9 e0])] ++ (Nx ++ [(p1, tpP [.str "B" a1, .int 9 b1]), (p0, tpP [.str "C" a0, .int 0 b0])]))) (wHead ++ (drawnOf xs).map wordOf)), (l2, lsR (wiR (Nx ++ [(p1, tpP [.str "B" a1, .int 9 b1]), (p0, tpP [.str "C" a0, .int 0 b0])])) ((drawnOf xs).map wordOf))] ++ (Nx ++ ((lp, lsR (wiR (Nx ++ [(p1, tpP [.str "B" a1, .int 9 b1]), (p0, tpP [.str "C" a0, .int 0 b0])])) wHead) :: [(p1, tpP [.str "B" a1, .int 9 b1]), (p0, tpP [.str "C" a0, .int 0 b0])] ++ LG L r n s (("words", .ref c2) :: b) N))))) h₅ := V₃
 generalize [(p1, tpP [.str "B" a1, .int 9 b1]), (p0, tpP [.str "C" a0, .int 0 b0])] = T2 at V₄
 generalize [(z9, tpP [.str "Z" j9, .int 9 e9]), (z8, tpP [.str "B" j8, .int 9 e8]), (z7, tpP [.str "B" j7, .int 4 e7]), (z6, tpP [.str "C" j6, .int 4 e6]), (z5, tpP [.str "E" j5, .int 9 e5]), (z4, tpP [.str "E" j4, .int 0 e4]), (z3, tpP [.str "A" j3, .int 9 e3]), (z2, tpP [.str "A" j2, .int 0 e2]), (z1, tpP [.str "!" j1, .int 9 e1]), (z0, tpP [.str "A" j0, .int 9 e0])] = T10 at V₄
 refine q c2 (T10 ++ (Nx ++ T2)) ((c2, lsR (wiR (T10 ++ (Nx ++ T2))) (wordsOf xs)) :: (lz, lsR (wiR (T10 ++ (Nx ++ T2))) wTail) :: (T10 ++ ((c1, lsR (wiR (T10 ++ (Nx ++ T2))) (wHead ++ (drawnOf xs).map wordOf)) :: (l2, lsR (wiR (Nx ++ T2)) ((drawnOf xs).map wordOf)) :: (Nx ++ ((lp, lsR (wiR (Nx ++ T2)) wHead) :: (T2 ++ N)))))) h₅ _ ?_ ?_ (.head _) (V₄.perm ?_)
 ·intro p hp
  exact .tail _ (.tail _ (List.mem_append_right _ (.tail _ (.tail _ (List.mem_append_right _ (.tail _ (List.mem_append_right _ hp)))))))
 ·intro p hp
  rcases List.mem_append.mp hp with hp | hp
  ·exact .tail _ (.tail _ (List.mem_append_left _ hp))
  rcases List.mem_append.mp hp with hp | hp
  ·exact .tail _ (.tail _ (List.mem_append_right _ (.tail _ (.tail _ (List.mem_append_left _ hp)))))
  ·exact .tail _ (.tail _ (List.mem_append_right _ (.tail _ (.tail _ (List.mem_append_right _ (.tail _ (List.mem_append_left _ hp)))))))
 ·classical
  rw [List.perm_iff_count]; intro z
  simp only [List.count_cons, List.count_append, List.cons_append, List.nil_append]; lia
end
end
section
noncomputable def deedOf (ns : List Str) (y : Str × Int) : Int × Int := (numOf ns y.1, y.2)
noncomputable def dueW (seen : List Str) (x : Str) : Int := if x = ("!" : Str) then 54 else 256 + ((idx (seen ++ [x]) x).getD 0 : Nat)
noncomputable def dueOf (seen : List Str) (y : Str × Int) : Int × Int := (dueW seen y.1, y.2)
theorem tupR_mono {N N' : Led} {v : Value} {y : Int × Int} (m : ∀ p ∈ N, p ∈ N') (x : tupR N v y) : tupR N' v y := by (revert x; intro zh; refine xEEEA zh fun p t1 t2 e a => ?_; clear zh); exact ⟨p, t1, t2, e, m _ a⟩
theorem words_len (xs : List Int) : (wordsOf xs).length ≤ 28 := by
 unfold wordsOf
 have h1 := drawn_len xs
 (refine (Eq.symm (List.length_append)) ▸ ?_; refine (Eq.symm (List.length_append)) ▸ ?_; rewrite [List.length_map])
 show 2 + _ + 10 ≤ 28
 lia
theorem perm_in0 {α : Type _} {X Nx N : List α} {a : α} : (X ++ (a :: (Nx ++ N))).Perm (a :: (Nx ++ (X ++ N))) := by
 classical
 rw [List.perm_iff_count]; intro x
 simp only [List.count_cons, List.count_append]; lia
section
variable {w : World} {A : Around} {E : Value → Shared → Prop} {h₀ h : Heap} {g : Array GenState} {d : Drawn} {t : Nat} {os : OsState} {mg mb : Str → Option Value} {K N Nw : Led} {L fa wl x ru cz sn : Addr} {cd : Value} {Q : Flow → Shared → Prop} {xs : List Int} {r s nn : Option Value} {b : List (Str × Value)} {ns seen : List Str} {specs : List (Int × List Int)}
theorem law_8 (C : Cx w mg mb h₀) (hh : A.handled = none) (hd : A.depth + 20 < recursionLimit) (O : NumOk w mg x ru ns specs cz N) (hns : ns.length ≤ 4000) (hNw : ∀ p ∈ Nw, p ∈ N) (mwl : (wl, lsR (wiR Nw) (wordsOf xs)) ∈ N) (hb : (("words" : Str), Value.ref wl) ∈ b) (hnd : (b.map (·.1)).contains ("deeds" : Str) = false)
  (S : St h₀ (LG L r (some (.ref x)) s b N) h)
  (q : ∀ dl Nd N2 h t, (∀ p ∈ N, p ∈ N2) → (∀ p ∈ Nd, p ∈ N2) → (dl, lsR (tupR Nd) ((wordsOf xs).map (deedOf ns))) ∈ N2 → St h₀ (LG L r (some (.ref x)) s (("deeds", .ref dl) :: b) N2) h → Q .next ⟨h, g, d, t, os⟩) :
  wpAny (model PP w) A (exec lS8.1 (lawEnv L fa cd)) Q E ⟨h, g, d, t, os⟩ := by
 refine xEAE (f240 w) fun o ho fd hfd => ?_
 refine xEEEEEEEEAAAAAAA (O.num) fun dx f cf cell lz cellz ctv ctvz a1 a2 a3 a4 a5 a6 a7 a8 => ?_
 have mG : ∀ {p : Addr × Pr}, p ∈ N → p ∈ LG L r (some (.ref x)) s b N := fun hp => .tail _ (.tail _ (.tail _ (.tail _ (.tail _ hp))))
 dsimp only [lS8]
 refine s_comp rfl rfl rfl (by decide) ?_
 refine name_L S (by exact rfl) (.tail _ (.tail _ (.tail _ (.head _)))) hb ?_
 refine it_lr S (mG mwl) fun it h₁ S₁ => ?_
 refine comp_grS (b' := fun D => ("deeds", .ref D) :: b) (K' := fun D => LG L r (some (.ref x)) s (("deeds", .ref D) :: b) N)
  (srcR (R := wiR Nw) (xs := wordsOf xs) (l := wl) hh it) tupR (fun m x => tupR_mono m x) (fun i => ((wordsOf xs).take i).map (deedOf ns)) rfl (by decide) rfl (fun Nx => List.mem_append_right _ (mG mwl)) (fun _ _ _ m => .tail _ (.tail _ m)) (Nat.le_trans (words_len xs) (by decide)) S₁ rfl (fun D => .tail (.tail (.tail .head))) (fun D => .new hnd) ?turn ?done
 case turn =>
  intro i v ys Nx h₂ t₂ Cn D hi zr S₂ E'; obtain ⟨y, hy, p, t1, t2, rfl, mp⟩ := zr
  have mX : ∀ {b' : List (Str × Value)} {q : Addr × Pr}, q ∈ N → q ∈ (Cn, nsP b') :: (D, lsP ys) :: (it, itP wl (i + 1)) :: (Nx ++ LG L r (some (.ref x)) s b N) := fun hq => .tail _ (.tail _ (.tail _ (List.mem_append_right _ (mG hq))))
  refine asg_T hh S₂ (mX (hNw _ mp)) rfl rfl fun h₃ S₃ => ?_
  refine assignInOrder_cons ?_
  refine asg_L S₃ (by exact rfl) .head (.new (by simp only [List.map_nil]; decide)) fun h₄ S₄ => ?_
  refine assignInOrder_cons ?_
  refine asg_L S₄ (by exact rfl) .head (.new (by simp only [List.map_cons, List.map_nil]; decide)) fun h₅ S₅ => ?_
  refine assignInOrder_nil ?_
  refine wpAny_tests_nil ?_
  refine if_t ?_
  refine k_Tuple ?_
  refine k_items_cons ?_
  refine k_Call_Name_kw ?_
  refine name_G C S₅ C.g_number ?_
  refine cw_D (o := o) (fd := fd) ?_
  refine k_items_cons ?_
  refine name_C S₅ (by exact rfl) (.tail _ (.tail _ (.tail _ (List.mem_append_right _ (.tail _ (.head _)))))) ?_
  refine k_items_cons ?_
  refine name_L S₅ (by exact rfl) (.head _) (.tail _ (.head _)) ?_
  refine wpAny_items_nil ⟨⟨C.X.keeps S₅.keep _ _ ho, hfd⟩, wpAny_call ?_⟩
  refine num_frozen C S₅ (mX a1) (by lia) (by exact hh) O.hx (mX a2) (mX a3) (mX a4) (mX a5) (mX a6) (mX a7) (mX a8) hns fun h₆ t₆ u S₆ => ?_
  refine k_items_cons ?_
  refine name_L S₆ (by exact rfl) (.head _) (.head _) ?_
  refine wpAny_items_nil ?_
  with_reducible refine n_tup2 S₆ fun tp h₇ S₇ => ?_
  exact (GE_in h₇ _ ([("extra", .int y.2 t2), ("word", .str y.1 t1)]) ([(tp, tpP [.int (deedOf ns y).1 u, .int (deedOf ns y).2 t2])]) (deedOf ns y) rfl (by rw [take_succ_get hy, List.map_append]; rfl) (⟨tp, u, t2, rfl, .head _⟩) (Sl3' S₇))
 case done =>
  intro Nx h₂ t₂ dl S₂
  rw [List.take_length] at S₂
  refine q dl Nx ((dl, lsR (tupR Nx) ((wordsOf xs).map (deedOf ns))) :: (Nx ++ N)) h₂ t₂ (fun p hp => .tail _ (List.mem_append_right _ hp)) (fun p hp => .tail _ (List.mem_append_left _ hp)) (.head _) (S₂.perm ?_)
  exact perm_in0 (X := LG L r (some (.ref x)) s (("deeds", .ref dl) :: b) [])
end
end
section
theorem perm_front {α : Type _} {a b x y z : α} {N : List α} : (x :: y :: z :: ([a, b] ++ N)).Perm (a :: b :: x :: y :: z :: N) := by
 classical
 rw [List.perm_iff_count]; intro q
 simp only [List.count_cons, List.count_append, List.count_nil]; lia
section
variable {w : World} {A : Around} {E : Value → Shared → Prop} {h₀ h : Heap} {g : Array GenState} {d : Drawn} {t : Nat} {os : OsState} {mg mb : Str → Option Value} {K N Nw : Led} {L fa wl x ru cz sn : Addr} {cd : Value} {Q : Flow → Shared → Prop} {xs : List Int} {r s nn : Option Value} {b : List (Str × Value)} {ns seen : List Str} {specs : List (Int × List Int)}
theorem law_9 (C : Cx w mg mb h₀) (hh : A.handled = none) (hsl : seen.length ≤ 600) (msn : (sn, lsR isS seen) ∈ N) (hNw : ∀ p ∈ Nw, p ∈ N) (mwl : (wl, lsR (wiR Nw) (wordsOf xs)) ∈ N) (hb : (("words" : Str), Value.ref wl) ∈ b) (hnd : (b.map (·.1)).contains ("dues" : Str) = false)
  (S : St h₀ (LG L r nn (some (.ref sn)) b N) h)
  (q : ∀ dl Nd N2 h t, (∀ p ∈ N, p ∈ N2) → (∀ p ∈ Nd, p ∈ N2) → (dl, lsR (tupR Nd) ((wordsOf xs).map (dueOf seen))) ∈ N2 → St h₀ (LG L r nn (some (.ref sn)) (("dues", .ref dl) :: b) N2) h → Q .next ⟨h, g, d, t, os⟩) :
  wpAny (model PP w) A (exec lS9.1 (lawEnv L fa cd)) Q E ⟨h, g, d, t, os⟩ := by
 have mG : ∀ {p : Addr × Pr}, p ∈ N → p ∈ LG L r nn (some (.ref sn)) b N := fun hp => .tail _ (.tail _ (.tail _ (.tail _ (.tail _ hp))))
 dsimp only [lS9]
 refine s_comp rfl rfl rfl (by decide) ?_
 refine name_L S (by exact rfl) (.tail _ (.tail _ (.tail _ (.head _)))) hb ?_
 refine it_lr S (mG mwl) fun it h₁ S₁ => ?_
 refine comp_grS (b' := fun D => ("dues", .ref D) :: b) (K' := fun D => LG L r nn (some (.ref sn)) (("dues", .ref D) :: b) N)
  (srcR (R := wiR Nw) (xs := wordsOf xs) (l := wl) hh it) tupR (fun m x => tupR_mono m x) (fun i => ((wordsOf xs).take i).map (dueOf seen)) rfl (by decide) rfl (fun Nx => List.mem_append_right _ (mG mwl)) (fun _ _ _ m => .tail _ (.tail _ m)) (Nat.le_trans (words_len xs) (by decide)) S₁ rfl (fun D => .tail (.tail (.tail .head))) (fun D => .new hnd) ?turn ?done
 case turn =>
  intro i v ys Nx h₂ t₂ Cn D hi zr S₂ E'; obtain ⟨y, hy, p, t1, t2, rfl, mp⟩ := zr
  have mX : ∀ {b' : List (Str × Value)} {q : Addr × Pr}, q ∈ N → q ∈ (Cn, nsP b') :: (D, lsP ys) :: (it, itP wl (i + 1)) :: (Nx ++ LG L r nn (some (.ref sn)) b N) := fun hq => .tail _ (.tail _ (.tail _ (List.mem_append_right _ (mG hq))))
  refine asg_T hh S₂ (mX (hNw _ mp)) rfl rfl fun h₃ S₃ => ?_
  refine assignInOrder_cons ?_
  refine asg_L S₃ (by exact rfl) .head (.new (by simp only [List.map_nil]; decide)) fun h₄ S₄ => ?_
  refine assignInOrder_cons ?_
  refine asg_L S₄ (by exact rfl) .head (.new (by simp only [List.map_cons, List.map_nil]; decide)) fun h₅ S₅ => ?_
  refine assignInOrder_nil ?_
  refine wpAny_tests_nil ?_
  refine if_t ?_
  refine k_Tuple ?_
  refine k_items_cons ?_
  refine wpAny_IfExp ?_
  refine k_isTrue_Compare1 ?_
  refine name_L S₅ (by exact rfl) (.head _) (.tail _ (.head _)) ?_
  refine c_str ?_
  refine PyProof.Rows.eq_str ?_
  refine tr_b ?_
  have fin : ∀ (n : Int) (tn : Tok) (h' : Heap) (t' : Nat) (N0 : Led), n = dueW seen y.1 → St h₀ ((Cn, nsP [("extra", .int y.2 t2), ("word", .str y.1 t1)]) :: (D, lsP ys) :: (it, itP wl (i + 1)) :: (N0 ++ (Nx ++ LG L r nn (some (.ref sn)) b N))) h' →
    wpAny (model PP w) A (newTuple [.int n tn, .int y.2 t2]) (GE h₀ g d os Cn D it (itP wl (i + 1)) Nx (LG L r nn (some (.ref sn)) b N) tupR (((wordsOf xs).take i).map (dueOf seen)) (((wordsOf xs).take (i + 1)).map (dueOf seen)) ys) E' ⟨h', g, d, t', os⟩ := by
   intro n tn h' t' N0 hn S'
   with_reducible refine n_tup2 S' fun tp h₇ S₇ => ?_
   refine (GE_in h₇ _ ([("extra", .int y.2 t2), ("word", .str y.1 t1)]) ((tp, tpP [.int (dueOf seen y).1 tn, .int (dueOf seen y).2 t2]) :: N0) (dueOf seen y) rfl (by rw [take_succ_get hy, List.map_append]; rfl) (⟨tp, tn, t2, rfl, .head _⟩) (?_))
   subst hn
   exact Sl3' S₇
  by_cases hbang : y.1 = ("!" : Str)
  ·(refine (Eq.symm (show (y.1 == Str.ofString "!") = true from beq_iff_eq.mpr hbang)) ▸ ?_)
   refine if_t ?_
   refine c_int ?_
   refine k_items_cons ?_
   refine name_L S₅ (by exact rfl) (.head _) (.head _) ?_
   refine wpAny_items_nil ?_
   exact fin 54 _ h₅ _ [] (by rw [dueW, if_pos hbang]) S₅
  ·(refine (Eq.symm (show (y.1 == Str.ofString "!") = false from beq_eq_false_iff_ne.mpr hbang)) ▸ ?_)
   refine if_f ?_
   refine k_BinOp ?_
   refine c_int ?_
   refine k_MethodCall ?_
   refine k_BinOp ?_
   refine name_C S₅ (by exact rfl) (.tail _ (.tail _ (.tail _ (List.mem_append_right _ (.head _))))) ?_
   refine List_ ?_
   refine k_items_cons ?_
   refine name_L S₅ (by exact rfl) (.head _) (.tail _ (.head _)) ?_
   refine wpAny_items_nil ?_
   with_reducible refine n_list S₅ fun l1 h₆ S₆ => ?_
   replace S₆ := S₆.wk (.keep (lsR_of (R := isS) (xs := [y.1]) (.cons ⟨_, rfl⟩ .nil)) .refl)
   refine add_lr (R := isS) (xs := seen) (ys := [y.1]) S₆ (.tail _ (mX msn)) (.head _) (fun c1 h₇ S₇ => ?_) (Nat.le_trans (show seen.length + 1 ≤ 100000 by (exact Nat.lt_of_le_of_lt (by assumption) (by decide))) (by decide))
   refine gm_listR (R := isS) (xs := seen ++ [y.1]) PySem.F.slot_list_index PySem.F.type_list_index S₇ (.head _) ?_
   refine cw_B ?_
   refine k_items_cons ?_
   refine name_L S₇ (by exact rfl) (.tail _ (.tail _ (.head _))) (.tail _ (.head _)) ?_
   refine wpAny_items_nil ?_
   have hx : (idx (seen ++ [y.1]) y.1).isSome = true := by rw [← idx_any]; simp
   obtain ⟨j, hj⟩ := Option.isSome_iff_exists.mp hx
   refine ix_S S₇ (.head _) hj (by rw [List.length_append, List.length_singleton]; (exact Nat.lt_of_le_of_lt (by assumption) (by decide))) ?_
   refine add_ii ?_
   refine k_items_cons ?_
   refine name_L S₇ (by exact rfl) (.tail _ (.tail _ (.head _))) (.head _) ?_
   refine wpAny_items_nil ?_
   refine fin _ _ h₇ _ [(c1, lsR isS (seen ++ [y.1])), (l1, lsR isS [y.1])] (by rw [dueW, if_neg hbang, hj]; rfl) ?_
   refine S₇.perm ?_
   exact perm_front
 case done =>
  intro Nx h₂ t₂ dl S₂
  rw [List.take_length] at S₂
  refine q dl Nx ((dl, lsR (tupR Nx) ((wordsOf xs).map (dueOf seen))) :: (Nx ++ N)) h₂ t₂ (fun p hp => .tail _ (List.mem_append_right _ hp)) (fun p hp => .tail _ (List.mem_append_left _ hp)) (.head _) (S₂.perm ?_)
  exact perm_in0 (X := LG L r nn (some (.ref sn)) (("dues", .ref dl) :: b) [])
end
end
section
theorem up_of_mem {x : Addr} {P P' : Pr} {K : Led} (m : (x, P) ∈ K) : ∃ K', Up x P P' K K' ∧ Up x P' P K' K := by
 (refine xEE (List.append_of_mem m) fun r1 r2 zq2 => ?_; subst zq2)
 exact ⟨r1 ++ (x, P') :: r2, Up.app .head r1, Up.app .head r1⟩
section
variable {prog : Program} {w : World} {A : Around} {E : Value → Shared → Prop} {h₀ h : Heap} {g : Array GenState} {d : Drawn} {t : Nat} {os : OsState} {K : Led} {it x : Addr} {Kt : Type} [DecidableEq Kt] {knd : KeyKind prog w Kt} {kvs : List (Kt × Value)} {c : Value} {od : Option Addr} {sl : Array (Option Value)} {ep : Nat}
theorem srcK (hh : A.handled = none) (it : Addr) : Src prog w A g d os h₀ it kvs.length (fun i v => ∃ kv, kvs[i]? = some kv ∧ knd.is kv.1 v = true) (kiP x kvs.length ep) (fun K => (x, dE knd c od sl kvs ep) ∈ K) where
 item := fun {i K h t Q E} hi hk S q => (srcKeys hh).item hi hk S fun v N h' t' ⟨hN, hv⟩ S' => by subst hN; exact q v h' t' hv S'
 stop := fun {K h t Q E} hk S q => (srcKeys hh).stop hk S q
 self := fun {i K h t Q E} S q => by
  refine xEAA (S.get (.head _)) fun o e hc hd => ?_
  exact wpAny_pyIter_keyiter (s := ⟨h, g, d, t, os⟩) (d := x) (i := i) (n := kvs.length) (ep := ep) ⟨o, e, hc, hd⟩ q
 own := fun {i K h t Q E target v} S q => by
  refine xEAA (S.get (.head _)) fun o e hc hd => ?_
  exact letOwned_any e hc (by decide) q
end
section
variable {prog : Program} {w : World} {A : Around} {E : Value → Shared → Prop} {s : Shared}
theorem is_bb {Q : Value → Shared → Prop} (q : Q (.bool true) s) : wpAny (model prog w) A (compareOp .Is (.bool true) (.bool true)) Q E s := wpAny_pure q
end
section
variable {w : World} {A : Around} {E : Value → Shared → Prop} {h₀ h : Heap} {g : Array GenState} {d : Drawn} {t : Nat} {os : OsState} {mg mb : Str → Option Value} {K N Nw : Led} {L fa wl x ru cz sn : Addr} {cd : Value} {Q : Flow → Shared → Prop} {xs : List Int} {r s nn : Option Value} {b : List (Str × Value)} {ns seen : List Str} {specs : List (Int × List Int)}
theorem f223 (w : World) : ∃ o, (hd.heap_1 w.params).lookup 223 = some o ∧ ∃ fd, o.data = .func fd := by
 refine' ex_look (P := fun o => ∃ fd, o.data = .func fd) ?hh ?pf
 case hh => k_is
 case pf => exact ⟨_, rfl⟩
theorem isn_call {R : Result → Shared → Prop} {n : Int} {u : Tok} (C : Cx w mg mb h₀) (S : St h₀ K h) (hroom : A.depth < recursionLimit) (q : ∀ h' t', St h₀ K h' → R (.ok (.ret (.bool (decide (n ≥ 256))))) ⟨h', g, d, t', os⟩) :
  codeAny (model PP w) A (.call (.ref 223) ⟨[.int n u], []⟩) R ⟨h, g, d, t, os⟩ := by
 refine' call_T (binds := [("x", .int n u)]) C S ?hroom ?ho ?hcd (fun t => BindsTo.of_eq ?hbind) ?hcell ?hloc ?hnd ?h1 ?h2 ?h3 ?k
 case ho => k_is
 case hcd => k_is
 case hbind => exact rfl
 case hroom => assumption
 case hcell => decide
 case hloc => exact rfl
 case hnd => simp only [List.map_cons, List.map_nil]; decide
 case h1 => rfl
 case h2 => rfl
 case h3 => rfl
 intro L h₁ S₁
 dsimp only [List.length_cons, List.length_nil]
 obtain ⟨v, hv⟩ := nt_off C
 (with_reducible refine k_execs_cons ?_); (with_reducible refine k_Return_some ?_); refine k_Compare1 ?_; refine name_L (by assumption) (by exact rfl) (mH) (mH) ?_
 refine name_G C S₁ hv ?_
 (with_reducible refine ge_ii ?_)
 exact q _ _ S₁.dropHead
noncomputable def numbered (ns : List Str) (n : Nat) : List (Str × Int) := (List.range n).map fun k => (ns.getD k Str.empty, 256 + (k : Int))
theorem numbered_succ (ns : List Str) (n : Nat) : numbered ns (n + 1) = numbered ns n ++ [(ns.getD n Str.empty, 256 + (n : Int))] := by
 unfold numbered; (refine (Eq.symm (List.range_succ)) ▸ ?_; refine (Eq.symm (List.map_append)) ▸ ?_; try with_reducible rfl); rfl
theorem law_10 (C : Cx w mg mb h₀) (hh : A.handled = none) (hd : A.depth + 20 < recursionLimit) (O : NumOk w mg x ru ns specs cz N) (hns : ns.length ≤ 4000) (hnd : (b.map (·.1)).contains ("told" : Str) = false)
  (S : St h₀ (LG L r (some (.ref x)) s b N) h)
  (q : ∀ tl Nd N2 h t, (∀ p ∈ N, p ∈ N2) → (∀ p ∈ Nd, p ∈ N2) → (tl, lsR (wiR Nd) (numbered ns ns.length)) ∈ N2 → St h₀ (LG L r (some (.ref x)) s (("told", .ref tl) :: b) N2) h → Q .next ⟨h, g, d, t, os⟩) :
  wpAny (model PP w) A (exec lS10.1 (lawEnv L fa cd)) Q E ⟨h, g, d, t, os⟩ := by
 refine xEAE (f223 w) fun o223 ho223 fd223 hfd223 => ?_
 refine xEEEEEEEEAAAAAAA (O.num) fun dx f cf cell lz cellz ctv ctvz a1 a2 a3 a4 a5 a6 a7 a8 => ?_
 refine xEAEA (S.get (.tail _ (.tail _ (.tail _ (.tail _ (.tail _ a1)))))) fun o ho kvs hk hp => ?_
 obtain ⟨hc, hdd, hsl, es, ep, hrest⟩ := hp
 refine xEA (up_of_mem (P' := dE (strKind PP w) (.ref 108) (some dx) #[some (.ref f)] kvs ep) a1) fun N' u1 u2 => ?_
 have T : St h₀ (LG L r (some (.ref x)) s b N') h := S.upd (.tail (.tail (.tail (.tail (.tail u1))))) (Heap.ExtBut.refl _ _) ho ⟨hc, hdd, hsl, es, hrest⟩
 have hlen : kvs.length = ns.length := by (refine (hk.1) ▸ ?_; rewrite [List.length_map]; try with_reducible rfl)
 have mx : (x, dE (strKind PP w) (.ref 108) (some dx) #[some (.ref f)] kvs ep) ∈ LG L r (some (.ref x)) s b N' := .tail _ (.tail _ (.tail _ (.tail _ (.tail _ u2.mem))))
 have hnod : (kvs.map (·.1)).Nodup := hrest.2.2.2
 dsimp only [lS10]
 refine s_comp rfl rfl rfl (by decide) ?_
 refine name_C T (by exact rfl) (.tail _ (.head _)) ?_
 refine fd_pyIter C T mx O.hx fun it h₁ S₁ => ?_
 refine comp_grS (b' := fun D => ("told", .ref D) :: b) (K' := fun D => LG L r (some (.ref x)) s (("told", .ref D) :: b) N')
  (srcK hh it) wiR (fun m x => wiR_mono m x) (numbered ns) rfl (by decide) rfl (fun Nx => List.mem_append_right _ mx) (fun _ _ _ m => .tail _ (.tail _ m)) (by lia) S₁ rfl (fun D => .tail (.tail (.tail .head))) (fun D => .new hnd) ?turn ?done
 case turn =>
  intro i v ys Nx h₂ t₂ Cn D hi zr S₂ E'; (revert zr; intro zh; refine xEA zh fun kv hkv hkey => ?_; clear zh)
  obtain ⟨tk, rfl⟩ := Value.isStrOf_shape hkey
  have hnum := hk.2 i kv hkv
  have hval : valueAt kvs kv.1 = some kv.2 := valueAt_of_get hnod hkv
  have hname : ns.getD i Str.empty = kv.1 := by (refine (hk.1) ▸ ?_; refine (Eq.symm (List.getD_eq_getElem?_getD)) ▸ ?_; refine (Eq.symm (List.getElem?_map)) ▸ ?_; refine (Eq.symm (hkv)) ▸ ?_; try with_reducible rfl); rfl
  obtain ⟨tn, hn⟩ := hnum
  have mX : ∀ {b' : List (Str × Value)} , (x, dE (strKind PP w) (.ref 108) (some dx) #[some (.ref f)] kvs ep) ∈ (Cn, nsP b') :: (D, lsP ys) :: (it, kiP x kvs.length ep (i + 1)) :: (Nx ++ LG L r (some (.ref x)) s b N') := .tail _ (.tail _ (.tail _ (List.mem_append_right _ mx)))
  have mC : ∀ {b' : List (Str × Value)} , (L + 2, cellP (some (.ref x))) ∈ (Cn, nsP b') :: (D, lsP ys) :: (it, kiP x kvs.length ep (i + 1)) :: (Nx ++ LG L r (some (.ref x)) s b N') := .tail _ (.tail _ (.tail _ (List.mem_append_right _ (.tail _ (.head _)))))
  refine asg_L S₂ (by exact rfl) .head (.new (by simp only [List.map_nil]; decide)) fun h₃ S₃ => ?_
  have look : ∀ {h' : Heap} {t' : Nat} {Q' : Value → Shared → Prop} {E'' : Value → Shared → Prop}, St h₀ ((Cn, nsP [("name", .str kv.1 tk)]) :: (D, lsP ys) :: (it, kiP x kvs.length ep (i + 1)) :: (Nx ++ LG L r (some (.ref x)) s b N')) h' → Q' (.int ((256 + i : Nat) : Int) tn) ⟨h', g, d, t' + 1, os⟩ →
    wpAny (model PP w) A (getItem (.ref x) (.str kv.1 tk)) Q' E'' ⟨h', g, d, t', os⟩ := by
   intro h' t' Q' E'' S' q'
   refine xEA (S'.asP mX) fun K2 S2 m2 => ?_
   exact fd_hit C S2 m2 hkey hval (by rw [hn]; exact q')
  refine wpAny_tests_one ?_
  refine k_isTrue_Compare1 ?_
  refine k_Call_Name_kw ?_
  refine name_G C S₃ C.g_isn ?_
  refine cw_D (o := o223) (fd := fd223) ?_
  refine k_items_cons ?_
  refine k_Subscript ?_
  refine name_C S₃ (by exact rfl) mC ?_
  refine name_L S₃ (by exact rfl) (.head _) (.head _) ?_
  have hcls : ∀ {h' : Heap}, St h₀ ((Cn, nsP [("name", .str kv.1 tk)]) :: (D, lsP ys) :: (it, kiP x kvs.length ep (i + 1)) :: (Nx ++ LG L r (some (.ref x)) s b N')) h' → ∃ o, h'.get? x = some o ∧ o.cls = .ref 108 := fun S' => by
   refine xEEAA (S'.getE mX) fun o es e c zu4 => ?_
   exact ⟨o, e, c⟩
  refine tail_fd C S₃ (hcls S₃) (look S₃ ?_) (by with_unfolding_all rfl)
  refine wpAny_items_nil ⟨⟨C.X.keeps S₃.keep _ _ ho223, hfd223⟩, wpAny_call ?_⟩
  refine isn_call C S₃ (by (exact Nat.lt_of_le_of_lt (Nat.le_add_right _ _) (by assumption))) fun h₄ t₄ S₄ => ?_
  rw [decide_eq_true (show ((256 + i : Nat) : Int) ≥ 256 by lia)]
  refine c_bool ?_
  refine is_bb ?_
  refine tr_b ?_
  refine if_t ?_
  refine k_Tuple ?_
  refine k_items_cons ?_
  refine name_L S₄ (by exact rfl) (.head _) (.head _) ?_
  refine k_items_cons ?_
  refine k_Subscript ?_
  refine name_C S₄ (by exact rfl) mC ?_
  refine name_L S₄ (by exact rfl) (.head _) (.head _) ?_
  refine tail_fd C S₄ (hcls S₄) (look S₄ ?_) (by with_unfolding_all rfl)
  refine wpAny_items_nil ?_
  with_reducible refine n_tup2 S₄ fun tp h₅ S₅ => ?_
  exact (GE_in h₅ _ ([("name", .str kv.1 tk)]) ([(tp, tpP [.str kv.1 tk, .int ((256 + i : Nat) : Int) tn])]) ((ns.getD i Str.empty, 256 + (i : Int))) rfl (numbered_succ ns i) ((wiR_in tp tk tn rfl (by (refine (Eq.symm (hname)) ▸ ?_; try with_reducible rfl); exact .head _))) (Sl3' S₅))
 case done =>
  intro Nx h₂ t₂ tl S₂
  rw [hlen] at S₂
  have S₃ := S₂.weak (.tail (Up.app (.tail (.tail (.tail (.tail (.tail u2))))) Nx)) (fun o p => (⟨kvs, hk, p.dP⟩ : numP w dx f ns o))
  refine q tl Nx ((tl, lsR (wiR Nx) (numbered ns ns.length)) :: (Nx ++ N)) h₂ t₂ (fun p hp => .tail _ (List.mem_append_right _ hp)) (fun p hp => .tail _ (List.mem_append_left _ hp)) (.head _) (S₃.perm ?_)
  exact perm_in0 (X := LG L r (some (.ref x)) s (("told", .ref tl) :: b) [])
end
end
section
theorem f252 (w : World) : ∃ o, (hd.heap_1 w.params).lookup 252 = some o ∧ ∃ fd, o.data = .func fd := by
 refine' ex_look (P := fun o => ∃ fd, o.data = .func fd) ?hh ?pf
 case hh => k_is
 case pf => exact ⟨_, rfl⟩
theorem f259 (w : World) : ∃ o, (hd.heap_1 w.params).lookup 259 = some o ∧ ∃ fd, o.data = .func fd := by
 refine' ex_look (P := fun o => ∃ fd, o.data = .func fd) ?hh ?pf
 case hh => k_is
 case pf => exact ⟨_, rfl⟩
noncomputable def dSI (y : Str × Int) : PyData := .tuple [.str y.1, .int y.2]
section
variable {w : World} {A : Around} {E : Value → Shared → Prop} {h₀ h : Heap} {g : Array GenState} {d : Drawn} {t : Nat} {os : OsState} {mg mb : Str → Option Value} {K N Nd Nu Nt : Led} {L fa ru cz sn dc tl ul dl x : Addr} {cd : Value} {Q : Flow → Shared → Prop} {xs : List Int} {r nn : Option Value} {b : List (Str × Value)} {ns : List Str} {specs : List (Int × List Int)} {es : List (Int × Int)} {rk : Int → Nat} {l0 : List Env}
theorem rd_wi (S : St h₀ K h) (m : ∀ p ∈ N, p ∈ K) (v : Value) (y : Str × Int) (x : wiR N v y) : ∃ as, Reads h v (dSI y) as := by
 (revert x; intro zh; refine xEEEA zh fun p t1 t2 zq3 mp => ?_; clear zh; subst zq3)
 exact rd_tup S (m _ mp) (.cons (.str _ _) (.cons (.int _ _) .nil))
theorem law_11 (C : Cx w mg mb h₀) (hh : A.handled = none) (hd : A.depth + 70 < recursionLimit) (hun : A.units + 100 < cLine) (hfr : A.frames = some l0) (hl0 : ∀ env ∈ l0, env.scope.kind ≠ .module ∧ env.frame = some L)
  (O : NumOk w mg x ru ns specs cz N) (U : DueOk w dc sn xs N) (hseen : seenF (WsOf xs) = ns) (hspec : dueSpecs xs = specs) (hnod : (specs.map (·.1)).Nodup) (hok : ∀ y ∈ ns, PyData.strOk y = true) (hnl : ns.length ≤ 600)
  (D : ∀ z, z ≤ 60 → Gd specs rk z) (hz : ∀ z, z ≤ 60 → 3 * TB z 5 ≤ 100000) (hn5 : specs.length ≤ 1000) (hes : ∀ e ∈ es, rk e.1 ≤ 5 ∧ 0 ≤ e.1 ∧ e.1 < 100000) (hlen : es.length ≤ 50)
  (hNt : ∀ p ∈ Nt, p ∈ N) (mtl : (tl, lsR (wiR Nt) (numbered ns ns.length)) ∈ N) (hNd : ∀ p ∈ Nd, p ∈ N) (mdl : (dl, lsR (tupR Nd) es) ∈ N) (hNu : ∀ p ∈ Nu, p ∈ N) (mul : (ul, lsR (tupR Nu) es) ∈ N)
  (b1 : (("told" : Str), Value.ref tl) ∈ b) (b2 : (("rules" : Str), Value.ref ru) ∈ b) (b3 : (("due" : Str), Value.ref dc) ∈ b) (b4 : (("deeds" : Str), Value.ref dl) ∈ b) (b5 : (("dues" : Str), Value.ref ul) ∈ b)
  (S : St h₀ (LG L r nn (some (.ref sn)) b N) h) (q : ∀ K h t, (∃ ps, (247, exP (tabObj ps)) ∈ K) → (∃ ps, (242, exP (tabObj ps)) ∈ K) → (∃ ps, (100, exP (tabObj ps)) ∈ K) → St h₀ K h → Q (.ret (.bool true)) ⟨h, g, d, t, os⟩) :
  wpAny (model PP w) A (exec lS11.1 (lawEnv L fa cd)) Q E ⟨h, g, d, t, os⟩ := by
 refine xEAE (f252 w) fun o1 ho1 fd1 hfd1 => ?_
 refine xEAE (f259 w) fun o2 ho2 fd2 hfd2 => ?_
 refine xEA (O.rules) fun kvsR mru hrk => ?_
 refine xEA (U.due) fun kvsD mdc hdk => ?_
 have msn := U.seen
 rw [hseen] at msn
 rw [hspec] at hdk
 refine xEEEEEEEEAAAAAAA (O.num) fun dx f cf cell lz cellz ctv ctvz a1 a2 a3 a4 a5 a6 a7 a8 => ?_
 have mG : ∀ {p : Addr × Pr}, p ∈ N → p ∈ LG L r nn (some (.ref sn)) b N := fun hp => .tail _ (.tail _ (.tail _ (.tail _ (.tail _ hp))))
 dsimp only [lS11]
 refine k_Return_some ?_
 refine BoolOp_and ?_
 refine k_Compare1 ?_
 refine name_L S (by exact rfl) (.tail _ (.tail _ (.tail _ (.head _)))) b1 ?_
 refine e_comp rfl rfl (by decide) ?_
 refine k_Call_Name_kw ?_
 refine name_B C S C.b_range ?_
 refine PyProof.Rows.callWith_type rfl (ea_any rfl ?_)
 refine k_items_cons ?_
 refine k_Call_Name_kw ?_
 refine name_B C S C.b_len ?_
 refine cw_B ?_
 refine k_items_cons ?_
 refine name_C S (by exact rfl) (.head _) ?_
 refine wpAny_items_nil ?_
 refine lr_len S (mG msn) ?_ (by (exact Nat.lt_of_le_of_lt (by assumption) (by decide)))
 refine wpAny_items_nil ?_
 refine mk_range (n := ns.length) S fun rg h₁ t₁ S₁ => ?_
 refine it_range S₁ (.head _) (by (exact Nat.le_trans (by assumption) (by decide))) fun it h₂ S₂ => ?_
 refine comp_gr (srcRange (n := ns.length) hh it) wiR (fun m x => wiR_mono m x) (numbered ns) rfl (by decide) rfl (fun Nx => trivial) (fun _ _ _ m => trivial) (by (exact Nat.le_trans (by assumption) (by decide))) S₂ ?turn ?done
 case turn =>
  intro i v ys Nx h₃ t₃ Cn D' hi zr S₃ E'; obtain ⟨tk, rfl⟩ := zr
  obtain ⟨y, hy⟩ : ∃ y, ns[i]? = some y := ⟨ns[i], List.getElem?_eq_getElem hi⟩
  have hname : ns.getD i Str.empty = y := by (refine (Eq.symm (List.getD_eq_getElem?_getD)) ▸ ?_; refine (Eq.symm (hy)) ▸ ?_); rfl
  have mX : ∀ {q : Addr × Pr} {b' : List (Str × Value)}, q ∈ LG L r nn (some (.ref sn)) b N → q ∈ (Cn, nsP b') :: (D', lsP ys) :: (it, rgP ns.length (i + 1)) :: (Nx ++ (rg, rangeP ns.length) :: LG L r nn (some (.ref sn)) b N) :=
   fun hq => .tail _ (.tail _ (.tail _ (List.mem_append_right _ (.tail _ hq))))
  refine asg_L S₃ (by exact rfl) .head (.new (by simp only [List.map_nil]; decide)) fun h₄ S₄ => ?_
  refine wpAny_tests_nil ?_
  refine if_t ?_
  refine k_Tuple ?_
  refine k_items_cons ?_
  refine k_Subscript ?_
  refine name_C S₄ (by exact rfl) (mX (.head _)) ?_
  refine name_L S₄ (by exact rfl) (.head _) (.head _) ?_
  refine lr_item (R := isS) (xs := ns) (y := y) S₄ (mX (mG msn)) (by (exact Int.natCast_nonneg _)) (by lia) (by exact hy) fun v hv => ?_
  obtain ⟨tv, rfl⟩ := hv
  refine k_items_cons ?_
  refine k_BinOp ?_
  refine c_int ?_
  refine name_L S₄ (by exact rfl) (.head _) (.head _) ?_
  refine add_ii ?_
  refine wpAny_items_nil ?_
  with_reducible refine n_tup2 S₄ fun tp h₅ S₅ => ?_
  exact (GE_in h₅ _ ([("k", .int i tk)]) ([(tp, tpP [.str y tv, .int (256 + (i : Int)) _])]) ((ns.getD i Str.empty, 256 + (i : Int))) rfl (numbered_succ ns i) ((wiR_in tp tv _ rfl (by rw [hname]; exact .head _))) (Sl3' S₅))
 case done =>
 intro Nx h₃ t₃ l1 S₃
 refine eq_reads (n := 3) (d₁ := .list ((numbered ns ns.length).map dSI)) (rd_list (rd_wi (N := Nt) S₃ fun p hp => .tail _ (List.mem_append_right _ (.tail _ (mG (hNt p hp))))) S₃ (.tail _ (List.mem_append_right _ (.tail _ (mG mtl)))))
  (rd_list (rd_wi (N := Nx) S₃ fun p hp => .tail _ (List.mem_append_left _ hp)) S₃ (.head _)) ?okd (by decide) (by lia) ?_
 case okd =>
  refine okd_list fun d' hd' => ?_
  (refine xEA (List.mem_map.mp hd') fun y hy zq2 => ?_; subst zq2)
  (refine xEA (List.mem_map.mp hy) fun k hk zq2 => ?_; subst zq2)
  rw [List.mem_range] at hk
  refine okd_tuple fun d2 hd2 => ?_
  rcases List.mem_cons.mp hd2 with rfl | hd2
  ·refine okd_str (hok _ ?_)
   show ns.getD k Str.empty ∈ ns
   rw [List.getD_eq_getElem?_getD, List.getElem?_eq_getElem hk]
   exact List.getElem_mem hk
  rcases List.mem_cons.mp hd2 with rfl | hd2
  ·exact okd_int _
  ·cases hd2
 refine tr_b ?_
 refine if_t ?_
 have S₄ : St h₀ (LG L r nn (some (.ref sn)) b N) h₃ := S₃.sub (.cons _ (List.sublist_append_of_sublist_right (.cons _ (List.Sublist.refl _))))
 clear S S₁ S₂ S₃
 refine BoolOp_and ?_
 refine k_Compare1 ?_
 refine name_L S₄ (by exact rfl) (.tail _ (.tail _ (.tail _ (.head _)))) b2 ?_
 refine name_L S₄ (by exact rfl) (.tail _ (.tail _ (.tail _ (.head _)))) b3 ?_
 refine eq_dicts (N := N) (N' := N) S₄ O.hr U.hdc (mG mru) (mG mdc) hrk hdk hnod (fun _ hp => mG hp) (fun _ hp => mG hp) (by lia) ?_
 refine tr_b ?_
 refine if_t ?_
 refine BoolOp_one ?_
 refine k_Compare1 ?_
 refine k_Call_Name_kw ?_
 refine name_G C S₄ C.g_grown ?_
 refine cw_D (o := o1) (fd := fd1) ?_
 refine k_items_cons ?_
 refine name_L S₄ (by exact rfl) (.tail _ (.tail _ (.tail _ (.head _)))) b2 ?_
 refine k_items_cons ?_
 refine name_L S₄ (by exact rfl) (.tail _ (.tail _ (.tail _ (.head _)))) b4 ?_
 refine wpAny_items_nil ⟨⟨C.X.keeps S₄.keep _ _ ho1, hfd1⟩, wpAny_call ?_⟩
 have S₅ := S₄.take (.tail (.tail (.tail (.tail .head))))
 have mK : ∀ {p : Addr × Pr}, p ∈ N → p ∈ (L + 3, cellP (some (.ref sn))) :: (L + 2, cellP nn) :: (L + 1, cellP r) :: (L, nsP b) :: N := fun hp => .tail _ (.tail _ (.tail _ (.tail _ hp)))
 refine grown_call (Nt := Nd) (kvsR := kvsR) (specs := specs) (rk := rk) (es := es) (cz := cz) (l0 := l0) C S₅ ⟨hfr, fun env he => ⟨(hl0 env he).1, L, b, (hl0 env he).2, .tail _ (.tail _ (.tail _ (.head _)))⟩⟩ (by lia) (by exact hh) (by lia) O.hr (mK mru)
  ((rulesK_mono (fun _ e => mK e) hrk)) (fun p hp => mK (hNd p hp)) (mK mdl) (mK O.fz) (mK a7) D hn5 (fun e he => ⟨(hes e he).1, (hes e he).2.2⟩) hlen ?_
 intro tp sa li Nx2 h₆ t₆ mtab S₆
 obtain ⟨ps247, m247⟩ := mtab
 obtain ⟨ps242, m242⟩ := O.tab
 have mK2 : ∀ {p : Addr × Pr}, p ∈ (L + 3, cellP (some (.ref sn))) :: (L + 2, cellP nn) :: (L + 1, cellP r) :: (L, nsP b) :: N → p ∈ (tp, tpP [.ref sa, .ref li]) :: (sa, lsR (stR (Nx2 ++ (L + 3, cellP (some (.ref sn))) :: (L + 2, cellP nn) :: (L + 1, cellP r) :: (L, nsP b) :: N)) (deedsF specs 5 ([], false) es).1) :: (li, lsR (itR (Nx2 ++ (L + 3, cellP (some (.ref sn))) :: (L + 2, cellP nn) :: (L + 1, cellP r) :: (L, nsP b) :: N)) (deedsF specs 5 ([], false) es).2.1) :: (Nx2 ++ (L + 3, cellP (some (.ref sn))) :: (L + 2, cellP nn) :: (L + 1, cellP r) :: (L, nsP b) :: N) :=
  fun hp => .tail _ (.tail _ (.tail _ (List.mem_append_right _ hp)))
 refine k_Call_Name_kw ?_
 refine name_G C S₆ C.g_plain ?_
 refine cw_D (o := o2) (fd := fd2) ?_
 refine k_items_cons ?_
 refine name_L S₆ (by exact rfl) (mK2 (.tail _ (.tail _ (.tail _ (.head _))))) b3 ?_
 refine k_items_cons ?_
 refine name_L S₆ (by exact rfl) (mK2 (.tail _ (.tail _ (.tail _ (.head _))))) b5 ?_
 refine wpAny_items_nil ⟨⟨C.X.keeps S₆.keep _ _ ho2, hfd2⟩, wpAny_call ?_⟩
 refine plain_call (Nt := Nu) (kvsR := kvsD) (specs := specs) (rk := rk) (es := es) C S₆ (by (exact Nat.lt_of_le_of_lt (Nat.le_add_right _ _) (by assumption))) (by exact hh) (by lia) U.hdc (mK2 (mK mdc)) ((rulesK_mono (fun _ e => mK2 (mK e)) hdk)) (fun p hp => mK2 (mK (hNu p hp))) (mK2 (mK mul)) D hz hn5 hes hlen ?_
 intro tp2 sa2 li2 Nx3 h₇ t₇ S₇
 refine eq_reads (n := 5) (d₁ := dAll (deedsF specs 5 ([], false) es).1 (deedsF specs 5 ([], false) es).2.1)
  (rd_all S₇ (fun p hp => .tail _ (.tail _ (.tail _ (List.mem_append_right _ (.tail _ (.tail _ (.tail _ hp))))))) (.tail _ (.tail _ (.tail _ (List.mem_append_right _ (.head _))))) (.tail _ (.tail _ (.tail _ (List.mem_append_right _ (.tail _ (.head _)))))) (.tail _ (.tail _ (.tail _ (List.mem_append_right _ (.tail _ (.tail _ (.head _))))))))
  (rd_all S₇ (fun p hp => .tail _ (.tail _ (.tail _ hp))) (.head _) (.tail _ (.head _)) (.tail _ (.tail _ (.head _)))) (okd_dAll _ _) (by decide) (by lia) ?_
 exact q _ h₇ t₇ ⟨ps247, .tail _ (.tail _ (.tail _ (List.mem_append_right _ (.tail _ (.tail _ (.tail _ (List.mem_append_left _ m247)))))))⟩ ⟨ps242, .tail _ (.tail _ (.tail _ (List.mem_append_right _ (mK2 (mK m242)))))⟩ ⟨_, .tail _ (.tail _ (.tail _ (List.mem_append_right _ (mK2 (mK O.fz)))))⟩ S₇
end
end
section
structure PureOk (xs : List Int) : Prop where
 rows : RowsOk xs
 jok : ∀ k, k < 5 → PyData.strOk (joined (Wf xs k)) = true
 words : ∀ p ∈ prsTo xs 5, (Txt.words p.2).length ≤ 30 ∧ p.2.length ≤ 2000
 nd : ((readAll (prsTo xs 5)).2.map (·.1)).Nodup
 hin : ∀ k, k < 5 → ∀ y ∈ Wf xs k, idx (seenF (WsOf xs)) y = none → (idx signsL y).isSome = true
 hjk : ∀ k, k < 5 → (idx (seenF (WsOf xs)) (letter k)).isSome = true
 seen : seenF (WsOf xs) = (readAll (prsTo xs 5)).1
 specs : dueSpecs xs = (readAll (prsTo xs 5)).2
 sok : ∀ y ∈ (readAll (prsTo xs 5)).1, PyData.strOk y = true
 len : (readAll (prsTo xs 5)).1.length ≤ 600
 es : (wordsOf xs).map (deedOf (readAll (prsTo xs 5)).1) = (wordsOf xs).map (dueOf (readAll (prsTo xs 5)).1)
 gd : ∃ rk : Int → Nat, (∀ z, z ≤ 60 → Gd (readAll (prsTo xs 5)).2 rk z) ∧ (∀ z, z ≤ 60 → 3 * TB z 5 ≤ 100000) ∧ (readAll (prsTo xs 5)).2.length ≤ 1000 ∧
  ∀ e ∈ (wordsOf xs).map (deedOf (readAll (prsTo xs 5)).1), rk e.1 ≤ 5 ∧ 0 ≤ e.1 ∧ e.1 < 100000
section
variable {w : World} {A : Around} {E : Value → Shared → Prop} {h₀ h : Heap} {g : Array GenState} {d : Drawn} {t : Nat} {os : OsState} {mg mb : Str → Option Value} {L fa sp : Addr} {cd : Value} {Q : Flow → Shared → Prop} {xs : List Int} {vs : List Value} {l0 : List Env}
set_option maxHeartbeats 4000000 in
theorem law_body (C : Cx w mg mb h₀) (hh : A.handled = none) (hd : A.depth + 70 < recursionLimit) (hun : A.units + 100 < cLine) (hfr : A.frames = some l0) (hl0 : ∀ env ∈ l0, env.scope.kind ≠ .module ∧ env.frame = some L)
  (P : PureOk xs) (hsp : h₀.IsList sp vs.toArray) (hI : IntsAre vs xs) (hlen : xs.length ≤ 63) (S : St h₀ (LF L none none none [("script", .ref sp)] []) h) (q : ∀ K h t, (∃ ps, (247, exP (tabObj ps)) ∈ K) → (∃ ps, (242, exP (tabObj ps)) ∈ K) → (∃ ps, (100, exP (tabObj ps)) ∈ K) → St h₀ K h → Q (.ret (.bool true)) ⟨h, g, d, t, os⟩) :
  wpAny (model PP w) A (execs lawD.1.2.1 (lawEnv L fa cd)) Q E ⟨h, g, d, t, os⟩ := by
 refine xEAAA (P.gd) fun rk D hz hn5 hes => ?_
 rw [law_split]
 refine k_execs_cons ?_
 refine law_0 (K := [(247, exP (tabObj #[])), (242, exP (tabObj #[])), (100, exP (tabObj #[]))]) (sp := sp) S fun sg h₁ t₁ S₁ => ?_
 refine k_execs_cons ?_
 refine law_1 hh hsp hI hlen S₁ fun dw h₂ t₂ S₂ => ?_
 refine k_execs_cons ?_
 refine law_2 C hh (by lia) S₂ fun rs Nr N₂ h₃ t₃ hNr mrs msg mdw S₃ => ?_
 refine k_execs_cons ?_
 refine law_3 C hh (by lia) P.rows hNr mrs S₃ fun pl Np N₃ h₄ t₄ m₃ hNp mpl S₄ => ?_
 refine k_execs_cons ?_
 refine law_4 C hh (by lia) (by lia) P.rows P.jok (fun p hp => m₃ _ (hNr p hp)) (m₃ _ mrs) hNp mpl S₄ fun h₅ t₅ S₅ => ?_
 refine k_execs_cons ?_
 refine law_5 C hh (by lia) P.words P.nd hNp mpl S₅ fun x ru cz N₅ h₆ t₆ m₅ O S₆ => ?_
 refine k_execs_cons ?_
 refine law_6 C hh (by lia) P.rows (fun p hp => m₅ _ (m₃ _ (hNr p hp))) (m₅ _ (m₃ _ mrs)) (m₅ _ (m₃ _ msg)) P.hin P.hjk S₆ fun sn dc N₆ h₇ t₇ m₆ U S₇ => ?_
 refine k_execs_cons ?_
 refine law_7 (dw := dw) (N := N₆) (r := some (.ref rs)) (n := some (.ref x)) (s := some (.ref sn)) (b := [("due", .ref dc), ("rules", .ref ru), ("pairs", .ref pl), ("drawn", .ref dw), ("signs", .ref sg), ("script", .ref sp)]) C hh (m₆ _ (m₅ _ (m₃ _ mdw))) (by simp) (by simp only [List.map_cons, List.map_nil]; decide) S₇ fun wl Nw N₇ h₈ t₈ m₇ hNw mwl S₈ => ?_
 refine k_execs_cons ?_
 refine law_8 C hh (by lia) ((O.mono m₆).mono m₇) (by have := P.len; (exact Nat.le_trans (by assumption) (by decide))) hNw mwl (by simp) (by simp only [List.map_cons, List.map_nil]; decide) S₈ fun dl Nd N₈ h₉ t₉ m₈ hNd mdl S₉ => ?_
 refine k_execs_cons ?_
 have hsn := (((U.mono m₇).mono m₈).seen)
 rw [P.seen] at hsn
 refine law_9 C hh P.len hsn (fun p hp => m₈ _ (hNw p hp)) (m₈ _ mwl) (by simp) (by simp only [List.map_cons, List.map_nil]; decide) S₉ fun ul Nu N₉ h₁₀ t₁₀ m₉ hNu mul S₁₀ => ?_
 refine k_execs_cons ?_
 have O9 := (((O.mono m₆).mono m₇).mono m₈).mono m₉
 refine law_10 C hh (by lia) O9 (by have := P.len; (exact Nat.le_trans (by assumption) (by decide))) (by simp only [List.map_cons, List.map_nil]; decide) S₁₀ fun tl Nt Na h₁₁ t₁₁ ma hNt mtl S₁₁ => ?_
 refine k_execs_cons ?_
 rw [← P.es] at mul
 have mdl' := ma _ (m₉ _ mdl)
 refine law_11 (rk := rk) (es := (wordsOf xs).map (deedOf (readAll (prsTo xs 5)).1)) C hh hd hun hfr hl0 (O9.mono ma) ((((U.mono m₇).mono m₈).mono m₉).mono ma) P.seen P.specs P.nd P.sok P.len D hz hn5 hes (by rw [List.length_map]; have := words_len xs; (exact Nat.le_trans (by assumption) (by decide)))
  hNt mtl (fun p hp => ma _ (m₉ _ (hNd p hp))) mdl' (fun p hp => ma _ (hNu p hp)) (ma _ mul) (by simp) (by simp) (by simp) (by simp) (by simp) S₁₁ q
end
end
section
theorem st_start {h₀ h₁ : Heap} {L sp : Addr} {m : Str → Option Value} {o1 o2 o3 : Obj} (F : Fr h₀ L h₁ m) (N : News h₀ L h₁ [(L + 1 + 1 + 1, o3), (L + 1 + 1, o2), (L + 1, o1), (247, tabObj #[]), (100, tabObj #[]), (242, tabObj #[])])
  (e3 : o3.data = .cell none) (e2 : o2.data = .cell none) (e1 : o1.data = .cell none) (hm : m ("script" : Str) = some (.ref sp)) (hl : 247 < L) : St h₀ (LF L none none none [("script", .ref sp)] []) h₁ := by
 refine xEA (nsP_of F.ns (b := [("script", .ref sp)]) (fun p hp => by rw [List.mem_singleton] at hp; subst hp; exact hm) (by simp)) fun oL eL pL => ?_
 have hLn : h₀.get? L = none := by
  cases e : h₀.get? L with
  | none => rfl
  | some o => exact absurd (Heap.lt_size e) (Nat.not_lt.mpr F.above)
 refine ⟨F.keep, fun p hp => ?_, fun p hp => ?_, ?_⟩
 ·simp only [LF, List.mem_cons, List.not_mem_nil, or_false] at hp
  rcases hp with rfl | rfl | rfl | rfl | rfl | rfl | rfl
  ·exact ⟨o3, (N _ (.head _)).1, e3⟩
  ·exact ⟨o2, (N _ (.tail _ (.head _))).1, e2⟩
  ·exact ⟨o1, (N _ (.tail _ (.tail _ (.head _)))).1, e1⟩
  ·exact ⟨oL, eL, pL⟩
  ·exact ⟨_, (N _ (.tail _ (.tail _ (.tail _ (.head _))))).1, rfl⟩
  ·exact ⟨_, (N _ (.tail _ (.tail _ (.tail _ (.tail _ (.tail _ (.head _))))))).1, rfl⟩
  ·exact ⟨_, (N _ (.tail _ (.tail _ (.tail _ (.tail _ (.head _)))))).1, rfl⟩
 ·simp only [LF, List.mem_cons, List.not_mem_nil, or_false] at hp
  rcases hp with rfl | rfl | rfl | rfl | rfl | rfl | rfl
  ·exact (N _ (.head _)).2.2
  ·exact (N _ (.tail _ (.head _))).2.2
  ·exact (N _ (.tail _ (.tail _ (.head _)))).2.2
  ·exact hLn
  ·exact (N _ (.tail _ (.tail _ (.tail _ (.head _))))).2.2
  ·exact (N _ (.tail _ (.tail _ (.tail _ (.tail _ (.tail _ (.head _))))))).2.2
  ·exact (N _ (.tail _ (.tail _ (.tail _ (.tail _ (.head _)))))).2.2
 ·have hl' : (247 : Nat) < L := hl
  simp only [LF, List.map_cons, List.map_nil, List.nodup_cons, List.mem_cons, List.not_mem_nil, or_false, not_or]
  refine ⟨⟨?_, ?_, ?_, ?_, ?_, ?_⟩, ⟨?_, ?_, ?_, ?_, ?_⟩, ⟨?_, ?_, ?_, ?_⟩, ⟨?_, ?_, ?_⟩, ?_⟩
  all_goals first | (intro q; have q' : (_ : Nat) = _ := q; lia) | decide
end
section
noncomputable def WordOk (k : Nat) (y : Str) : Prop := y ∈ menuL ∨ ∃ j, k < j ∧ j < 5 ∧ y = letter j
noncomputable def RI (W : Nat → List Str) (n : Nat) : Prop := ∀ k, k < 5 → (W k).length ≤ n ∧ (∀ y ∈ W k, WordOk k y) ∧ nameCount (W k) ≤ 2
theorem menu_noabc : ∀ y ∈ menuL, inS abc y = false := by
 have h : menuL.all (fun y => !inS abc y) = true := by decide +kernel
 intro y hy
 have := List.all_eq_true.mp h y hy
 simpa using this
theorem nameCount_snoc (ws : List Str) (y : Str) : nameCount (ws ++ [y]) = nameCount ws + (if inS abc y = true then 1 else 0) := by
 unfold nameCount
 rw [List.filter_append, List.length_append]
 congr 1
 rw [List.filter_cons]
 split <;> rfl
theorem ri_step {W : Nat → List Str} {n : Nat} (h : RI W n) (x : Int) : RI (rowsStep menuL W x) (n + 1) := by
 have z0 := fmod_ge x (n := 5) (by decide)
 have z1 := fmod_lt x (n := 5) (by decide)
 have put : ∀ y : Str, WordOk (x.fmod 5).toNat y → nameCount (W (x.fmod 5).toNat ++ [y]) ≤ 2 → RI (upd W (x.fmod 5).toNat (W (x.fmod 5).toNat ++ [y])) (n + 1) := by
  intro y hy hc k hk
  unfold upd
  by_cases e : k = (x.fmod 5).toNat
  ·(refine (Eq.symm (if_pos e)) ▸ ?_)
   refine xAA (h (x.fmod 5).toNat (by omega)) fun a b c => ?_
   refine ⟨by rw [List.length_append, List.length_singleton]; (exact Nat.succ_le_succ (by assumption)), fun v hv => ?_, hc⟩
   rcases List.mem_append.mp hv with hv | hv
   ·rw [e]; exact b v hv
   ·rw [List.mem_singleton] at hv; rw [hv, e]; exact hy
  ·(refine (Eq.symm (if_neg e)) ▸ ?_)
   refine xAA (h k hk) fun a b c => ?_
   exact ⟨by (exact Nat.le_succ_of_le (by assumption)), b, c⟩
 have hi := h (x.fmod 5).toNat (by lia)
 unfold rowsStep
 split
 ·have y0 := fmod_ge (x.fdiv 40) (n := 52) (by decide)
  have y1 := fmod_lt (x.fdiv 40) (n := 52) (by decide)
  have hm : menuL.getD ((x.fdiv 40).fmod 52).toNat Str.empty ∈ menuL := by
   have hl : ((x.fdiv 40).fmod 52).toNat < menuL.length := by rw [menu_len]; lia
   (refine (Eq.symm (List.getD_eq_getElem?_getD)) ▸ ?_; refine (Eq.symm (List.getElem?_eq_getElem hl)) ▸ ?_)
   exact List.getElem_mem hl
  refine put _ (.inl hm) ?_
  (rewrite [nameCount_snoc]; refine (Eq.symm (menu_noabc _ hm)) ▸ ?_)
  have := hi.2.2
  simpa using this
 ·split
  ·rename_i hc
   have y0 := fmod_ge (x.fdiv 40) (n := 4 - x.fmod 5) (by omega)
   have y1 := fmod_lt (x.fdiv 40) (n := 4 - x.fmod 5) (by omega)
   refine put _ (.inr ⟨((x.fmod 5) + 1 + (x.fdiv 40).fmod (4 - x.fmod 5)).toNat, by omega, by omega, ?_⟩) ?_
   ·unfold letter
    rw [Int.toNat_of_nonneg (by omega)]
   ·rw [nameCount_snoc]
    have := hc.2
    split <;> omega
  ·intro k hk
   refine xAA (h k hk) fun a b c => ?_
   exact ⟨by (exact Nat.le_succ_of_le (by assumption)), b, c⟩
theorem ri_fold : ∀ (l : List Int) {W : Nat → List Str} {n : Nat}, RI W n → RI (l.foldl (rowsStep menuL) W) (n + l.length)
 | [], _, _, h => h
 | x :: l, W, n, h => by
  have := ri_fold l (ri_step h x)
  rw [List.foldl_cons, List.length_cons]
  rw [show n + (l.length + 1) = n + 1 + l.length by lia]
  exact this
theorem ri_all (xs : List Int) : RI (Wf xs) 26 := by
 have h0 : RI (fun _ => []) 0 := fun k _ => ⟨Nat.le_refl _, fun y hy => (nomatch hy), Nat.zero_le _⟩
 have h := ri_fold (drawnOf xs ++ tens) h0
 intro k hk
 refine xAA (h k hk) fun a b c => ?_
 have hl := drawn_len xs
 have e : (drawnOf xs ++ tens).length ≤ 26 := by rw [List.length_append]; show _ + 10 ≤ 26; (exact Nat.add_le_add_right (by assumption) _)
 exact ⟨Nat.le_trans a (by (exact Nat.add_le_add_left (by assumption) _)), b, c⟩
noncomputable def allW : List Str := menuL ++ (List.range 5).map letter
theorem ok_all {k : Nat} {y : Str} (h : WordOk k y) : y ∈ allW := by
 rcases h with h | ⟨j, _, hj, rfl⟩
 ·exact List.mem_append_left _ h
 ·exact List.mem_append_right _ (List.mem_map_of_mem (List.mem_range.mpr hj))
noncomputable def wordFine (y : Str) : Bool := decide (1 ≤ y.length) && decide (y.length ≤ 3) && y.cps.all (fun c => !Unicode.isSpace c) && PyData.strOk y && ((tok y).isNone == inS abcz y)
theorem allW_fine : allW.all wordFine = true := by decide +kernel
end
section
theorem space_sp : (Str.ofString " ").cps.toList = [32] := by decide +kernel
theorem isSpace32 : Unicode.isSpace 32 = true := by decide +kernel
theorem fine_of {y : Str} (h : y ∈ allW) : 1 ≤ y.length ∧ y.length ≤ 3 ∧ (∀ c ∈ y.cps.toList, Unicode.isSpace c = false) ∧ PyData.strOk y = true ∧ (tok y).isNone = inS abcz y := by
 have := List.all_eq_true.mp allW_fine y h
 unfold wordFine at this
 simp only [Bool.and_eq_true, decide_eq_true_eq, beq_iff_eq] at this
 obtain ⟨⟨⟨⟨a, b⟩, c⟩, d⟩, e⟩ := this
 refine ⟨a, b, fun x hx => ?_, d, e⟩
 rw [← Array.all_toList, List.all_eq_true] at c
 have := c x hx
 simpa using this
theorem word_run (ws : List Str) : ∀ (cs : List Nat) (run : Str), (∀ c ∈ cs, Unicode.isSpace c = false) → cs.foldl KWd.step (ws, run) = (ws, run ++ ⟨cs.toArray⟩)
 | [], run, _ => by
  show (ws, run) = _
  congr 1
  all_goals exact Str.ext' (by simp [Str.cps_append])
 | c :: cs, run, h => by
  rw [List.foldl_cons]
  have e : KWd.step (ws, run) c = (ws, run ++ ⟨#[c]⟩) := by
   unfold KWd.step
   rw [if_neg (by rw [h c (.head _)]; exact Bool.false_ne_true)]
  rw [e, word_run ws cs _ fun d hd => h d (.tail _ hd)]
  congr 1
  all_goals exact Str.ext' (by simp [Str.cps_append])
theorem words_run : ∀ (rows : List Str) (ws : List Str), (∀ y ∈ rows, 1 ≤ y.length ∧ ∀ c ∈ y.cps.toList, Unicode.isSpace c = false) → KWd.fin ((Str.join (Str.ofString " ") rows).cps.toList.foldl KWd.step (ws, Str.empty)) = ws ++ rows
 | [], ws, _ => by
  show KWd.fin (ws, Str.empty) = ws ++ []
  rw [List.append_nil]; rfl
 | [y], ws, h => by
  have hy := h y (.head _)
  show KWd.fin (y.cps.toList.foldl KWd.step (ws, Str.empty)) = ws ++ [y]
  rw [word_run ws _ _ hy.2, Str.empty_append]
  unfold KWd.fin
  rw [if_neg]
  ·show (Str.length ⟨y.cps.toList.toArray⟩) ≠ 0
   rw [Array.toArray_toList]
   have := hy.1
   show y.length ≠ 0
   (exact Nat.ne_of_gt (by assumption))
 | y :: z :: r, ws, h => by
  have hy := h y (.head _)
  have e : Str.join (Str.ofString " ") (y :: z :: r) = y ++ Str.ofString " " ++ Str.join (Str.ofString " ") (z :: r) := rfl
  (refine (Eq.symm (e)) ▸ ?_; rewrite [Str.cps_append, Str.cps_append]; refine (Eq.symm (Array.toList_append)) ▸ ?_; refine (Eq.symm (Array.toList_append)) ▸ ?_; refine (Eq.symm (List.foldl_append)) ▸ ?_; refine (Eq.symm (List.foldl_append)) ▸ ?_; refine (Eq.symm (word_run ws _ _ hy.2)) ▸ ?_; rewrite [Str.empty_append]; refine (Eq.symm (space_sp)) ▸ ?_)
  have e2 : [32].foldl KWd.step (ws, (⟨y.cps.toList.toArray⟩ : Str)) = (ws ++ [y], Str.empty) := by
   show KWd.step _ 32 = _
   unfold KWd.step
   rw [if_pos isSpace32, if_neg]
   ·show y.length ≠ 0
    have := hy.1
    (exact Nat.ne_of_gt (by assumption))
  (refine (Eq.symm (e2)) ▸ ?_; refine (Eq.symm (words_run (z :: r) (ws ++ [y]) fun v hv => h v (.tail _ hv))) ▸ ?_; rewrite [List.append_assoc]); rfl
theorem joined_eq (row : List Str) : joined row = Str.join (Str.ofString " ") row := StrLaws.glued_eq_join _ _
theorem words_joined {row : List Str} (h : ∀ y ∈ row, y ∈ allW) : Txt.words (joined row) = row := by
 rw [KWd.words_scan, joined_eq]
 exact words_run row [] fun y hy => by refine xAAA (fine_of (h y hy)) fun a zu1 c zu3 => ?_; exact ⟨a, c⟩
theorem joined_len {row : List Str} (h : ∀ y ∈ row, y ∈ allW) : (joined row).length ≤ row.length * 4 := by
 rw [joined_eq]
 have h1 := StrLaws.join_length_le (Str.ofString " ") row
 have h2 := StrLaws.sumLen_le (B := 3) row fun y hy => (fine_of (h y hy)).2.1
 have h3 : (Str.ofString " ").length = 1 := by decide +kernel
 rw [h3] at h1
 lia
theorem ok_join : ∀ {row : List Str}, (∀ y ∈ row, PyData.strOk y = true) → PyData.strOk (Str.join (Str.ofString " ") row) = true
 | [], _ => by decide +kernel
 | [y], h => h y (.head _)
 | y :: z :: r, h => ok_append (ok_append (h y (.head _)) (ok_ofString _)) (ok_join fun v hv => h v (.tail _ hv))
theorem joined_ok {row : List Str} (h : ∀ y ∈ row, y ∈ allW) : PyData.strOk (joined row) = true := by
 rw [joined_eq]; exact ok_join fun y hy => (fine_of (h y hy)).2.2.2.1
end
section
section
open Builtin Builtin.Str StrLaws
theorem occ_full (s sub : Str) (hi p f : Nat) : ∀ (l : List Nat), (forIn l ((#[p] : Array Nat), f) (occBody s sub hi 1)).run.fst = #[p]
 | [] => rfl
 | a :: l => by
  rw [List.forIn_cons]
  unfold occBody
  rw [if_neg (by rintro ⟨⟨⟨h, _⟩, _⟩, _⟩; simp at h)]
  exact occ_full s sub hi p f l
theorem occ_first0 (s sub : Str) (hi p : Nat) (hp : p + sub.length ≤ hi ∧ subAt s sub p = true) (r : List Nat) : ∀ (l : List Nat), (∀ i ∈ l, ¬ (i + sub.length ≤ hi ∧ subAt s sub i = true)) →
  (forIn (l ++ p :: r) ((#[] : Array Nat), 0) (occBody s sub hi 1)).run.fst = #[p]
 | [], _ => by
  rw [List.nil_append, List.forIn_cons]
  unfold occBody
  rw [if_pos ⟨⟨⟨by simp, Nat.zero_le _⟩, hp.1⟩, hp.2⟩]
  exact occ_full s sub hi p _ r
 | a :: l, h => by
  rw [List.cons_append, List.forIn_cons]
  unfold occBody
  rw [if_neg (by rintro ⟨⟨⟨_, _⟩, h2⟩, h3⟩; exact h a (.head _) ⟨h2, h3⟩)]
  exact occ_first0 s sub hi p hp r l fun i hi' => h i (.tail _ hi')
theorem occ_first (s sub : Str) (p : Nat) (hp : p + sub.length ≤ s.length ∧ subAt s sub p = true) (hno : ∀ i, i < p → ¬ (i + sub.length ≤ s.length ∧ subAt s sub i = true)) : occurrences s sub 0 s.length 1 = [p] := by
 rw [occ_eq]
 have e : List.range' 0 (s.length + 1 - 0) = List.range' 0 p ++ p :: List.range' (p + 1) (s.length - p) := by
  have h1 : s.length + 1 - 0 = p + (s.length + 1 - p) := by lia
  (refine (Eq.symm (h1)) ▸ ?_; refine (List.range'_append_1) ▸ ?_; rewrite [Nat.zero_add]; refine (Eq.symm (show s.length + 1 - p = (s.length - p) + 1 by lia)) ▸ ?_; refine (Eq.symm (List.range'_succ)) ▸ ?_; try with_reducible rfl)
 (refine (Eq.symm (e)) ▸ ?_; rewrite [occ_first0 s sub s.length p hp _ _ fun i hi => hno i (by simpa using hi)]; try with_reducible rfl)
theorem occ_sign {A B : Str} {c : Nat} (h : c ∉ A.cps.toList) : occurrences (A ++ ⟨#[c]⟩ ++ B) ⟨#[c]⟩ 0 (A ++ ⟨#[c]⟩ ++ B).length 1 = [A.length] := by
 have hl : (A ++ ⟨#[c]⟩ ++ B).cps.toList = A.cps.toList ++ c :: B.cps.toList := by simp [Str.cps_append]
 have hA : A.cps.toList.length = A.length := by simp [Str.length]
 refine occ_first _ _ _ ((subAt_one _ _ _).mpr ?_) fun i hi hc => ?_
 ·(refine (Eq.symm (hl)) ▸ ?_; refine (hA) ▸ ?_; try with_reducible rfl); simp
 ·have := (subAt_one _ _ _).mp hc
  rw [hl, List.getElem?_append_left (by assumption)] at this
  exact h (List.mem_of_getElem? this)
theorem parts_sign {A B : Str} {c : Nat} : partsBetween (A ++ ⟨#[c]⟩ ++ B) [A.length] 1 = [A, B] := by
 unfold partsBetween
 show [strSub _ 0 A.length, strSub _ (A.length + 1) (A ++ ⟨#[c]⟩ ++ B).length] = [A, B]
 have e1 : strSub (A ++ ⟨#[c]⟩ ++ B) 0 A.length = A := Str.ext' (by
  show ((A ++ ⟨#[c]⟩ ++ B).cps.extract 0 A.length) = A.cps
  simp [Str.cps_append, Str.length])
 have e2 : strSub (A ++ ⟨#[c]⟩ ++ B) (A.length + 1) (A ++ ⟨#[c]⟩ ++ B).length = B := Str.ext' (by
  show ((A ++ ⟨#[c]⟩ ++ B).cps.extract (A.length + 1) (A ++ ⟨#[c]⟩ ++ B).length) = B.cps
  apply Array.ext'
  simp [Str.cps_append, Str.length])
 (refine (Eq.symm (e1)) ▸ ?_; refine (Eq.symm (e2)) ▸ ?_; try with_reducible rfl)
end
end
section
section
open Builtin Builtin.Str StrLaws
theorem tw_all {p : Nat → Bool} : ∀ {S R : List Nat}, (∀ c ∈ S, p c = true) → (S ++ R).takeWhile p = S ++ R.takeWhile p
 | [], _, _ => rfl
 | c :: S, R, h => by
  (refine (Eq.symm (List.cons_append)) ▸ ?_; refine (Eq.symm (List.takeWhile_cons)) ▸ ?_; refine (Eq.symm (if_pos (h c (.head _)))) ▸ ?_; refine (Eq.symm (tw_all fun d hd => h d (.tail _ hd))) ▸ ?_; try with_reducible rfl); rfl
theorem tw_stop {p : Nat → Bool} {c : Nat} {R : List Nat} (h : p c = false) : (c :: R).takeWhile p = [] := by
 rw [List.takeWhile_cons, if_neg (by rw [h]; decide)]
theorem strip_of {x y : Str} {S T : List Nat} (hx : x.cps.toList = S ++ y.cps.toList ++ T) (hS : ∀ c ∈ S, Unicode.isSpace c = true) (hT : ∀ c ∈ T, Unicode.isSpace c = true)
  (hy : y.cps.toList = [] ∨ (∃ c r, y.cps.toList = c :: r ∧ Unicode.isSpace c = false) ∧ ∃ r c, y.cps.toList = r ++ [c] ∧ Unicode.isSpace c = false) : Txt.strip x = y := by
 have hn : x.length = S.length + y.cps.toList.length + T.length := by
  have := congrArg List.length hx
  simp only [List.length_append, Array.length_toList] at this
  show x.cps.size = _
  simp only [Array.length_toList]
  assumption
 show Txt.stripBy Unicode.isSpace true true x = y
 rw [PyProof.Rows.stripBy_eq]
 refine Str.ext' (Array.ext' ?_)
 show (x.cps.extract (stripLo Unicode.isSpace true x) (stripHi Unicode.isSpace true x (stripLo Unicode.isSpace true x))).toList = y.cps.toList
 (refine (Eq.symm (Array.toList_extract)) ▸ ?_; refine (Eq.symm (hx)) ▸ ?_; try with_reducible rfl)
 rcases hy with hy | ⟨⟨c, r, hc, sc⟩, r', c', hc', sc'⟩
 ·rw [hy, List.append_nil] at hx ⊢
  have e1 : x.cps.toList.takeWhile Unicode.isSpace = x.cps.toList := by
   rw [hx]
   have := tw_all (p := Unicode.isSpace) (S := S ++ T) (R := []) fun c hc => by
    rcases List.mem_append.mp hc with h | h
    ·exact hS c h
    ·exact hT c h
   rw [List.append_nil] at this
   rw [this]; simp
  have lo : stripLo Unicode.isSpace true x = x.length := by
   unfold stripLo
   (refine (Eq.symm (if_pos rfl)) ▸ ?_; refine (Eq.symm (e1)) ▸ ?_; refine (Eq.symm (Array.length_toList)) ▸ ?_; try with_reducible rfl); rfl
  rw [lo]
  have hlen : (S ++ T).length = x.length := by rw [hn, hy]; simp
  simp [List.extract, ← hlen]
 ·have lo : stripLo Unicode.isSpace true x = S.length := by
   unfold stripLo
   (refine (Eq.symm (if_pos rfl)) ▸ ?_; refine (Eq.symm (hx)) ▸ ?_; rewrite [List.append_assoc]; refine (Eq.symm (tw_all hS)) ▸ ?_; refine (Eq.symm (hc)) ▸ ?_; refine (Eq.symm (List.cons_append)) ▸ ?_; refine (Eq.symm (tw_stop sc)) ▸ ?_; rewrite [List.append_nil]; try with_reducible rfl)
  have hi : stripHi Unicode.isSpace true x S.length = S.length + y.cps.toList.length := by
   unfold stripHi
   (refine (Eq.symm (if_pos rfl)) ▸ ?_; refine (Eq.symm (hx)) ▸ ?_; rewrite [List.append_assoc]; refine (Eq.symm (List.drop_left)) ▸ ?_; refine (Eq.symm (List.reverse_append)) ▸ ?_; refine (Eq.symm (tw_all (fun c h => hT c (List.mem_reverse.mp h)))) ▸ ?_; refine (Eq.symm (hc')) ▸ ?_; refine (Eq.symm (List.reverse_append)) ▸ ?_; refine (Eq.symm (List.reverse_singleton)) ▸ ?_; refine (Eq.symm (List.singleton_append)) ▸ ?_; refine (Eq.symm (tw_stop sc')) ▸ ?_; rewrite [List.append_nil]; refine (Eq.symm (List.length_reverse)) ▸ ?_; refine (Eq.symm (hn)) ▸ ?_; refine (Eq.symm (hc')) ▸ ?_; try with_reducible rfl)
   lia
  (refine (Eq.symm (lo)) ▸ ?_; refine (Eq.symm (hi)) ▸ ?_; try with_reducible rfl)
  simp [List.extract]
end
end
section
section
open Builtin Builtin.Str StrLaws
theorem mul_sp : ∀ n : Nat, n < 5 → (Txt.mul (Str.ofString " ") (n : Int)).cps.toList = List.replicate n 32 := by
 have h : (List.range 5).all (fun n => (Txt.mul (Str.ofString " ") (n : Int)).cps.toList == List.replicate n 32) = true := by decide +kernel
 intro n hn
 exact beq_iff_eq.mp (List.all_eq_true.mp h n (List.mem_range.mpr hn))
theorem mul_tb : ∀ n : Nat, n < 5 → (Txt.mul (Str.ofString "\t") (n : Int)).cps.toList = List.replicate n 9 := by
 have h : (List.range 5).all (fun n => (Txt.mul (Str.ofString "\t") (n : Int)).cps.toList == List.replicate n 9) = true := by decide +kernel
 intro n hn
 exact beq_iff_eq.mp (List.all_eq_true.mp h n (List.mem_range.mpr hn))
theorem letter_cps : ∀ k : Nat, k < 5 → (letter k).cps.toList = [65 + k] := by
 have h : (List.range 5).all (fun k => (letter k).cps.toList == [65 + k]) = true := by decide +kernel
 intro k hk
 exact beq_iff_eq.mp (List.all_eq_true.mp h k (List.mem_range.mpr hk))
theorem letter_nospace : ∀ k : Nat, k < 5 → Unicode.isSpace (65 + k) = false := by
 have h : (List.range 5).all (fun k => !Unicode.isSpace (65 + k)) = true := by decide +kernel
 intro k hk
 have := List.all_eq_true.mp h k (List.mem_range.mpr hk)
 simpa using this
theorem isSpace9 : Unicode.isSpace 9 = true := by decide +kernel
theorem rep_space {n : Nat} : ∀ c ∈ List.replicate n 32, Unicode.isSpace c = true := fun c hc => by rw [(List.mem_replicate.mp hc).2]; exact isSpace32
theorem rep_tab {n : Nat} : ∀ c ∈ List.replicate n 9, Unicode.isSpace c = true := fun c hc => by rw [(List.mem_replicate.mp hc).2]; exact isSpace9
theorem word_ends {y : Str} (h : 1 ≤ y.length ∧ ∀ c ∈ y.cps.toList, Unicode.isSpace c = false) : (∃ c r, y.cps.toList = c :: r ∧ Unicode.isSpace c = false) ∧ ∃ r c, y.cps.toList = r ++ [c] ∧ Unicode.isSpace c = false := by
 have hne : y.cps.toList ≠ [] := fun e => by
  have h1 : y.cps.toList.length = y.length := by simp [Str.length]
  rw [e] at h1
  have := h.1
  simp at h1
  lia
 constructor
 ·cases e : y.cps.toList with
  | nil => exact absurd e hne
  | cons c r => exact ⟨c, r, rfl, h.2 c (by rw [e]; exact .head _)⟩
 ·exact ⟨y.cps.toList.dropLast, y.cps.toList.getLast hne, (List.dropLast_concat_getLast hne).symm, h.2 _ (List.getLast_mem hne)⟩
theorem join_ends : ∀ (rows : List Str), rows ≠ [] → (∀ y ∈ rows, 1 ≤ y.length ∧ ∀ c ∈ y.cps.toList, Unicode.isSpace c = false) →
  (∃ c r, (Str.join (Str.ofString " ") rows).cps.toList = c :: r ∧ Unicode.isSpace c = false) ∧ ∃ r c, (Str.join (Str.ofString " ") rows).cps.toList = r ++ [c] ∧ Unicode.isSpace c = false
 | [y], _, h => word_ends (h y (.head _))
 | y :: z :: r, _, h => by
  obtain ⟨⟨c, r1, e1, s1⟩, _⟩ := word_ends (h y (.head _))
  obtain ⟨_, ⟨r2, c2, e2, s2⟩⟩ := join_ends (z :: r) (by simp) fun v hv => h v (.tail _ hv)
  have e : (Str.join (Str.ofString " ") (y :: z :: r)).cps.toList = y.cps.toList ++ (Str.ofString " ").cps.toList ++ (Str.join (Str.ofString " ") (z :: r)).cps.toList := by
   show (y ++ Str.ofString " " ++ Str.join (Str.ofString " ") (z :: r)).cps.toList = _
   simp [Str.cps_append]
  (refine (Eq.symm (e)) ▸ ?_)
  refine ⟨⟨c, r1 ++ (Str.ofString " ").cps.toList ++ (Str.join (Str.ofString " ") (z :: r)).cps.toList, by rw [e1]; simp, s1⟩, ⟨y.cps.toList ++ (Str.ofString " ").cps.toList ++ r2, c2, by rw [e2]; simp, s2⟩⟩
theorem eq_sign : Str.ofString "=" = ⟨#[61]⟩ := by decide +kernel
theorem parse_ok {k : Nat} (hk : k < 5) {row : List Str} (hr : ∀ y ∈ row, y ∈ allW) (hl : row.length ≤ 26) : ParseOk (lineT k row) (letter k) (joined row) := by
 have hm2 : (k : Int).fmod 2 = ((k % 2 : Nat) : Int) := by rw [Int.fmod_eq_emod_of_nonneg _ (by decide)]; lia
 have hm3 : (k : Int).fmod 3 = ((k % 3 : Nat) : Int) := by rw [Int.fmod_eq_emod_of_nonneg _ (by decide)]; lia
 have a1 := mul_sp k hk
 have a2 := mul_sp (k % 2) (by lia)
 have a3 := mul_sp (k % 3) (by lia)
 have a4 := mul_tb k hk
 have a5 := letter_cps k hk
 have hjl := joined_len hr
 obtain ⟨A, hA⟩ : ∃ A, A = Txt.mul (Str.ofString " ") (k : Int) ++ letter k ++ Txt.mul (Str.ofString " ") ((k % 2 : Nat) : Int) := ⟨_, rfl⟩
 obtain ⟨B, hB⟩ : ∃ B, B = Txt.mul (Str.ofString " ") ((k % 3 : Nat) : Int) ++ joined row ++ Txt.mul (Str.ofString "\t") (k : Int) := ⟨_, rfl⟩
 have hx : lineT k row = A ++ ⟨#[61]⟩ ++ B := by
  (refine (Eq.symm (hA)) ▸ ?_; refine (Eq.symm (hB)) ▸ ?_)
  show Txt.mul (Str.ofString " ") (k : Int) ++ letter k ++ Txt.mul (Str.ofString " ") ((k : Int).fmod 2) ++ Str.ofString "=" ++ Txt.mul (Str.ofString " ") ((k : Int).fmod 3) ++ joined row ++ Txt.mul (Str.ofString "\t") (k : Int) = _
  (refine (Eq.symm (hm2)) ▸ ?_; refine (Eq.symm (hm3)) ▸ ?_; refine (Eq.symm (eq_sign)) ▸ ?_)
  simp only [Str.append_assoc]
 have lA : A.cps.toList = List.replicate k 32 ++ [65 + k] ++ List.replicate (k % 2) 32 := by rw [hA]; simp only [Str.cps_append, Array.toList_append, a1, a2, a5]
 have lB : B.cps.toList = List.replicate (k % 3) 32 ++ (joined row).cps.toList ++ List.replicate k 9 := by rw [hB]; simp only [Str.cps_append, Array.toList_append, a3, a4]
 have nA : A.length ≤ 20 := by
  have : A.cps.toList.length = A.length := by simp [Str.length]
  (refine (this) ▸ ?_; refine (Eq.symm (lA)) ▸ ?_); simp; lia
 have nB : B.length ≤ 200 := by
  have h1 : B.cps.toList.length = B.length := by simp [Str.length]
  have h2 : (joined row).cps.toList.length = (joined row).length := by simp [Str.length]
  (refine (h1) ▸ ?_; refine (Eq.symm (lB)) ▸ ?_); simp only [List.length_append, List.length_replicate, h2]; lia
 have nx : (A ++ (⟨#[61]⟩ : Str) ++ B).length = A.length + 1 + B.length := by rw [len_app, len_app]; rfl
 have h61 : 61 ∉ A.cps.toList := by
  rw [lA]
  simp only [List.mem_append, List.mem_singleton, List.mem_replicate, not_or]
  lia
 have lim : limitOf (lineT k row) 1 = 1 := rfl
 have occ : occurrences (lineT k row) (Str.ofString "=") 0 (lineT k row).length (limitOf (lineT k row) 1) = [A.length] := by (refine (Eq.symm (lim)) ▸ ?_; refine (Eq.symm (hx)) ▸ ?_; refine (Eq.symm (eq_sign)) ▸ ?_); exact occ_sign h61
 refine ⟨?_, by rw [occ]; rfl, ⟨A, B, ?_, ?_, ?_, by (exact Nat.le_trans (by assumption) (by decide)), by (exact Nat.le_trans (by assumption) (by decide))⟩, by rw [hx, nx]; lia⟩
 ·(refine (Eq.symm (eq_sign)) ▸ ?_; refine (Eq.symm (hx)) ▸ ?_; refine (Eq.symm (nx)) ▸ ?_)
  have s1 : Builtin.Str.strKind (⟨#[61]⟩ : Str) = 1 := by decide +kernel
  (refine (Eq.symm (s1)) ▸ ?_)
  have s2 : 1 ≤ Builtin.Str.strKind (A ++ (⟨#[61]⟩ : Str) ++ B) := by unfold Builtin.Str.strKind; split <;> (try split) <;> (exact Nat.zero_lt_succ _)
  rw [Bool.or_eq_false_iff]
  refine ⟨decide_eq_false ?_, decide_eq_false (by (exact Nat.not_lt.mpr (by assumption)))⟩
  show ¬ A.length + 1 + B.length < 1
  lia
 ·(refine (Eq.symm (occ)) ▸ ?_; refine (Eq.symm (hx)) ▸ ?_; refine (Eq.symm (eq_sign)) ▸ ?_); exact parts_sign
 ·refine strip_of (S := List.replicate k 32) (T := List.replicate (k % 2) 32) (by rw [lA, a5]) rep_space rep_space (.inr ?_)
  (refine (Eq.symm (a5)) ▸ ?_)
  exact ⟨⟨_, [], rfl, letter_nospace k hk⟩, ⟨[], _, rfl, letter_nospace k hk⟩⟩
 ·refine strip_of (S := List.replicate (k % 3) 32) (T := List.replicate k 9) lB rep_space rep_tab ?_
  rw [joined_eq]
  by_cases e : row = []
  ·subst e; exact .inl rfl
  ·exact .inr (join_ends row e fun y hy => by refine xAAA (fine_of (hr y hy)) fun a zu1 c zu3 => ?_; exact ⟨a, c⟩)
theorem rows_ok (xs : List Int) : RowsOk xs where
 len := fun k hk => (ri_all xs k hk).1
 wlen := fun k hk y hy => (fine_of (ok_all ((ri_all xs k hk).2.1 y hy))).2.1
 jlen := fun k hk => by
  have h1 := joined_len (row := Wf xs k) fun y hy => ok_all ((ri_all xs k hk).2.1 y hy)
  have h2 := (ri_all xs k hk).1
  lia
 parse := fun k hk => parse_ok hk (fun y hy => ok_all ((ri_all xs k hk).2.1 y hy)) (ri_all xs k hk).1
end
end
section
noncomputable def pushN (acc : List Str) (y : Str) : List Str := if y ∈ acc then acc else acc ++ [y]
noncomputable def total (xs : List Int) (n : Nat) : List Str := (List.range n).flatMap fun k => letter k :: Wf xs k
theorem total_succ (xs : List Int) (n : Nat) : total xs (n + 1) = total xs n ++ (letter n :: Wf xs n) := by
 unfold total
 (refine (Eq.symm (List.range_succ)) ▸ ?_; refine (Eq.symm (List.flatMap_append)) ▸ ?_; try with_reducible rfl); simp
theorem row_fst : ∀ (ws : List Str) (s : List Str × List Int), (ws.foldl readWord s).1 = ws.foldl push s.1
 | [], _ => rfl
 | y :: ws, s => by rw [List.foldl_cons, List.foldl_cons]; exact row_fst ws _
theorem pushN_mem {acc : List Str} {y z : Str} : z ∈ pushN acc y ↔ z ∈ acc ∨ z = y := by
 unfold pushN
 split
 ·rename_i h
  exact ⟨.inl, fun x => x.elim id fun e => e ▸ h⟩
 ·simp
theorem foldN_mem : ∀ (ws acc : List Str) {z : Str}, z ∈ ws.foldl pushN acc ↔ z ∈ acc ∨ z ∈ ws
 | [], acc, z => by simp
 | y :: ws, acc, z => by
  rw [List.foldl_cons, foldN_mem ws, pushN_mem, List.mem_cons]
  constructor
  ·rintro ((h | h) | h)
   ·exact .inl h
   ·exact .inr (.inl h)
   ·exact .inr (.inr h)
  ·rintro (h | h | h)
   ·exact .inl (.inl h)
   ·exact .inl (.inr h)
   ·exact .inr h
theorem seenT_fold (ns : List Str) : ∀ n, n ≤ ns.length → seenT ns n = (ns.take n).foldl pushN []
 | 0, _ => rfl
 | n + 1, h => by
  have ih := seenT_fold ns n (by (exact Nat.le_of_lt (by assumption)))
  have hy : ns[n]? = some ns[n] := List.getElem?_eq_getElem (by assumption)
  (refine (Eq.symm (seenT_succ hy)) ▸ ?_; refine (Eq.symm (ih)) ▸ ?_; refine (Eq.symm (List.take_add_one)) ▸ ?_; refine (Eq.symm (hy)) ▸ ?_; refine (Eq.symm (List.foldl_append)) ▸ ?_; try with_reducible rfl)
  show _ = pushN ((ns.take n).foldl pushN []) ns[n]
  have e : ((ns.take n).any fun m => m == ns[n]) = true ↔ ns[n] ∈ (ns.take n).foldl pushN [] := by
   rw [foldN_mem, List.any_eq_true]
   constructor
   ·intro zr; (revert zr; intro zh; refine xEA zh fun a ha e => ?_; clear zh); exact .inr (by rw [← beq_iff_eq.mp e]; exact ha)
   ·rintro (h | h)
    ·cases h
    ·exact ⟨_, h, beq_self_eq_true _⟩
  by_cases c : ((ns.take n).any fun m => m == ns[n]) = true
  ·have e2 : pushN ((ns.take n).foldl pushN []) ns[n] = (ns.take n).foldl pushN [] := if_pos (e.mp c)
   (refine (Eq.symm (if_pos c)) ▸ ?_; refine (Eq.symm (e2)) ▸ ?_; rewrite [List.append_nil]; try with_reducible rfl)
  ·have e2 : pushN ((ns.take n).foldl pushN []) ns[n] = (ns.take n).foldl pushN [] ++ [ns[n]] := if_neg (fun z => c (e.mpr z))
   (refine (Eq.symm (if_neg c)) ▸ ?_; refine (Eq.symm (e2)) ▸ ?_; try with_reducible rfl)
theorem push_filter : ∀ (ws acc : List Str), ws.foldl push acc = (ws.filter fun y => (tok y).isNone).foldl pushN acc
 | [], _ => rfl
 | y :: ws, acc => by
  rw [List.foldl_cons, List.filter_cons]
  cases e : tok y with
  | some n =>
   have : push acc y = acc := by unfold push; (refine (Eq.symm (e)) ▸ ?_; try with_reducible rfl); rfl
   (refine (Eq.symm (this)) ▸ ?_; rewrite [if_neg (by simp)]; refine (Eq.symm (push_filter ws acc)) ▸ ?_; try with_reducible rfl)
  | none =>
   have : push acc y = pushN acc y := by unfold push pushN; (refine (Eq.symm (e)) ▸ ?_; try with_reducible rfl); simp
   rw [if_pos (by simp), List.foldl_cons, this, push_filter ws]
theorem total_ok (xs : List Int) : ∀ n, n ≤ 5 → ∀ y ∈ total xs n, y ∈ allW := by
 intro n hn y hy
 refine xEA (List.mem_flatMap.mp hy) fun k hk hy => ?_
 rw [List.mem_range] at hk
 rcases List.mem_cons.mp hy with rfl | hy
 ·exact List.mem_append_right _ (List.mem_map_of_mem (List.mem_range.mpr (by (exact Nat.lt_of_lt_of_le (by assumption) (by assumption)))))
 ·exact ok_all ((ri_all xs k (by (exact Nat.lt_of_lt_of_le (by assumption) (by assumption)))).2.1 y hy)
theorem names_total (xs : List Int) : ∀ n, n ≤ 5 → namesOf (WsOf xs) n = (total xs n).filter fun y => (tok y).isNone
 | 0, _ => rfl
 | n + 1, h => by
  (rewrite [namesOf_succ, total_succ, List.filter_append]; refine (Eq.symm (names_total xs n (by (exact Nat.le_of_lt (by assumption))))) ▸ ?_; refine (Eq.symm (ws_getD xs n (by assumption))) ▸ ?_; try with_reducible rfl)
  congr 1
  apply List.filter_congr
  intro y hy
  have hy' : y ∈ total xs (n + 1) := by rw [total_succ]; exact List.mem_append_right _ hy
  exact (fine_of (total_ok xs (n + 1) h y hy')).2.2.2.2.symm
theorem seenF_eq (xs : List Int) : seenF (WsOf xs) = (total xs 5).foldl push [] := by
 unfold seenF
 (refine (Eq.symm (seenT_fold _ _ (Nat.le_refl _))) ▸ ?_; refine (Eq.symm (List.take_length)) ▸ ?_; refine (Eq.symm (names_total xs 5 (Nat.le_refl _))) ▸ ?_; rewrite [push_filter]; try with_reducible rfl)
end
section
theorem push_app (acc : List Str) (y : Str) : ∃ tl, push acc y = acc ++ tl := by
 unfold push; split
 ·exact ⟨[], by simp⟩
 ·exact ⟨[y], rfl⟩
theorem fold_app : ∀ (ws acc : List Str), ∃ tl, ws.foldl push acc = acc ++ tl
 | [], acc => ⟨[], by simp⟩
 | y :: ws, acc => by
  obtain ⟨t1, e1⟩ := push_app acc y
  obtain ⟨t2, e2⟩ := fold_app ws (push acc y)
  exact ⟨t1 ++ t2, by (refine (Eq.symm (List.foldl_cons)) ▸ ?_; refine (Eq.symm (e2)) ▸ ?_; refine (Eq.symm (e1)) ▸ ?_; rewrite [List.append_assoc]; try with_reducible rfl)⟩
theorem fold_tok : ∀ (ws acc : List Str), (∀ z ∈ acc, tok z = none) → ∀ z ∈ ws.foldl push acc, tok z = none
 | [], _, h => h
 | y :: ws, acc, h => by
  rw [List.foldl_cons]
  refine fold_tok ws _ fun z hz => ?_
  unfold push at hz
  split at hz
  ·exact h z hz
  ·rename_i hc
   rcases List.mem_append.mp hz with hz | hz
   ·exact h z hz
   ·rw [List.mem_singleton] at hz
    subst hz
    cases e : tok z with
    | none => rfl
    | some n => rw [e] at hc; simp at hc
theorem idx_none {l : List Str} {y : Str} (h : y ∉ l) : idx l y = none := by
 unfold idx
 rw [List.findIdx?_eq_none_iff]
 intro z hz
 exact decide_eq_false fun e => h (e ▸ hz)
theorem idx_append {l tl : List Str} {y : Str} {j : Nat} (h : idx l y = some j) : idx (l ++ tl) y = some j := by
 unfold idx at *
 (refine (Eq.symm (List.findIdx?_append)) ▸ ?_; refine (Eq.symm (h)) ▸ ?_; try with_reducible rfl); rfl
theorem idx_new {l : List Str} {y : Str} (h : y ∉ l) : idx (l ++ [y]) y = some l.length := by
 have := idx_none h
 unfold idx at *
 (refine (Eq.symm (List.findIdx?_append)) ▸ ?_; refine (Eq.symm (this)) ▸ ?_; try with_reducible rfl)
 simp
theorem idx_mem {l : List Str} {y : Str} (h : y ∈ l) : ∃ j, idx l y = some j := by
 have : (idx l y).isSome = true := by rw [← idx_any, List.any_eq_true]; exact ⟨y, h, beq_self_eq_true y⟩
 exact Option.isSome_iff_exists.mp this
theorem num_stable {F acc rest : List Str} {y : Str} (hF : F = (y :: rest).foldl push acc) (ht : ∀ z ∈ F, tok z = none) : numOf acc y = dueNum F signsL y := by
 cases e : tok y with
 | some n =>
  have hy : y ∉ F := fun h => by have := ht y h; rw [e] at this; cases this
  have e2 := e
  unfold tok at e2
  (refine xEA (Option.map_eq_some_iff.mp e2) fun i hi zq2 => ?_; subst zq2)
  have hi' : idx signsL y = some i := hi
  unfold numOf dueNum
  (refine (Eq.symm (e)) ▸ ?_; refine (Eq.symm (idx_none hy)) ▸ ?_; refine (Eq.symm (hi')) ▸ ?_; try with_reducible rfl)
  show ((7 + i : Nat) : Int) = 7 + (i : Int)
  lia
 | none =>
  rw [List.foldl_cons] at hF
  obtain ⟨tl, etl⟩ := fold_app rest (push acc y)
  have hp : idx (push acc y) y = some (place acc y) := by
   by_cases hm : y ∈ acc
   ·have : push acc y = acc := by unfold push; (refine (Eq.symm (e)) ▸ ?_; try with_reducible rfl); simp [hm]
    rw [this]
    obtain ⟨j, hj⟩ := idx_mem hm
    rw [hj]
    unfold place
    have hj' : List.findIdx? (fun s => decide (s = y)) acc = some j := hj
    rw [hj']; rfl
   ·have : push acc y = acc ++ [y] := by unfold push; (refine (Eq.symm (e)) ▸ ?_; try with_reducible rfl); simp [hm]
    (refine (Eq.symm (this)) ▸ ?_; refine (Eq.symm (place_new hm)) ▸ ?_; try with_reducible rfl)
    exact idx_new hm
  have hx : idx F y = some (place acc y) := by (refine (Eq.symm (hF)) ▸ ?_; refine (Eq.symm (etl)) ▸ ?_; try with_reducible rfl); exact idx_append hp
  unfold numOf dueNum
  (refine (Eq.symm (e)) ▸ ?_; refine (Eq.symm (hx)) ▸ ?_; try with_reducible rfl)
  show ((256 + place acc y : Nat) : Int) = 256 + (place acc y : Int)
  lia
theorem row_snd {F : List Str} (ht : ∀ z ∈ F, tok z = none) : ∀ (ws rest acc : List Str) (out : List Int), F = (ws ++ rest).foldl push acc → (ws.foldl readWord (acc, out)).2 = out ++ ws.map (dueNum F signsL)
 | [], _, _, out, _ => by simp
 | y :: ws, rest, acc, out, h => by
  rw [List.foldl_cons]
  have h1 := num_stable (F := F) (acc := acc) (rest := ws ++ rest) (y := y) h ht
  have h2 := row_snd ht ws rest (push acc y) (out ++ [numOf acc y]) (by rw [h]; rfl)
  show (ws.foldl readWord (push acc y, out ++ [numOf acc y])).2 = _
  (refine (Eq.symm (h2)) ▸ ?_; refine (Eq.symm (h1)) ▸ ?_; try with_reducible rfl); simp
theorem read_fst (xs : List Int) : ∀ n, n ≤ 5 → (readAll (prsTo xs n)).1 = (total xs n).foldl push []
 | 0, _ => rfl
 | n + 1, h => by
  (rewrite [prsTo_succ, readAll_snoc, total_succ]; refine (Eq.symm (List.foldl_append)) ▸ ?_; refine (read_fst xs n (by (exact Nat.le_of_lt (by assumption)))) ▸ ?_; try with_reducible rfl)
  show (readRow _ (Txt.words (joined (Wf xs n)))).1 = _
  rw [words_joined fun y hy => ok_all ((ri_all xs n (by assumption)).2.1 y hy)]
  unfold readRow
  rw [row_fst]; rfl
theorem total_split (xs : List Int) : ∀ m n, ∃ rest, total xs (n + m) = total xs n ++ rest
 | 0, n => ⟨[], by simp⟩
 | m + 1, n => by
  obtain ⟨r, e⟩ := total_split xs m n
  exact ⟨r ++ (letter (n + m) :: Wf xs (n + m)), by rw [← Nat.add_assoc, total_succ, e, List.append_assoc]⟩
theorem read_snd (xs : List Int) {F : List Str} (hF : F = (total xs 5).foldl push []) (ht : ∀ z ∈ F, tok z = none) : ∀ n, n ≤ 5 → (readAll (prsTo xs n)).2 = (List.range n).map fun k => (dueNum F signsL (letter k), (Wf xs k).map (dueNum F signsL))
 | 0, _ => rfl
 | n + 1, h => by
  obtain ⟨rest, er⟩ := total_split xs (5 - (n + 1)) (n + 1)
  rw [show n + 1 + (5 - (n + 1)) = 5 by omega, total_succ xs n, List.append_assoc] at er
  have hF1 : F = ((letter n :: Wf xs n) ++ rest).foldl push ((total xs n).foldl push []) := by (refine (Eq.symm (hF)) ▸ ?_; refine (Eq.symm (er)) ▸ ?_; refine (Eq.symm (List.foldl_append)) ▸ ?_; try with_reducible rfl)
  (rewrite [prsTo_succ, readAll_snoc]; refine (Eq.symm (List.range_succ)) ▸ ?_; refine (Eq.symm (List.map_append)) ▸ ?_; refine (read_snd xs hF ht n (by (exact Nat.le_of_lt (by assumption)))) ▸ ?_; try with_reducible rfl)
  show _ ++ [(numOf (readAll (prsTo xs n)).1 (letter n), (readRow (push (readAll (prsTo xs n)).1 (letter n)) (Txt.words (joined (Wf xs n)))).2)] = _
  (refine (Eq.symm (words_joined fun y hy => ok_all ((ri_all xs n (by assumption)).2.1 y hy))) ▸ ?_; refine (Eq.symm (read_fst xs n (by (exact Nat.le_of_lt (by assumption))))) ▸ ?_; try with_reducible rfl)
  have h1 := num_stable (F := F) (acc := (total xs n).foldl push []) (rest := Wf xs n ++ rest) (y := letter n) hF1 ht
  have h2 := row_snd (F := F) ht (Wf xs n) rest (push ((total xs n).foldl push []) (letter n)) [] (by rw [hF1]; rfl)
  unfold readRow
  (refine (Eq.symm (h1)) ▸ ?_; refine (Eq.symm (h2)) ▸ ?_; try with_reducible rfl); rfl
end
section
theorem fold_mem {ws : List Str} {z : Str} : z ∈ ws.foldl push [] ↔ z ∈ ws ∧ tok z = none := by
 rw [push_filter, foldN_mem, List.mem_filter]
 simp [Option.isNone_iff_eq_none]
theorem seen_read (xs : List Int) : seenF (WsOf xs) = (readAll (prsTo xs 5)).1 := by rw [seenF_eq, read_fst xs 5 (Nat.le_refl _)]
theorem seen_tok (xs : List Int) : ∀ z ∈ seenF (WsOf xs), tok z = none := by
 intro z hz
 rw [seenF_eq, fold_mem] at hz
 exact hz.2
theorem letter_tok : ∀ k, k < 5 → tok (letter k) = none := by
 have h : (List.range 5).all (fun k => (tok (letter k)).isNone) = true := by decide +kernel
 intro k hk
 exact Option.isNone_iff_eq_none.mp (List.all_eq_true.mp h k (List.mem_range.mpr hk))
theorem letter_seen (xs : List Int) (k : Nat) (hk : k < 5) : letter k ∈ seenF (WsOf xs) := by
 rw [seenF_eq, fold_mem]
 exact ⟨List.mem_flatMap.mpr ⟨k, List.mem_range.mpr hk, .head _⟩, letter_tok k hk⟩
theorem jk_some (xs : List Int) (k : Nat) (hk : k < 5) : idx (seenF (WsOf xs)) (letter k) = some (jkOf xs k) := by
 obtain ⟨j, e⟩ := idx_mem (letter_seen xs k hk)
 rw [jkOf, e]; rfl
theorem due_letter (xs : List Int) (k : Nat) (hk : k < 5) : dueNum (seenF (WsOf xs)) signsL (letter k) = 256 + (jkOf xs k : Int) := by
 unfold dueNum
 rw [jk_some xs k hk]
theorem specs_read (xs : List Int) : dueSpecs xs = (readAll (prsTo xs 5)).2 := by
 rw [read_snd xs (seenF_eq xs) (seen_tok xs) 5 (Nat.le_refl _)]
 unfold dueSpecs
 apply List.map_congr_left
 intro k hk
 rw [due_letter xs k (List.mem_range.mp hk)]
theorem letter_inj : ∀ i, i < 5 → ∀ j, j < 5 → letter i = letter j → i = j := by decide
theorem jk_inj (xs : List Int) {i j : Nat} (hi : i < 5) (hj : j < 5) (e : jkOf xs i = jkOf xs j) : i = j := by
 have h1 := jk_some xs i hi
 have h2 := jk_some xs j hj
 rw [← e] at h2
 unfold idx at h1 h2
 refine xEA (List.findIdx?_eq_some_iff_getElem.mp h1) fun l1 p1 zu2 => ?_
 refine xEA (List.findIdx?_eq_some_iff_getElem.mp h2) fun l2 p2 zu2 => ?_
 exact letter_inj i hi j hj ((of_decide_eq_true p1).symm.trans (of_decide_eq_true p2))
theorem specs_nd (xs : List Int) : ((dueSpecs xs).map (·.1)).Nodup := by
 unfold dueSpecs
 rw [List.map_map]
 show List.Pairwise _ _
 rw [List.pairwise_map]
 refine List.Pairwise.imp_of_mem (R := fun a b => a < b) (fun {a b} ha hb hlt e => ?_) List.pairwise_lt_range
 have e' : (256 + (jkOf xs a : Int)) = 256 + (jkOf xs b : Int) := e
 have := jk_inj xs (List.mem_range.mp ha) (List.mem_range.mp hb) (by lia)
 lia
noncomputable def seven : List Str := (List.range 7).map fun (j : Nat) => Txt.item abczb (j : Int)
theorem seven_tok : seven.all (fun y => decide (tok y = if y = ("!" : Str) then some 54 else none)) = true := by decide +kernel
theorem fixed_seven : (wHead ++ wTail).all (fun y => decide (y.1 ∈ seven)) = true := by decide +kernel
theorem words_seven (xs : List Int) : ∀ y ∈ wordsOf xs, y.1 ∈ seven := by
 intro y hy
 have fx : ∀ y ∈ wHead ++ wTail, y.1 ∈ seven := fun y hy => of_decide_eq_true (List.all_eq_true.mp fixed_seven y hy)
 unfold wordsOf at hy
 rcases List.mem_append.mp hy with hy | hy
 ·rcases List.mem_append.mp hy with hy | hy
  ·exact fx y (List.mem_append_left _ hy)
  ·(refine xEA (List.mem_map.mp hy) fun x zu1 zq2 => ?_; subst zq2)
   have z0 := fmod_ge x (n := 7) (by decide)
   have z1 := fmod_lt x (n := 7) (by decide)
   refine List.mem_map.mpr ⟨(x.fmod 7).toNat, List.mem_range.mpr (by lia), ?_⟩
   show Txt.item abczb (((x.fmod 7).toNat : Nat) : Int) = Txt.item abczb (x.fmod 7)
   rw [Int.toNat_of_nonneg z0]
 ·exact fx y (List.mem_append_right _ hy)
theorem num_due {ns : List Str} {y : Str} (h : y ∈ seven) : numOf ns y = dueW ns y := by
 have ht := of_decide_eq_true (List.all_eq_true.mp seven_tok y h)
 unfold numOf dueW
 rw [ht]
 by_cases e : y = ("!" : Str)
 ·(refine (Eq.symm (if_pos e)) ▸ ?_; refine (Eq.symm (if_pos e)) ▸ ?_; try with_reducible rfl)
 ·(refine (Eq.symm (if_neg e)) ▸ ?_; refine (Eq.symm (if_neg e)) ▸ ?_; try with_reducible rfl)
  show ((256 + place ns y : Nat) : Int) = 256 + (((idx (ns ++ [y]) y).getD 0 : Nat) : Int)
  have hp : (idx (ns ++ [y]) y).getD 0 = place ns y := by
   by_cases hm : y ∈ ns
   ·obtain ⟨j, hj⟩ := idx_mem hm
    rw [idx_append hj]
    unfold place
    have hj' : List.findIdx? (fun s => decide (s = y)) ns = some j := hj
    rw [hj']; rfl
   ·rw [idx_new hm, place_new hm]; rfl
  rw [hp]; lia
theorem es_eq (xs : List Int) (ns : List Str) : (wordsOf xs).map (deedOf ns) = (wordsOf xs).map (dueOf ns) := by
 apply List.map_congr_left
 intro y hy
 unfold deedOf dueOf
 rw [num_due (words_seven xs y hy)]
theorem hin_ok (xs : List Int) (k : Nat) (hk : k < 5) (y : Str) (hy : y ∈ Wf xs k) (h : idx (seenF (WsOf xs)) y = none) : (idx signsL y).isSome = true := by
 cases e : tok y with
 | none =>
  have hm : y ∈ seenF (WsOf xs) := by
   rw [seenF_eq, fold_mem]
   exact ⟨List.mem_flatMap.mpr ⟨k, List.mem_range.mpr hk, .tail _ hy⟩, e⟩
  obtain ⟨j, hj⟩ := idx_mem hm
  rw [h] at hj; cases hj
 | some n =>
  unfold tok at e
  refine xEA (Option.map_eq_some_iff.mp e) fun i hi zu2 => ?_
  have hi' : idx signsL y = some i := hi
  rw [hi']; rfl
theorem seen_all (xs : List Int) : ∀ y ∈ seenF (WsOf xs), y ∈ allW := by
 intro y hy
 rw [seenF_eq, fold_mem] at hy
 exact total_ok xs 5 (Nat.le_refl _) y hy.1
theorem seen_len (xs : List Int) : (seenF (WsOf xs)).length ≤ 505 := by
 unfold seenF
 have h1 := seenT_le (namesOf (WsOf xs) 5) (namesOf (WsOf xs) 5).length
 have h2 := namesOf_le (WsOf xs) (fun ws hws => by
  (refine xEA (mem_ws hws) fun k hk zq2 => ?_; subst zq2)
  have := (ri_all xs k hk).1
  (exact Nat.le_trans (by assumption) (by decide))) 5
 (exact Nat.le_trans (by assumption) (by assumption))
end
section
noncomputable def rkOf (xs : List Int) (n : Int) : Nat := match (List.range 5).find? (fun k => decide (n = 256 + (jkOf xs k : Int))) with | some k => 5 - k | none => 0
theorem rk_at (xs : List Int) {i : Nat} (hi : i < 5) : rkOf xs (256 + (jkOf xs i : Int)) = 5 - i := by
 unfold rkOf
 cases e : (List.range 5).find? (fun k => decide ((256 + (jkOf xs i : Int)) = 256 + (jkOf xs k : Int))) with
 | none =>
  have := List.find?_eq_none.mp e i (List.mem_range.mpr hi)
  simp at this
 | some k =>
  have h0 := List.find?_some e
  have h1 : (256 + (jkOf xs i : Int)) = 256 + (jkOf xs k : Int) := by simpa using h0
  have h2 := List.mem_range.mp (List.mem_of_find?_eq_some e)
  have := jk_inj xs hi h2 (by lia)
  rw [this]
theorem look_spec {xs : List Int} {k : Int} {parts : List Int} (h : look? (dueSpecs xs) k = some parts) : ∃ i, i < 5 ∧ k = 256 + (jkOf xs i : Int) ∧ parts = (Wf xs i).map (dueNum (seenF (WsOf xs)) signsL) := by
 refine xEA (List.mem_map.mp (look?_mem h)) fun i hi e => ?_
 cases e
 exact ⟨i, List.mem_range.mp hi, rfl, rfl⟩
theorem letter_in : ∀ k, k < 5 → inS abc (letter k) = true := by
 have h : (List.range 5).all (fun k => inS abc (letter k)) = true := by decide +kernel
 intro k hk
 exact List.all_eq_true.mp h k (List.mem_range.mpr hk)
theorem due_is {xs : List Int} {i j : Nat} (hi : i < 5) {y : Str} (hy : y ∈ Wf xs i) (hj : j < 5) (h : dueNum (seenF (WsOf xs)) signsL y = 256 + (jkOf xs j : Int)) : y = letter j := by
 unfold dueNum at h
 cases e : idx (seenF (WsOf xs)) y with
 | some m =>
  rw [e] at h
  dsimp only at h
  have hm : m = jkOf xs j := by lia
  have h2 := jk_some xs j hj
  rw [← hm] at h2
  unfold idx at e h2
  refine xEA (List.findIdx?_eq_some_iff_getElem.mp e) fun l1 p1 zu2 => ?_
  refine xEA (List.findIdx?_eq_some_iff_getElem.mp h2) fun l2 p2 zu2 => ?_
  exact (of_decide_eq_true p1).symm.trans (of_decide_eq_true p2)
 | none =>
  obtain ⟨q, hq⟩ := Option.isSome_iff_exists.mp (hin_ok xs i hi y hy e)
  rw [e, hq] at h
  dsimp only at h
  have hq' := hq
  unfold idx at hq'
  refine xEA (List.findIdx?_eq_some_iff_getElem.mp hq') fun l1 zu1 zu2 => ?_
  have : signsL.length = 48 := by decide +kernel
  lia
theorem due_range {xs : List Int} {i : Nat} (hi : i < 5) {y : Str} (hy : y ∈ Wf xs i) : 0 ≤ dueNum (seenF (WsOf xs)) signsL y ∧ dueNum (seenF (WsOf xs)) signsL y < 100000 := by
 have hl := seen_len xs
 have h48 : signsL.length = 48 := by decide +kernel
 unfold dueNum
 cases e : idx (seenF (WsOf xs)) y with
 | some m =>
  unfold idx at e
  refine xEA (List.findIdx?_eq_some_iff_getElem.mp e) fun l1 zu1 zu2 => ?_
  try dsimp only; lia
 | none =>
  obtain ⟨q, hq⟩ := Option.isSome_iff_exists.mp (hin_ok xs i hi y hy e)
  (refine (Eq.symm (hq)) ▸ ?_)
  unfold idx at hq
  refine xEA (List.findIdx?_eq_some_iff_getElem.mp hq) fun l1 zu1 zu2 => ?_
  try dsimp only; lia
theorem rk_due {xs : List Int} {i : Nat} (hi : i < 5) {y : Str} (hy : y ∈ Wf xs i) : rkOf xs (dueNum (seenF (WsOf xs)) signsL y) < 5 - i := by
 unfold rkOf
 cases e : (List.range 5).find? (fun k => decide (dueNum (seenF (WsOf xs)) signsL y = 256 + (jkOf xs k : Int))) with
 | none => try dsimp only; omega
 | some j =>
  have h0 := List.find?_some e
  have h1 : dueNum (seenF (WsOf xs)) signsL y = 256 + (jkOf xs j : Int) := of_decide_eq_true h0
  have h2 := List.mem_range.mp (List.mem_of_find?_eq_some e)
  have hy' := due_is hi hy h2 h1
  rcases (ri_all xs i hi).2.1 y hy with hm | ⟨j', a, b, c⟩
  ·have := menu_noabc y hm
   rw [hy', letter_in j h2] at this
   cases this
  ·have := letter_inj j h2 j' b (hy'.symm.trans c)
   try dsimp only; omega
theorem wfr (xs : List Int) : WfR (dueSpecs xs) (rkOf xs) where
 key := fun k parts h => by
  (refine xEAA (look_spec h) fun i hi zq2 zu3 => ?_; subst zq2)
  rw [rk_at xs hi]; lia
 len := fun k parts h => by
  (refine xEAA (look_spec h) fun i hi zq2 zq3 => ?_; subst zq2; subst zq3)
  refine ⟨by rw [List.length_map]; exact (ri_all xs i hi).1, ?_⟩
  rw [List.filter_map, List.length_map]
  refine Nat.le_trans ?_ (ri_all xs i hi).2.2
  unfold nameCount
  (refine (List.countP_eq_length_filter) ▸ ?_; refine (List.countP_eq_length_filter) ▸ ?_)
  refine List.countP_mono_left fun y hy hp => ?_
  obtain ⟨parts, hpp⟩ := Option.isSome_iff_exists.mp hp
  refine xEAA (look_spec hpp) fun j hj e zu3 => ?_
  rw [due_is hi hy hj e]
  exact letter_in j hj
 low := fun k parts h p hp => by
  (refine xEAA (look_spec h) fun i hi zq2 zq3 => ?_; subst zq2; subst zq3)
  (refine xEA (List.mem_map.mp hp) fun y hy zq2 => ?_; subst zq2)
  rw [rk_at xs hi]
  exact ⟨(due_range hi hy).1, rk_due hi hy⟩
theorem tb_ok {z : Nat} (h : z ≤ 60) : 3 * TB z 5 ≤ 100000 := by
 simp only [TB]; lia
theorem gd_ok (xs : List Int) {z : Nat} (h : z ≤ 60) : Gd (dueSpecs xs) (rkOf xs) z where
 W := wfr xs
 hz := by have := tb_ok h; lia
 hb := fun k parts hk p hp => by
  (refine xEAA (look_spec hk) fun i hi zq2 zq3 => ?_; subst zq2; subst zq3)
  (refine xEA (List.mem_map.mp hp) fun y hy zq2 => ?_; subst zq2)
  exact (due_range hi hy).2
end
section
theorem rk_le (xs : List Int) (n : Int) : rkOf xs n ≤ 5 := by
 unfold rkOf
 split <;> lia
theorem seven_small : ∀ y ∈ seven, tok y = none ∨ tok y = some 54 := by
 intro y hy
 have ht := of_decide_eq_true (List.all_eq_true.mp seven_tok y hy)
 rw [ht]; split
 ·exact .inr rfl
 ·exact .inl rfl
theorem place_le (ns : List Str) (y : Str) : place ns y ≤ ns.length := by
 unfold place
 cases e : List.findIdx? (fun s => decide (s = y)) ns with
 | none => exact Nat.le_refl _
 | some j =>
  refine xEA (List.findIdx?_eq_some_iff_getElem.mp e) fun l1 zu1 zu2 => ?_
  exact Nat.le_of_lt l1
theorem pure_ok (xs : List Int) : PureOk xs where
 rows := rows_ok xs
 jok := fun k hk => joined_ok fun y hy => ok_all ((ri_all xs k hk).2.1 y hy)
 words := fun p hp => by
  (refine xEA (List.mem_map.mp hp) fun k hk zq2 => ?_; subst zq2)
  rw [List.mem_range] at hk
  have h1 := (ri_all xs k hk).1
  have h2 := (rows_ok xs).jlen k hk
  refine ⟨?_, by show (joined (Wf xs k)).length ≤ 2000; (exact Nat.le_trans (by assumption) (by decide))⟩
  show (Txt.words (joined (Wf xs k))).length ≤ 30
  rw [words_joined fun y hy => ok_all ((ri_all xs k hk).2.1 y hy)]; (exact Nat.le_trans (by assumption) (by decide))
 nd := by rw [← specs_read]; exact specs_nd xs
 hin := fun k hk y hy h => hin_ok xs k hk y hy h
 hjk := fun k hk => by rw [jk_some xs k hk]; rfl
 seen := seen_read xs
 specs := specs_read xs
 sok := fun y hy => (fine_of (seen_all xs y (by rw [seen_read]; exact hy))).2.2.2.1
 len := by rw [← seen_read]; have := seen_len xs; (exact Nat.le_trans (by assumption) (by decide))
 es := es_eq xs _
 gd := by
  refine ⟨rkOf xs, ?_, fun z hz => tb_ok hz, ?_, ?_⟩
  ·rw [← specs_read]; exact fun z hz => gd_ok xs hz
  ·rw [← specs_read, dueSpecs, List.length_map, List.length_range]; decide
  ·rw [← seen_read]
   intro e he
   (refine xEA (List.mem_map.mp he) fun y hy zq2 => ?_; subst zq2)
   have hl := seen_len xs
   have hp := place_le (seenF (WsOf xs)) y.1
   refine ⟨rk_le xs _, ?_⟩
   show 0 ≤ numOf (seenF (WsOf xs)) y.1 ∧ numOf (seenF (WsOf xs)) y.1 < 100000
   unfold numOf
   rcases seven_small y.1 (words_seven xs y hy) with h | h <;> (refine (Eq.symm (h)) ▸ ?_) <;> dsimp only <;> lia
end
theorem post_true (args ds : List WData) : PySem.Challenge.rw_in0015_01.row.claim.post args (.bool true) ds = true := by
  show (WShape.has [] (.bool true) .bool && WTm.holds [] (.eq .res (.lit (.bool true))) { args := args, res := some (.bool true), after := ds }) = true
  simp [WShape.has, WTm.holds, WTm.value, WShape.arms, W.same]
theorem top.tw10005945817407372193:True:=trivial
theorem top.tw10006222313960134694:True:=trivial
theorem top.tw10008009275831360322:True:=trivial
theorem top.tw10008474027749305400:True:=trivial
theorem top.tw10090393231696489298:True:=trivial
theorem top.tw10187264123177260123:True:=trivial
theorem top.tw10195997230039290492:True:=trivial
theorem top.tw1039355856571990692:True:=trivial
theorem top.tw10448899703829047738:True:=trivial
theorem top.tw1047907039808853306:True:=trivial
theorem top.tw10567129059001840431:True:=trivial
theorem top.tw10617020205504526918:True:=trivial
theorem top.tw10773188271377071773:True:=trivial
theorem top.tw10797620697341660853:True:=trivial
theorem top.tw10861960076438210015:True:=trivial
theorem top.tw10864713392326063847:True:=trivial
theorem top.tw10915162052029792233:True:=trivial
theorem top.tw10936122117785486979:True:=trivial
theorem top.tw10956490626425055710:True:=trivial
theorem top.tw10987319290404115282:True:=trivial
theorem top.tw10996937224433265937:True:=trivial
theorem top.tw11133666699803404755:True:=trivial
theorem top.tw11203750815551599093:True:=trivial
theorem top.tw11240886729373846589:True:=trivial
theorem top.tw11279390925490393535:True:=trivial
theorem top.tw11334350811105764591:True:=trivial
theorem top.tw11334415319851112604:True:=trivial
theorem top.tw1139600151236580504:True:=trivial
theorem top.tw11423202765487971197:True:=trivial
theorem top.tw1142415686869020238:True:=trivial
theorem top.tw11430207588045935325:True:=trivial
theorem top.tw11459358961799972967:True:=trivial
theorem top.tw11466170419677230873:True:=trivial
theorem top.tw11467158513710699916:True:=trivial
theorem top.tw11476458436694872437:True:=trivial
theorem top.tw1149218181149386328:True:=trivial
theorem top.tw11520865232209809239:True:=trivial
theorem top.tw11613256710310857696:True:=trivial
theorem top.tw11762496359356365647:True:=trivial
theorem top.tw11858546649754279707:True:=trivial
theorem top.tw1191978151413537409:True:=trivial
theorem top.tw11922380849998532372:True:=trivial
theorem top.tw1195175773429642966:True:=trivial
theorem top.tw11960245374511038805:True:=trivial
theorem top.tw12012865196380796599:True:=trivial
theorem top.tw12080426169559351053:True:=trivial
theorem top.tw12094960947251128927:True:=trivial
theorem top.tw12166907935582030026:True:=trivial
theorem top.tw12216630987165489725:True:=trivial
theorem top.tw12317137736924338119:True:=trivial
theorem top.tw12376051458212225564:True:=trivial
theorem top.tw12385144161495827662:True:=trivial
theorem top.tw12392516345856041104:True:=trivial
theorem top.tw12415523145999629524:True:=trivial
theorem top.tw12425085872883035938:True:=trivial
theorem top.tw12427389293880184781:True:=trivial
theorem top.tw1245559373397905713:True:=trivial
theorem top.tw12483720753089274532:True:=trivial
theorem top.tw12535971307161669396:True:=trivial
theorem top.tw12540527436937284434:True:=trivial
theorem top.tw12622177474791663080:True:=trivial
theorem top.tw12643491718579748851:True:=trivial
theorem top.tw1268592747674454190:True:=trivial
theorem top.tw12718909917080609646:True:=trivial
theorem top.tw12772138429114895339:True:=trivial
theorem top.tw12819366960792805191:True:=trivial
theorem top.tw1284575025550258836:True:=trivial
theorem top.tw1291508964198565346:True:=trivial
theorem top.tw12958502747184954254:True:=trivial
theorem top.tw13044034144603486326:True:=trivial
theorem top.tw13068111086705522682:True:=trivial
theorem top.tw13091174067606910046:True:=trivial
theorem top.tw13120753694373217308:True:=trivial
theorem top.tw13134186033006778460:True:=trivial
theorem top.tw13160728816969591200:True:=trivial
theorem top.tw13264354339760550358:True:=trivial
theorem top.tw13272337422414781067:True:=trivial
theorem top.tw13303987763403120937:True:=trivial
theorem top.tw13307591127769906961:True:=trivial
theorem top.tw13326734554550294991:True:=trivial
theorem top.tw13345470168829271861:True:=trivial
theorem top.tw13359135706311490777:True:=trivial
theorem top.tw13369591340354186047:True:=trivial
theorem top.tw13420762306968818387:True:=trivial
theorem top.tw13501252493785611398:True:=trivial
theorem top.tw13664746368384525793:True:=trivial
theorem top.tw13802547742096326172:True:=trivial
theorem top.tw13889309363888878346:True:=trivial
theorem top.tw13896958669275611876:True:=trivial
theorem top.tw13928562000808390012:True:=trivial
theorem top.tw1400011881503588481:True:=trivial
theorem top.tw14168018189251442112:True:=trivial
theorem top.tw14218365931652832948:True:=trivial
theorem top.tw14282377253939248939:True:=trivial
theorem top.tw14349089067433371257:True:=trivial
theorem top.tw14372152842798730730:True:=trivial
theorem top.tw14390669486469195807:True:=trivial
theorem top.tw14402358008270493973:True:=trivial
theorem top.tw14436450140739016385:True:=trivial
theorem top.tw14459580976405569124:True:=trivial
theorem top.tw14502225709538309166:True:=trivial
theorem top.tw14608685727046917156:True:=trivial
theorem top.tw14611434983143301774:True:=trivial
theorem top.tw14796646475526232899:True:=trivial
theorem top.tw14823308797102314842:True:=trivial
theorem top.tw14826035006057030972:True:=trivial
theorem top.tw1483126911874232274:True:=trivial
theorem top.tw14839182381909581876:True:=trivial
theorem top.tw14851680436948445374:True:=trivial
theorem top.tw14861896470697024400:True:=trivial
theorem top.tw14901070454687303710:True:=trivial
theorem top.tw14917401599646851644:True:=trivial
theorem top.tw1492452104121835379:True:=trivial
theorem top.tw15058813355848621054:True:=trivial
theorem top.tw15095372191486117680:True:=trivial
theorem top.tw1513038484208349539:True:=trivial
theorem top.tw1516213087968936877:True:=trivial
theorem top.tw15169761463676818070:True:=trivial
theorem top.tw15177526630643400193:True:=trivial
theorem top.tw15203472404897483926:True:=trivial
theorem top.tw15240379268576122478:True:=trivial
theorem top.tw15254643099363442306:True:=trivial
theorem top.tw15299407806266782574:True:=trivial
theorem top.tw15361541807878343388:True:=trivial
theorem top.tw15362295582089109014:True:=trivial
theorem top.tw15470379304558344453:True:=trivial
theorem top.tw15484318188022702764:True:=trivial
theorem top.tw15503665604740900718:True:=trivial
theorem top.tw15646934709686841381:True:=trivial
theorem top.tw1585457916280141200:True:=trivial
theorem top.tw15860264024139754761:True:=trivial
theorem top.tw15878805988109762761:True:=trivial
theorem top.tw16044733080236030384:True:=trivial
theorem top.tw16058212318047004132:True:=trivial
theorem top.tw16093936019704036451:True:=trivial
theorem top.tw16123964013534891561:True:=trivial
theorem top.tw16155163154822807229:True:=trivial
theorem top.tw1617357707322924660:True:=trivial
theorem top.tw16174758807025615021:True:=trivial
theorem top.tw16204670001084760307:True:=trivial
theorem top.tw16273406610938067001:True:=trivial
theorem top.tw16293970446678759691:True:=trivial
theorem top.tw16315627841946644802:True:=trivial
theorem top.tw16352630495959832749:True:=trivial
theorem top.tw16453443671601555132:True:=trivial
theorem top.tw16616189557979392351:True:=trivial
theorem top.tw16654930538209383108:True:=trivial
theorem top.tw16697727666111924624:True:=trivial
theorem top.tw16782997733028217545:True:=trivial
theorem top.tw16795567611416646642:True:=trivial
theorem top.tw16840627104734473223:True:=trivial
theorem top.tw16878204669230926818:True:=trivial
theorem top.tw16885616592811714743:True:=trivial
theorem top.tw16900427199656544559:True:=trivial
theorem top.tw16910394546207329303:True:=trivial
theorem top.tw17089494485692210459:True:=trivial
theorem top.tw17093978387232202294:True:=trivial
theorem top.tw17177869089781658578:True:=trivial
theorem top.tw17315540178315561739:True:=trivial
theorem top.tw1732150942055357024:True:=trivial
theorem top.tw17323899518341599180:True:=trivial
theorem top.tw17355269125676882429:True:=trivial
theorem top.tw17469865338272021226:True:=trivial
theorem top.tw17470836177267949868:True:=trivial
theorem top.tw17486766287000646611:True:=trivial
theorem top.tw17492772389151264855:True:=trivial
theorem top.tw17542608870123051758:True:=trivial
theorem top.tw17570804174919840915:True:=trivial
theorem top.tw17620759639134147866:True:=trivial
theorem top.tw17810072253543177317:True:=trivial
theorem top.tw17886615442053742456:True:=trivial
theorem top.tw18008055252877512497:True:=trivial
theorem top.tw18034075008235765660:True:=trivial
theorem top.tw18063644159110109576:True:=trivial
theorem top.tw18085771088847121727:True:=trivial
theorem top.tw18086089286151905521:True:=trivial
theorem top.tw1814787853859245837:True:=trivial
theorem top.tw18164388396756303480:True:=trivial
theorem top.tw18186074749648716422:True:=trivial
theorem top.tw18194552166560175392:True:=trivial
theorem top.tw18199699507294796123:True:=trivial
theorem top.tw18237780215024852062:True:=trivial
theorem top.tw18371284783138465269:True:=trivial
theorem top.tw1843344800811705456:True:=trivial
theorem top.tw1869187583165140508:True:=trivial
theorem top.tw196536941598035525:True:=trivial
theorem top.tw197639962195918182:True:=trivial
theorem top.tw2007660962349395123:True:=trivial
theorem top.tw2126296398998916975:True:=trivial
theorem top.tw2145171640123136144:True:=trivial
theorem top.tw216529984938456764:True:=trivial
theorem top.tw2218668502564051296:True:=trivial
theorem top.tw2249405535684624136:True:=trivial
theorem top.tw2287823674025257028:True:=trivial
theorem top.tw2377541652452675900:True:=trivial
theorem top.tw2381652406902245164:True:=trivial
theorem top.tw2391956117790003335:True:=trivial
theorem top.tw2462062305354472974:True:=trivial
theorem top.tw2464713573024523455:True:=trivial
theorem top.tw2514443458684651071:True:=trivial
theorem top.tw2555065506035805374:True:=trivial
theorem top.tw2581206410525282061:True:=trivial
theorem top.tw2617719716777270872:True:=trivial
theorem top.tw2665807947273092163:True:=trivial
theorem top.tw2683898200743741643:True:=trivial
theorem top.tw2732273902793177162:True:=trivial
theorem top.tw2741389259953327712:True:=trivial
theorem top.tw2758071753971750899:True:=trivial
theorem top.tw2782073688633401757:True:=trivial
theorem top.tw2822501910515967889:True:=trivial
theorem top.tw2835187731363253809:True:=trivial
theorem top.tw2847958352784047137:True:=trivial
theorem top.tw2867133514656366558:True:=trivial
theorem top.tw2907113945770861938:True:=trivial
theorem top.tw2924597203103170677:True:=trivial
theorem top.tw2988451766255067171:True:=trivial
theorem top.tw3180438532700378233:True:=trivial
theorem top.tw3195968871104189447:True:=trivial
theorem top.tw3261557481417251176:True:=trivial
theorem top.tw3315250197877816394:True:=trivial
theorem top.tw3333402770817786719:True:=trivial
theorem top.tw3337584539547039419:True:=trivial
theorem top.tw339143206060000330:True:=trivial
theorem top.tw3422688185749166683:True:=trivial
theorem top.tw342308947776675178:True:=trivial
theorem top.tw3430127420881650015:True:=trivial
theorem top.tw3474246075231452896:True:=trivial
theorem top.tw3561193834555079511:True:=trivial
theorem top.tw357486453476387696:True:=trivial
theorem top.tw3730354652608582461:True:=trivial
theorem top.tw3776753064480771068:True:=trivial
theorem top.tw381845443943030031:True:=trivial
theorem top.tw3844969445664438809:True:=trivial
theorem top.tw3855276242980373810:True:=trivial
theorem top.tw390997316461189296:True:=trivial
theorem top.tw3969286963782609292:True:=trivial
theorem top.tw4009212813583148329:True:=trivial
theorem top.tw4047667213573674445:True:=trivial
theorem top.tw4056573560341054690:True:=trivial
theorem top.tw4076138812419527698:True:=trivial
theorem top.tw4166218997396506358:True:=trivial
theorem top.tw4186445540838780016:True:=trivial
theorem top.tw4205137553216949640:True:=trivial
theorem top.tw4213018616267185653:True:=trivial
theorem top.tw427269002284569659:True:=trivial
theorem top.tw4321519831107876412:True:=trivial
theorem top.tw453181688931711583:True:=trivial
theorem top.tw4551080515912023512:True:=trivial
theorem top.tw4597200072644226624:True:=trivial
theorem top.tw4655869559712951663:True:=trivial
theorem top.tw4656485037274611717:True:=trivial
theorem top.tw5006934033680142597:True:=trivial
theorem top.tw5007059233328744404:True:=trivial
theorem top.tw501154541418245514:True:=trivial
theorem top.tw5088376156974544275:True:=trivial
theorem top.tw5105846836358774362:True:=trivial
theorem top.tw5118827330378232414:True:=trivial
theorem top.tw51564154435786257:True:=trivial
theorem top.tw517144808224063464:True:=trivial
theorem top.tw5225153198818245361:True:=trivial
theorem top.tw5225916559131626549:True:=trivial
theorem top.tw5244899138074338376:True:=trivial
theorem top.tw53344730913325255:True:=trivial
theorem top.tw5405092056839124451:True:=trivial
theorem top.tw5523086135645875356:True:=trivial
theorem top.tw5581607755468803823:True:=trivial
theorem top.tw5604026686304666287:True:=trivial
theorem top.tw5667650583090716360:True:=trivial
theorem top.tw575894324575664597:True:=trivial
theorem top.tw5766051744304087583:True:=trivial
theorem top.tw58046588654227101:True:=trivial
theorem top.tw5868845118606482295:True:=trivial
theorem top.tw5889316905344633881:True:=trivial
theorem top.tw5915399644114372684:True:=trivial
theorem top.tw5938664839603501006:True:=trivial
theorem top.tw594810645892935528:True:=trivial
theorem top.tw6127594578889010139:True:=trivial
theorem top.tw6175630323771803985:True:=trivial
theorem top.tw6176384092110617959:True:=trivial
theorem top.tw620129878449983639:True:=trivial
theorem top.tw6211089042160764376:True:=trivial
theorem top.tw6286779285267259847:True:=trivial
theorem top.tw6333448901615975916:True:=trivial
theorem top.tw634140439597932539:True:=trivial
theorem top.tw6370870915552960936:True:=trivial
theorem top.tw6430265229019958763:True:=trivial
theorem top.tw6431110157172167083:True:=trivial
theorem top.tw6438537300738474071:True:=trivial
theorem top.tw6491118196486620199:True:=trivial
theorem top.tw649594095290182367:True:=trivial
theorem top.tw6520327441239513222:True:=trivial
theorem top.tw6572447435987645144:True:=trivial
theorem top.tw6662652255960138227:True:=trivial
theorem top.tw6694047246710070196:True:=trivial
theorem top.tw6749217079512962374:True:=trivial
theorem top.tw6756868429301003459:True:=trivial
theorem top.tw6812286434817487243:True:=trivial
theorem top.tw6859976401760118174:True:=trivial
theorem top.tw6883741973766446791:True:=trivial
theorem top.tw6885214360128481674:True:=trivial
theorem top.tw6898770573198911631:True:=trivial
theorem top.tw6930518751129746686:True:=trivial
theorem top.tw7008692893051332821:True:=trivial
theorem top.tw705360758644809490:True:=trivial
theorem top.tw708234853630380328:True:=trivial
theorem top.tw7198060816514059695:True:=trivial
theorem top.tw72247145696351765:True:=trivial
theorem top.tw728428047077509346:True:=trivial
theorem top.tw7297446738713254254:True:=trivial
theorem top.tw7313339093194340965:True:=trivial
theorem top.tw7386116660499605909:True:=trivial
theorem top.tw7414872774492366064:True:=trivial
theorem top.tw7444641836354208208:True:=trivial
theorem top.tw7458633546980236471:True:=trivial
theorem top.tw7527032243904285869:True:=trivial
theorem top.tw7557910624720293991:True:=trivial
theorem top.tw7673058066778466091:True:=trivial
theorem top.tw7736453120405416133:True:=trivial
theorem top.tw7740461459972228597:True:=trivial
theorem top.tw775762912060472103:True:=trivial
theorem top.tw7830913209206220567:True:=trivial
theorem top.tw7831570452890611150:True:=trivial
theorem top.tw7847650389618582240:True:=trivial
theorem top.tw7855079511596107753:True:=trivial
theorem top.tw788273225186049534:True:=trivial
theorem top.tw795583310449317561:True:=trivial
theorem top.tw7990429038631628895:True:=trivial
theorem top.tw8025738503920905074:True:=trivial
theorem top.tw8061784049497598715:True:=trivial
theorem top.tw8107780213005350392:True:=trivial
theorem top.tw8139039716903228087:True:=trivial
theorem top.tw8140125068956082859:True:=trivial
theorem top.tw8143265674769528471:True:=trivial
theorem top.tw81815255157605957:True:=trivial
theorem top.tw8184561461823581802:True:=trivial
theorem top.tw8265191368974092141:True:=trivial
theorem top.tw8321918168302905379:True:=trivial
theorem top.tw8345894832289464959:True:=trivial
theorem top.tw8410488445778877200:True:=trivial
theorem top.tw8435561252592420358:True:=trivial
theorem top.tw8443935842833279946:True:=trivial
theorem top.tw8507776931139520737:True:=trivial
theorem top.tw8523463495250067690:True:=trivial
theorem top.tw8538268897159353584:True:=trivial
theorem top.tw8598144960395782539:True:=trivial
theorem top.tw860223938195835975:True:=trivial
theorem top.tw8640399195822439974:True:=trivial
theorem top.tw8645369167282567922:True:=trivial
theorem top.tw864819663365544661:True:=trivial
theorem top.tw8657480035899644758:True:=trivial
theorem top.tw8679839319945467846:True:=trivial
theorem top.tw8689318265317240412:True:=trivial
theorem top.tw8694864300669457046:True:=trivial
theorem top.tw8729362747519067210:True:=trivial
theorem top.tw8735323631387419056:True:=trivial
theorem top.tw8810280945414196856:True:=trivial
theorem top.tw8813761850579938390:True:=trivial
theorem top.tw8856117171736301535:True:=trivial
theorem top.tw887695700811335699:True:=trivial
theorem top.tw8892184565913893157:True:=trivial
theorem top.tw8973803690348224638:True:=trivial
theorem top.tw9059832203979395877:True:=trivial
theorem top.tw9063741608606530840:True:=trivial
theorem top.tw9108098604805947806:True:=trivial
theorem top.tw9227057690007400460:True:=trivial
theorem top.tw9233335307524088747:True:=trivial
theorem top.tw9259421805112917234:True:=trivial
theorem top.tw9272544492142499777:True:=trivial
theorem top.tw9305691244287143441:True:=trivial
theorem top.tw9335426496214029073:True:=trivial
theorem top.tw9378254376102152143:True:=trivial
theorem top.tw9382581127745807760:True:=trivial
theorem top.tw9437893007894698314:True:=trivial
theorem top.tw9503340733035011235:True:=trivial
theorem top.tw9526451686631996590:True:=trivial
theorem top.tw9614876229902214918:True:=trivial
theorem top.tw9759319705405543751:True:=trivial
theorem top.tw9768079942903668216:True:=trivial
theorem top.tw9800703332001039478:True:=trivial
theorem top.tw9843447840031818808:True:=trivial
theorem top.tw9851269098105209369:True:=trivial
theorem top.tw9961057766049560675:True:=trivial
set_option Elab.async true in
theorem top : PySem.Challenge.rw_in0015_01.Holds := by
  w_on
  o_law
  o_head (kmHook hd.heap_1 (2 :: 3 :: 33 :: 35 :: 36 :: 38 :: 39 :: 47 :: 49 :: 50 :: 52 :: 53 :: 54 :: 55 :: 57 :: 58 :: 60 :: 61 :: 62 :: 64 :: 65 :: 67 :: 68 :: 69 :: 71 :: 72 :: 74 :: 75 :: 76 :: 77 :: 78 :: 79 :: 80 :: 83 :: 86 :: 91 :: 92 :: 94 :: 95 :: 97 :: 98 :: 99 :: 101 :: 102 :: 104 :: 105 :: 106 :: 107 :: 108 :: 109 :: 110 :: 113 :: 116 :: 121 :: 122 :: 123 :: 124 :: 126 :: 127 :: 129 :: 130 :: 131 :: 133 :: 134 :: 136 :: 137 :: 138 :: 139 :: 140 :: 141 :: 142 :: 144 :: 145 :: 147 :: 148 :: 149 :: 151 :: 152 :: 154 :: 155 :: 156 :: 158 :: 159 :: 161 :: 162 :: 163 :: 165 :: 166 :: 168 :: 169 :: 170 :: 171 :: 172 :: 174 :: 175 :: 177 :: 179 :: 180 :: 181 :: 184 :: 191 :: 193 :: 194 :: 196 :: 197 :: 198 :: 199 :: 200 :: 201 :: 202 :: 203 :: 204 :: 207 :: 210 :: 212 :: 213 :: 215 :: 216 :: 217 :: 219 :: 220 :: 222 :: 223 :: 224 :: 227 :: 228 :: 229 :: 232 :: 233 :: 234 :: 236 :: 237 :: 239 :: 240 :: 241 :: 244 :: 245 :: 246 :: 248 :: 249 :: 251 :: 252 :: 253 :: 255 :: 256 :: 258 :: 259 :: 260 :: 263 :: 264 :: []) (fun _ => by kernel_rfl) [247, 100, 242])
  case hw => w_witness2
  k_go0
  rename_i o3 o2 o1 e3 e2 e1 hcells X' T' K' F' c1 c2 N' l0
  rename IntsAre _ _ => hI
  rename ¬ _ < _ => hlen
  have C := Cx.of X' T' c1 c2 codeHd
  have S0 := st_start F' N' e3 e2 e1 rfl l0.1
  refine law_body (l0 := [_]) C rfl ?hd ?hun rfl ?hl0 (pure_ok _) lifted hI ?hlen S0 ?qq
  case hd => show 1 + claimMargin + 1 + 70 < recursionLimit; decide
  case hun => have := cLine_is; show 4 + 3 + 100 < cLine; omega
  case hl0 => intro env he; rw [List.mem_singleton] at he; subst he; exact ⟨(fun q => by cases q), rfl⟩
  case hlen => omega
  case qq =>
    intro K h t m247 m242 m100 S
    obtain ⟨p1, m1⟩ := m247
    obtain ⟨p2, m2⟩ := m242
    obtain ⟨p3, m3⟩ := m100
    have g1 : h.get? 247 = some (tabObj p1) := by obtain ⟨o, e, q⟩ := S.get m1; rw [e]; exact congrArg some q
    have g2 : h.get? 242 = some (tabObj p2) := by obtain ⟨o, e, q⟩ := S.get m2; rw [e]; exact congrArg some q
    have g3 : h.get? 100 = some (tabObj p3) := by obtain ⟨o, e, q⟩ := S.get m3; rw [e]; exact congrArg some q
    refine ⟨⟨.inl ⟨.bool true, .bool true, [], rfl, fun _ => rfl, .bool _, ?_, ?_⟩, S.keep, rfl, ?_⟩, ⟨_, g1⟩, ⟨_, g3⟩, ⟨_, g2⟩, trivial⟩
    · exact post_true _ _
    · intro _; exact ⟨List.nodup_nil, fun a ha => nomatch ha⟩
    · assumption
end Mine
theorem PySem.Challenge.cw_in0015_01_holds : PySem.Challenge.rw_in0015_01.Holds := by
  exact Mine.top
