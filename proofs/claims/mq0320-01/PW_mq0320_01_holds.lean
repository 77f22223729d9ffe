import PyProof.Rows.All
import Wide.All
import OpenK.AllK
import Wide.FinOn
import PySem.Challenge.RW_mq0320_01
set_option Elab.async false
set_option linter.all false
set_option compiler.extract_closed false
set_option maxRecDepth 100000
namespace Mine
-- part Ob
section
theorem oA {P0 : Prop} {P1 : Prop} {G : Prop} (h : P0 ∧ (P1)) (k : P0 → P1 → G) : G := h.elim fun p0 h => k p0 h
theorem oAA {P0 : Prop} {P1 : Prop} {P2 : Prop} {G : Prop} (h : P0 ∧ (P1 ∧ (P2))) (k : P0 → P1 → P2 → G) : G := h.elim fun p0 h => h.elim fun p1 h => k p0 p1 h
theorem oAAA {P0 : Prop} {P1 : Prop} {P2 : Prop} {P3 : Prop} {G : Prop} (h : P0 ∧ (P1 ∧ (P2 ∧ (P3)))) (k : P0 → P1 → P2 → P3 → G) : G := h.elim fun p0 h => h.elim fun p1 h => h.elim fun p2 h => k p0 p1 p2 h
theorem oAAAA {P0 : Prop} {P1 : Prop} {P2 : Prop} {P3 : Prop} {P4 : Prop} {G : Prop} (h : P0 ∧ (P1 ∧ (P2 ∧ (P3 ∧ (P4))))) (k : P0 → P1 → P2 → P3 → P4 → G) : G := h.elim fun p0 h => h.elim fun p1 h => h.elim fun p2 h => h.elim fun p3 h => k p0 p1 p2 p3 h
theorem oAAAAA {P0 : Prop} {P1 : Prop} {P2 : Prop} {P3 : Prop} {P4 : Prop} {P5 : Prop} {G : Prop} (h : P0 ∧ (P1 ∧ (P2 ∧ (P3 ∧ (P4 ∧ (P5)))))) (k : P0 → P1 → P2 → P3 → P4 → P5 → G) : G := h.elim fun p0 h => h.elim fun p1 h => h.elim fun p2 h => h.elim fun p3 h => h.elim fun p4 h => k p0 p1 p2 p3 p4 h
theorem oAAAAAA {P0 : Prop} {P1 : Prop} {P2 : Prop} {P3 : Prop} {P4 : Prop} {P5 : Prop} {P6 : Prop} {G : Prop} (h : P0 ∧ (P1 ∧ (P2 ∧ (P3 ∧ (P4 ∧ (P5 ∧ (P6))))))) (k : P0 → P1 → P2 → P3 → P4 → P5 → P6 → G) : G := h.elim fun p0 h => h.elim fun p1 h => h.elim fun p2 h => h.elim fun p3 h => h.elim fun p4 h => h.elim fun p5 h => k p0 p1 p2 p3 p4 p5 h
theorem oAEEA {P0 : Prop} {T1 : Sort _} {T2 : Sort _} {P1 : T1 → T2 → Prop} {P2 : T1 → T2 → Prop} {G : Prop} (h : P0 ∧ (∃ x0 : T1, ∃ x1 : T2, P1 x0 x1 ∧ (P2 x0 x1))) (k : P0 → ∀ x0, ∀ x1, P1 x0 x1 → P2 x0 x1 → G) : G := h.elim fun p0 h => h.elim fun x0 h => h.elim fun x1 h => h.elim fun p1 h => k p0 x0 x1 p1 h
theorem oE {T1 : Sort _} {P0 : T1 → Prop} {G : Prop} (h : ∃ x0 : T1, P0 x0) (k : ∀ x0, P0 x0 → G) : G := h.elim fun x0 h => k x0 h
theorem oEA {T1 : Sort _} {P0 : T1 → Prop} {P1 : T1 → Prop} {G : Prop} (h : ∃ x0 : T1, P0 x0 ∧ (P1 x0)) (k : ∀ x0, P0 x0 → P1 x0 → G) : G := h.elim fun x0 h => h.elim fun p0 h => k x0 p0 h
theorem oEAA {T1 : Sort _} {P0 : T1 → Prop} {P1 : T1 → Prop} {P2 : T1 → Prop} {G : Prop} (h : ∃ x0 : T1, P0 x0 ∧ (P1 x0 ∧ (P2 x0))) (k : ∀ x0, P0 x0 → P1 x0 → P2 x0 → G) : G := h.elim fun x0 h => h.elim fun p0 h => h.elim fun p1 h => k x0 p0 p1 h
theorem oEAAA {T1 : Sort _} {P0 : T1 → Prop} {P1 : T1 → Prop} {P2 : T1 → Prop} {P3 : T1 → Prop} {G : Prop} (h : ∃ x0 : T1, P0 x0 ∧ (P1 x0 ∧ (P2 x0 ∧ (P3 x0)))) (k : ∀ x0, P0 x0 → P1 x0 → P2 x0 → P3 x0 → G) : G := h.elim fun x0 h => h.elim fun p0 h => h.elim fun p1 h => h.elim fun p2 h => k x0 p0 p1 p2 h
theorem oEAAE {T1 : Sort _} {P0 : T1 → Prop} {P1 : T1 → Prop} {T2 : Sort _} {P2 : T1 → T2 → Prop} {G : Prop} (h : ∃ x0 : T1, P0 x0 ∧ (P1 x0 ∧ (∃ x1 : T2, P2 x0 x1))) (k : ∀ x0, P0 x0 → P1 x0 → ∀ x1, P2 x0 x1 → G) : G := h.elim fun x0 h => h.elim fun p0 h => h.elim fun p1 h => h.elim fun x1 h => k x0 p0 p1 x1 h
theorem oEE {T1 : Sort _} {T2 : Sort _} {P0 : T1 → T2 → Prop} {G : Prop} (h : ∃ x0 : T1, ∃ x1 : T2, P0 x0 x1) (k : ∀ x0, ∀ x1, P0 x0 x1 → G) : G := h.elim fun x0 h => h.elim fun x1 h => k x0 x1 h
theorem oEEA {T1 : Sort _} {T2 : Sort _} {P0 : T1 → T2 → Prop} {P1 : T1 → T2 → Prop} {G : Prop} (h : ∃ x0 : T1, ∃ x1 : T2, P0 x0 x1 ∧ (P1 x0 x1)) (k : ∀ x0, ∀ x1, P0 x0 x1 → P1 x0 x1 → G) : G := h.elim fun x0 h => h.elim fun x1 h => h.elim fun p0 h => k x0 x1 p0 h
theorem oEEAA {T1 : Sort _} {T2 : Sort _} {P0 : T1 → T2 → Prop} {P1 : T1 → T2 → Prop} {P2 : T1 → T2 → Prop} {G : Prop} (h : ∃ x0 : T1, ∃ x1 : T2, P0 x0 x1 ∧ (P1 x0 x1 ∧ (P2 x0 x1))) (k : ∀ x0, ∀ x1, P0 x0 x1 → P1 x0 x1 → P2 x0 x1 → G) : G := h.elim fun x0 h => h.elim fun x1 h => h.elim fun p0 h => h.elim fun p1 h => k x0 x1 p0 p1 h
theorem oEEAAAA {T1 : Sort _} {T2 : Sort _} {P0 : T1 → T2 → Prop} {P1 : T1 → T2 → Prop} {P2 : T1 → T2 → Prop} {P3 : T1 → T2 → Prop} {P4 : T1 → T2 → Prop} {G : Prop} (h : ∃ x0 : T1, ∃ x1 : T2, P0 x0 x1 ∧ (P1 x0 x1 ∧ (P2 x0 x1 ∧ (P3 x0 x1 ∧ (P4 x0 x1))))) (k : ∀ x0, ∀ x1, P0 x0 x1 → P1 x0 x1 → P2 x0 x1 → P3 x0 x1 → P4 x0 x1 → G) : G := h.elim fun x0 h => h.elim fun x1 h => h.elim fun p0 h => h.elim fun p1 h => h.elim fun p2 h => h.elim fun p3 h => k x0 x1 p0 p1 p2 p3 h
theorem oEEE {T1 : Sort _} {T2 : Sort _} {T3 : Sort _} {P0 : T1 → T2 → T3 → Prop} {G : Prop} (h : ∃ x0 : T1, ∃ x1 : T2, ∃ x2 : T3, P0 x0 x1 x2) (k : ∀ x0, ∀ x1, ∀ x2, P0 x0 x1 x2 → G) : G := h.elim fun x0 h => h.elim fun x1 h => h.elim fun x2 h => k x0 x1 x2 h
theorem oEEEA {T1 : Sort _} {T2 : Sort _} {T3 : Sort _} {P0 : T1 → T2 → T3 → Prop} {P1 : T1 → T2 → T3 → Prop} {G : Prop} (h : ∃ x0 : T1, ∃ x1 : T2, ∃ x2 : T3, P0 x0 x1 x2 ∧ (P1 x0 x1 x2)) (k : ∀ x0, ∀ x1, ∀ x2, P0 x0 x1 x2 → P1 x0 x1 x2 → G) : G := h.elim fun x0 h => h.elim fun x1 h => h.elim fun x2 h => h.elim fun p0 h => k x0 x1 x2 p0 h
theorem oEEEAA {T1 : Sort _} {T2 : Sort _} {T3 : Sort _} {P0 : T1 → T2 → T3 → Prop} {P1 : T1 → T2 → T3 → Prop} {P2 : T1 → T2 → T3 → Prop} {G : Prop} (h : ∃ x0 : T1, ∃ x1 : T2, ∃ x2 : T3, P0 x0 x1 x2 ∧ (P1 x0 x1 x2 ∧ (P2 x0 x1 x2))) (k : ∀ x0, ∀ x1, ∀ x2, P0 x0 x1 x2 → P1 x0 x1 x2 → P2 x0 x1 x2 → G) : G := h.elim fun x0 h => h.elim fun x1 h => h.elim fun x2 h => h.elim fun p0 h => h.elim fun p1 h => k x0 x1 x2 p0 p1 h
theorem oEEEAAAA {T1 : Sort _} {T2 : Sort _} {T3 : Sort _} {P0 : T1 → T2 → T3 → Prop} {P1 : T1 → T2 → T3 → Prop} {P2 : T1 → T2 → T3 → Prop} {P3 : T1 → T2 → T3 → Prop} {P4 : T1 → T2 → T3 → Prop} {G : Prop} (h : ∃ x0 : T1, ∃ x1 : T2, ∃ x2 : T3, P0 x0 x1 x2 ∧ (P1 x0 x1 x2 ∧ (P2 x0 x1 x2 ∧ (P3 x0 x1 x2 ∧ (P4 x0 x1 x2))))) (k : ∀ x0, ∀ x1, ∀ x2, P0 x0 x1 x2 → P1 x0 x1 x2 → P2 x0 x1 x2 → P3 x0 x1 x2 → P4 x0 x1 x2 → G) : G := h.elim fun x0 h => h.elim fun x1 h => h.elim fun x2 h => h.elim fun p0 h => h.elim fun p1 h => h.elim fun p2 h => h.elim fun p3 h => k x0 x1 x2 p0 p1 p2 p3 h
theorem oEEEEAA {T1 : Sort _} {T2 : Sort _} {T3 : Sort _} {T4 : Sort _} {P0 : T1 → T2 → T3 → T4 → Prop} {P1 : T1 → T2 → T3 → T4 → Prop} {P2 : T1 → T2 → T3 → T4 → Prop} {G : Prop} (h : ∃ x0 : T1, ∃ x1 : T2, ∃ x2 : T3, ∃ x3 : T4, P0 x0 x1 x2 x3 ∧ (P1 x0 x1 x2 x3 ∧ (P2 x0 x1 x2 x3))) (k : ∀ x0, ∀ x1, ∀ x2, ∀ x3, P0 x0 x1 x2 x3 → P1 x0 x1 x2 x3 → P2 x0 x1 x2 x3 → G) : G := h.elim fun x0 h => h.elim fun x1 h => h.elim fun x2 h => h.elim fun x3 h => h.elim fun p0 h => h.elim fun p1 h => k x0 x1 x2 x3 p0 p1 h
theorem oEEEEAAA {T1 : Sort _} {T2 : Sort _} {T3 : Sort _} {T4 : Sort _} {P0 : T1 → T2 → T3 → T4 → Prop} {P1 : T1 → T2 → T3 → T4 → Prop} {P2 : T1 → T2 → T3 → T4 → Prop} {P3 : T1 → T2 → T3 → T4 → Prop} {G : Prop} (h : ∃ x0 : T1, ∃ x1 : T2, ∃ x2 : T3, ∃ x3 : T4, P0 x0 x1 x2 x3 ∧ (P1 x0 x1 x2 x3 ∧ (P2 x0 x1 x2 x3 ∧ (P3 x0 x1 x2 x3)))) (k : ∀ x0, ∀ x1, ∀ x2, ∀ x3, P0 x0 x1 x2 x3 → P1 x0 x1 x2 x3 → P2 x0 x1 x2 x3 → P3 x0 x1 x2 x3 → G) : G := h.elim fun x0 h => h.elim fun x1 h => h.elim fun x2 h => h.elim fun x3 h => h.elim fun p0 h => h.elim fun p1 h => h.elim fun p2 h => k x0 x1 x2 x3 p0 p1 p2 h
theorem oEEEEAAAA {T1 : Sort _} {T2 : Sort _} {T3 : Sort _} {T4 : Sort _} {P0 : T1 → T2 → T3 → T4 → Prop} {P1 : T1 → T2 → T3 → T4 → Prop} {P2 : T1 → T2 → T3 → T4 → Prop} {P3 : T1 → T2 → T3 → T4 → Prop} {P4 : T1 → T2 → T3 → T4 → Prop} {G : Prop} (h : ∃ x0 : T1, ∃ x1 : T2, ∃ x2 : T3, ∃ x3 : T4, P0 x0 x1 x2 x3 ∧ (P1 x0 x1 x2 x3 ∧ (P2 x0 x1 x2 x3 ∧ (P3 x0 x1 x2 x3 ∧ (P4 x0 x1 x2 x3))))) (k : ∀ x0, ∀ x1, ∀ x2, ∀ x3, P0 x0 x1 x2 x3 → P1 x0 x1 x2 x3 → P2 x0 x1 x2 x3 → P3 x0 x1 x2 x3 → P4 x0 x1 x2 x3 → G) : G := h.elim fun x0 h => h.elim fun x1 h => h.elim fun x2 h => h.elim fun x3 h => h.elim fun p0 h => h.elim fun p1 h => h.elim fun p2 h => h.elim fun p3 h => k x0 x1 x2 x3 p0 p1 p2 p3 h
theorem oEEEEAAEEA {T1 : Sort _} {T2 : Sort _} {T3 : Sort _} {T4 : Sort _} {P0 : T1 → T2 → T3 → T4 → Prop} {P1 : T1 → T2 → T3 → T4 → Prop} {T5 : Sort _} {T6 : Sort _} {P2 : T1 → T2 → T3 → T4 → T5 → T6 → Prop} {P3 : T1 → T2 → T3 → T4 → T5 → T6 → Prop} {G : Prop} (h : ∃ x0 : T1, ∃ x1 : T2, ∃ x2 : T3, ∃ x3 : T4, P0 x0 x1 x2 x3 ∧ (P1 x0 x1 x2 x3 ∧ (∃ x4 : T5, ∃ x5 : T6, P2 x0 x1 x2 x3 x4 x5 ∧ (P3 x0 x1 x2 x3 x4 x5)))) (k : ∀ x0, ∀ x1, ∀ x2, ∀ x3, P0 x0 x1 x2 x3 → P1 x0 x1 x2 x3 → ∀ x4, ∀ x5, P2 x0 x1 x2 x3 x4 x5 → P3 x0 x1 x2 x3 x4 x5 → G) : G := h.elim fun x0 h => h.elim fun x1 h => h.elim fun x2 h => h.elim fun x3 h => h.elim fun p0 h => h.elim fun p1 h => h.elim fun x4 h => h.elim fun x5 h => h.elim fun p2 h => k x0 x1 x2 x3 p0 p1 x4 x5 p2 h
theorem oEEEEE {T1 : Sort _} {T2 : Sort _} {T3 : Sort _} {T4 : Sort _} {T5 : Sort _} {P0 : T1 → T2 → T3 → T4 → T5 → Prop} {G : Prop} (h : ∃ x0 : T1, ∃ x1 : T2, ∃ x2 : T3, ∃ x3 : T4, ∃ x4 : T5, P0 x0 x1 x2 x3 x4) (k : ∀ x0, ∀ x1, ∀ x2, ∀ x3, ∀ x4, P0 x0 x1 x2 x3 x4 → G) : G := h.elim fun x0 h => h.elim fun x1 h => h.elim fun x2 h => h.elim fun x3 h => h.elim fun x4 h => k x0 x1 x2 x3 x4 h
theorem oEEEEEAAA {T1 : Sort _} {T2 : Sort _} {T3 : Sort _} {T4 : Sort _} {T5 : Sort _} {P0 : T1 → T2 → T3 → T4 → T5 → Prop} {P1 : T1 → T2 → T3 → T4 → T5 → Prop} {P2 : T1 → T2 → T3 → T4 → T5 → Prop} {P3 : T1 → T2 → T3 → T4 → T5 → Prop} {G : Prop} (h : ∃ x0 : T1, ∃ x1 : T2, ∃ x2 : T3, ∃ x3 : T4, ∃ x4 : T5, P0 x0 x1 x2 x3 x4 ∧ (P1 x0 x1 x2 x3 x4 ∧ (P2 x0 x1 x2 x3 x4 ∧ (P3 x0 x1 x2 x3 x4)))) (k : ∀ x0, ∀ x1, ∀ x2, ∀ x3, ∀ x4, P0 x0 x1 x2 x3 x4 → P1 x0 x1 x2 x3 x4 → P2 x0 x1 x2 x3 x4 → P3 x0 x1 x2 x3 x4 → G) : G := h.elim fun x0 h => h.elim fun x1 h => h.elim fun x2 h => h.elim fun x3 h => h.elim fun x4 h => h.elim fun p0 h => h.elim fun p1 h => h.elim fun p2 h => k x0 x1 x2 x3 x4 p0 p1 p2 h
theorem oEEEEEEEAAAAAA {T1 : Sort _} {T2 : Sort _} {T3 : Sort _} {T4 : Sort _} {T5 : Sort _} {T6 : Sort _} {T7 : Sort _} {P0 : T1 → T2 → T3 → T4 → T5 → T6 → T7 → Prop} {P1 : T1 → T2 → T3 → T4 → T5 → T6 → T7 → Prop} {P2 : T1 → T2 → T3 → T4 → T5 → T6 → T7 → Prop} {P3 : T1 → T2 → T3 → T4 → T5 → T6 → T7 → Prop} {P4 : T1 → T2 → T3 → T4 → T5 → T6 → T7 → Prop} {P5 : T1 → T2 → T3 → T4 → T5 → T6 → T7 → Prop} {P6 : T1 → T2 → T3 → T4 → T5 → T6 → T7 → Prop} {G : Prop} (h : ∃ x0 : T1, ∃ x1 : T2, ∃ x2 : T3, ∃ x3 : T4, ∃ x4 : T5, ∃ x5 : T6, ∃ x6 : T7, P0 x0 x1 x2 x3 x4 x5 x6 ∧ (P1 x0 x1 x2 x3 x4 x5 x6 ∧ (P2 x0 x1 x2 x3 x4 x5 x6 ∧ (P3 x0 x1 x2 x3 x4 x5 x6 ∧ (P4 x0 x1 x2 x3 x4 x5 x6 ∧ (P5 x0 x1 x2 x3 x4 x5 x6 ∧ (P6 x0 x1 x2 x3 x4 x5 x6))))))) (k : ∀ x0, ∀ x1, ∀ x2, ∀ x3, ∀ x4, ∀ x5, ∀ x6, P0 x0 x1 x2 x3 x4 x5 x6 → P1 x0 x1 x2 x3 x4 x5 x6 → P2 x0 x1 x2 x3 x4 x5 x6 → P3 x0 x1 x2 x3 x4 x5 x6 → P4 x0 x1 x2 x3 x4 x5 x6 → P5 x0 x1 x2 x3 x4 x5 x6 → P6 x0 x1 x2 x3 x4 x5 x6 → G) : G := h.elim fun x0 h => h.elim fun x1 h => h.elim fun x2 h => h.elim fun x3 h => h.elim fun x4 h => h.elim fun x5 h => h.elim fun x6 h => h.elim fun p0 h => h.elim fun p1 h => h.elim fun p2 h => h.elim fun p3 h => h.elim fun p4 h => h.elim fun p5 h => k x0 x1 x2 x3 x4 x5 x6 p0 p1 p2 p3 p4 p5 h
end
-- part Hd
section
open PySem PySem.W PyProof.Rows
set_option maxRecDepth 100000
set_option maxHeartbeats 8000000
theorem head3 {A C B : Prop} (hl : A) (hc : C) (main : B) : B := (fun _ _ => main) hl hc
noncomputable def headOf {T B : Prop} (f : T → B) : PSigma fun T : Prop => T → B := ⟨T, f⟩
theorem said : PySem.Challenge.rw_mq0320_01.wellSaid = true := by
  delta OpenLaw.wellSaid OpenRow.wellSaid OpenRow.partSaid looksOpen
  repeat' with_reducible apply look_both
  all_goals decide +kernel
noncomputable def hd : PSigma fun T : Prop => T → PySem.Challenge.rw_mq0320_01.Holds := by
  apply headOf
  case f =>
    intro walk
    w_on
    refine holds_law said fun said => ?_
    apply head3
    case main =>
      k_head
      w_witness2
    case hc => exact walk
    intro w
    kernel_rfl
end
-- part HeapP
section
noncomputable def sdGo {α : Type} (lt : α → α → Bool) (new : α) (sp : Nat) : Nat → List α → Nat → List α
  | 0, l, _ => l
  | n + 1, l, pos =>
    if sp < pos then
      match l[(pos - 1) / 2]? with
      | some par => if lt new par then sdGo lt new sp n (l.set pos par) ((pos - 1) / 2) else l.set pos new
      | none => l
    else l.set pos new
noncomputable def sdLoop {α : Type} (lt : α → α → Bool) (new : α) (sp : Nat) (l : List α) (pos : Nat) : List α := sdGo lt new sp (pos + 1) l pos
theorem half_lt {pos : Nat} (h : 0 < pos) : (pos - 1) / 2 < pos := Nat.lt_of_le_of_lt (Nat.div_le_self _ _) (Nat.sub_lt h Nat.one_pos)
theorem sdGo_fuel {α : Type} (lt : α → α → Bool) (new : α) (sp : Nat) : ∀ (n m : Nat) (l : List α) (pos : Nat), pos < n → pos < m → sdGo lt new sp n l pos = sdGo lt new sp m l pos
  | n + 1, m + 1, l, pos, h1, h2 => by
    show (if _ then _ else _) = (if _ then _ else _)
    by_cases h : sp < pos
    · rw [if_pos h, if_pos h]
      have k := half_lt (Nat.zero_lt_of_lt h)
      cases l[(pos - 1) / 2]? with
      | none => rfl
      | some par =>
        dsimp only
        rw [sdGo_fuel lt new sp n m _ _ (Nat.lt_of_lt_of_le k (Nat.le_of_lt_succ h1)) (Nat.lt_of_lt_of_le k (Nat.le_of_lt_succ h2))]
    · rw [if_neg h, if_neg h]
theorem sdLoop_eq {α : Type} (lt : α → α → Bool) (new : α) (sp : Nat) (l : List α) (pos : Nat) : sdLoop lt new sp l pos =
    if sp < pos then
      match l[(pos - 1) / 2]? with
      | some par => if lt new par then sdLoop lt new sp (l.set pos par) ((pos - 1) / 2) else l.set pos new
      | none => l
    else l.set pos new := by
  show (if _ then _ else _) = (if _ then _ else _)
  by_cases h : sp < pos
  · rw [if_pos h, if_pos h]
    cases l[(pos - 1) / 2]? with
    | none => rfl
    | some par =>
      dsimp only
      rw [sdGo_fuel lt new sp pos ((pos - 1) / 2 + 1) _ _ (half_lt (Nat.zero_lt_of_lt h)) (Nat.lt_succ_self _)]; rfl
  · rw [if_neg h, if_neg h]
noncomputable def suGo {α : Type} (lt : α → α → Bool) : Nat → List α → Nat → List α × Nat
  | 0, l, pos => (l, pos)
  | n + 1, l, pos =>
    match l[2 * pos + 1]? with
    | none => (l, pos)
    | some a => match l[2 * pos + 2]? with
      | none => suGo lt n (l.set pos a) (2 * pos + 1)
      | some b => if lt a b then suGo lt n (l.set pos a) (2 * pos + 1) else suGo lt n (l.set pos b) (2 * pos + 2)
noncomputable def suLoop {α : Type} (lt : α → α → Bool) (l : List α) (pos : Nat) : List α × Nat := suGo lt (l.length - pos + 1) l pos
theorem suFuel {n len pos p' : Nat} (h : pos < len) (hn : len - pos < n + 1) (hp : pos < p') : len - p' < n := by lia
theorem suGo_fuel {α : Type} (lt : α → α → Bool) : ∀ (n m : Nat) (l : List α) (pos : Nat), l.length - pos < n → l.length - pos < m → suGo lt n l pos = suGo lt m l pos
  | n + 1, m + 1, l, pos, h1, h2 => by
    show (match l[2 * pos + 1]? with | none => _ | some a => _) = (match l[2 * pos + 1]? with | none => _ | some a => _)
    cases e : l[2 * pos + 1]? with
    | none => rfl
    | some a =>
      have hp : pos < l.length := Nat.lt_of_le_of_lt (by lia) (List.getElem?_eq_some_iff.mp e).1
      have k : ∀ (x : α) (p' : Nat), pos < p' → suGo lt n (l.set pos x) p' = suGo lt m (l.set pos x) p' := fun x p' q =>
        suGo_fuel lt n m _ _ (by rw [List.length_set]; exact suFuel hp h1 q) (by rw [List.length_set]; exact suFuel hp h2 q)
      dsimp only
      rw [k a _ (by lia)]
      cases l[2 * pos + 2]? with
      | none => rfl
      | some b => dsimp only; rw [k b _ (by lia)]
theorem suLoop_eq {α : Type} (lt : α → α → Bool) (l : List α) (pos : Nat) : suLoop lt l pos =
    match l[2 * pos + 1]? with
    | none => (l, pos)
    | some a => match l[2 * pos + 2]? with
      | none => suLoop lt (l.set pos a) (2 * pos + 1)
      | some b => if lt a b then suLoop lt (l.set pos a) (2 * pos + 1) else suLoop lt (l.set pos b) (2 * pos + 2) := by
  show (match l[2 * pos + 1]? with | none => _ | some a => _) = (match l[2 * pos + 1]? with | none => _ | some a => _)
  cases e : l[2 * pos + 1]? with
  | none => rfl
  | some a =>
    have hp : pos < l.length := Nat.lt_of_le_of_lt (by lia) (List.getElem?_eq_some_iff.mp e).1
    have k : ∀ (x : α) (p' : Nat), pos < p' → suGo lt (l.length - pos) (l.set pos x) p' = suLoop lt (l.set pos x) p' := fun x p' q =>
      suGo_fuel lt _ _ _ _ (by rw [List.length_set]; lia) (Nat.lt_succ_self _)
    dsimp only
    rw [k a _ (by lia)]
    cases l[2 * pos + 2]? with
    | none => rfl
    | some b => dsimp only; rw [k b _ (by lia)]
noncomputable def siftupP {α : Type} (lt : α → α → Bool) (l : List α) (pos : Nat) : List α :=
  match l[pos]? with
  | none => l
  | some new => sdLoop lt new pos ((suLoop lt l pos).1.set (suLoop lt l pos).2 new) (suLoop lt l pos).2
noncomputable def heapDown {α : Type} (lt : α → α → Bool) : Nat → List α → List α
  | 0, l => l
  | k + 1, l => heapDown lt k (siftupP lt l k)
structure SWO {α : Type} (lt : α → α → Bool) : Prop where
  asymm : ∀ a b, lt a b = true → lt b a = false
  neg : ∀ a b c, lt a c = true → lt a b = true ∨ lt b c = true
theorem SWO.flip {α : Type} {lt : α → α → Bool} (h : SWO lt) : SWO (fun a b => lt b a) :=
  ⟨fun a b e => h.asymm b a e, fun a b c e => (h.neg c b a e).symm⟩
theorem SWO.irr {α : Type} {lt : α → α → Bool} (h : SWO lt) (a : α) : lt a a = false := by
  cases e : lt a a with
  | false => rfl
  | true => have := h.asymm a a e; rw [e] at this; cases this
theorem SWO.le_trans {α : Type} {lt : α → α → Bool} (h : SWO lt) {a b c : α} (h1 : lt b a = false) (h2 : lt c b = false) : lt c a = false := by
  cases e : lt c a with
  | false => rfl
  | true => rcases h.neg c b a e with q | q
            · rw [h2] at q; cases q
            · rw [h1] at q; cases q
theorem set_swap_perm {α : Type} [DecidableEq α] {l : List α} {i j : Nat} {p x : α} (hij : i ≠ j) (hi : i < l.length) (hj : l[j]? = some p) : ((l.set i p).set j x).Perm (l.set i x) := by
  have hj' : j < l.length := (List.getElem?_eq_some_iff.mp hj).1
  have hp : l[j] = p := (List.getElem?_eq_some_iff.mp hj).2
  rw [List.perm_iff_count]
  intro a
  rw [List.count_set (by simpa using hj'), List.count_set hi, List.count_set hi, List.getElem_set_ne hij, hp]
  have h1 : (if l[i] == a then 1 else 0) ≤ l.count a := by
    split
    · rename_i q; rw [beq_iff_eq] at q; exact List.count_pos_iff.mpr (q ▸ List.getElem_mem hi)
    · exact Nat.zero_le _
  have h2 : (if p == a then 1 else 0) ≤ l.count a - (if l[i] == a then 1 else 0) + (if p == a then 1 else 0) := by lia
  omega
section
variable {α : Type} {lt : α → α → Bool} {new : α} {sp : Nat}
theorem sdLoop_length : ∀ (pos : Nat) (l : List α), (sdLoop lt new sp l pos).length = l.length := by
  intro pos
  induction pos using Nat.strongRecOn with
  | ind pos ih =>
    intro l
    rw [sdLoop_eq]
    split
    · split
      · split
        · rw [ih _ (by lia), List.length_set]
        · rw [List.length_set]
      · rfl
    · rw [List.length_set]
theorem sdLoop_perm [DecidableEq α] : ∀ (pos : Nat) (l : List α), pos < l.length → (sdLoop lt new sp l pos).Perm (l.set pos new) := by
  intro pos
  induction pos using Nat.strongRecOn with
  | ind pos ih =>
    intro l hp
    rw [sdLoop_eq]
    split
    · split
      · rename_i par e
        split
        · refine (ih ((pos - 1) / 2) (by lia) (l.set pos par) (by rw [List.length_set]; lia)).trans ?_
          exact set_swap_perm (by lia) hp e
        · exact .refl _
      · rename_i e
        rw [List.getElem?_eq_getElem (by lia)] at e
        cases e
    · exact .refl _
theorem suLoop_len (k : Nat) : ∀ (l : List α) (pos : Nat), l.length - pos = k → (suLoop lt l pos).1.length = l.length := by
  induction k using Nat.strongRecOn with
  | ind k ih =>
    intro l pos hk
    rw [suLoop_eq]
    split
    · rfl
    · rename_i a h
      have hlt := (List.getElem?_eq_some_iff.mp h).1
      split
      · rw [ih _ _ _ _ rfl, List.length_set]
        rw [List.length_set]; lia
      · split
        · rw [ih _ _ _ _ rfl, List.length_set]
          rw [List.length_set]; lia
        · rw [ih _ _ _ _ rfl, List.length_set]
          rw [List.length_set]; lia
theorem suLoop_length (l : List α) (pos : Nat) : (suLoop lt l pos).1.length = l.length := suLoop_len _ l pos rfl
theorem suLoop_ind {P : List α → Nat → List α × Nat → Prop} (h0 : ∀ l pos, pos < l.length → l[2 * pos + 1]? = none → P l pos (l, pos))
    (h1 : ∀ l pos a r, pos < l.length → l[2 * pos + 1]? = some a → (∀ b, l[2 * pos + 2]? = some b → lt a b = true) → P (l.set pos a) (2 * pos + 1) r → P l pos r)
    (h2 : ∀ l pos a b r, pos < l.length → l[2 * pos + 1]? = some a → l[2 * pos + 2]? = some b → lt a b = false → P (l.set pos b) (2 * pos + 2) r → P l pos r)
    (k : Nat) : ∀ (l : List α) (pos : Nat), l.length - pos = k → pos < l.length → P l pos (suLoop lt l pos) := by
  induction k using Nat.strongRecOn with
  | ind k ih =>
    intro l pos hk hp
    rw [suLoop_eq]
    split
    · rename_i h; exact h0 l pos hp h
    · rename_i a h
      have hlt := (List.getElem?_eq_some_iff.mp h).1
      split
      · rename_i hb
        refine h1 l pos a _ hp h (fun b e => by rw [hb] at e; cases e) (ih _ ?_ _ _ rfl ?_)
        · rw [List.length_set]; lia
        · rw [List.length_set]; omega
      · rename_i b hb
        have hlt2 := (List.getElem?_eq_some_iff.mp hb).1
        split
        · rename_i hab
          refine h1 l pos a _ hp h (fun b' e => by rw [hb] at e; cases e; exact hab) (ih _ ?_ _ _ rfl ?_)
          · rw [List.length_set]; lia
          · rw [List.length_set]; omega
        · rename_i hab
          refine h2 l pos a b _ hp h hb (by simpa using hab) (ih _ ?_ _ _ rfl ?_)
          · rw [List.length_set]; lia
          · rw [List.length_set]; omega
theorem suLoop_pos (l : List α) (pos : Nat) (hp : pos < l.length) : (suLoop lt l pos).2 < l.length :=
  suLoop_ind (lt := lt) (P := fun l _ r => r.2 < l.length) (fun _ _ h _ => h) (fun l pos a r _ _ _ h => by simpa using h) (fun l pos a b r _ _ _ _ h => by simpa using h) _ l pos rfl hp
theorem suLoop_perm [DecidableEq α] (x : α) (l : List α) (pos : Nat) (hp : pos < l.length) : ((suLoop lt l pos).1.set (suLoop lt l pos).2 x).Perm (l.set pos x) :=
  suLoop_ind (lt := lt) (P := fun l pos r => (r.1.set r.2 x).Perm (l.set pos x)) (fun _ _ _ _ => .refl _)
    (fun l pos a r h1 h2 _ h => h.trans (set_swap_perm (by lia) h1 h2)) (fun l pos a b r h1 _ h2 _ h => h.trans (set_swap_perm (by lia) h1 h2)) _ l pos rfl hp
theorem siftupP_length (l : List α) (pos : Nat) : (siftupP lt l pos).length = l.length := by
  unfold siftupP
  split
  · rfl
  · rw [sdLoop_length, List.length_set, suLoop_length]
theorem siftupP_perm [DecidableEq α] (l : List α) (pos : Nat) : (siftupP lt l pos).Perm l := by
  unfold siftupP
  split
  · exact .refl _
  · rename_i x e
    have hp := (List.getElem?_eq_some_iff.mp e).1
    refine (sdLoop_perm _ _ (by rw [List.length_set, suLoop_length]; exact suLoop_pos l pos hp)).trans ?_
    rw [List.set_set]
    refine (suLoop_perm x l pos hp).trans ?_
    rw [← (List.getElem?_eq_some_iff.mp e).2, List.set_getElem_self]
noncomputable def HeapFrom (lt : α → α → Bool) (p0 : Nat) (l : List α) : Prop := ∀ i x y, 0 < i → p0 ≤ (i - 1) / 2 → l[i]? = some x → l[(i - 1) / 2]? = some y → lt x y = false
inductive Desc (p0 : Nat) : Nat → Prop where
  | refl : Desc p0 p0
  | left {q : Nat} : Desc p0 q → Desc p0 (2 * q + 1)
  | right {q : Nat} : Desc p0 q → Desc p0 (2 * q + 2)
theorem Desc.le {p0 q : Nat} (h : Desc p0 q) : p0 ≤ q := by
  induction h with
  | refl => exact Nat.le_refl _
  | left _ ih => lia
  | right _ ih => lia
theorem Desc.up {p0 q : Nat} (h : Desc p0 q) (hq : p0 < q) : Desc p0 ((q - 1) / 2) := by
  cases h with
  | refl => lia
  | left h => rename_i q; rw [show (2 * q + 1 - 1) / 2 = q by lia]; exact h
  | right h => rename_i q; rw [show (2 * q + 2 - 1) / 2 = q by lia]; exact h
theorem Desc.zero : ∀ q, Desc 0 q := by
  intro q
  induction q using Nat.strongRecOn with
  | ind q ih =>
    rcases Nat.eq_zero_or_pos q with rfl | h
    · exact .refl
    · rcases Nat.mod_two_eq_zero_or_one q with e | e
      · have := Desc.right (ih ((q - 1) / 2) (by omega)); rw [show 2 * ((q - 1) / 2) + 2 = q by omega] at this; exact this
      · have := Desc.left (ih ((q - 1) / 2) (by omega)); rw [show 2 * ((q - 1) / 2) + 1 = q by omega] at this; exact this
theorem get_set_ne {l : List α} {i j : Nat} {x : α} (h : j ≠ i) : (l.set i x)[j]? = l[j]? := by
  rw [List.getElem?_set]; rw [if_neg (Ne.symm h)]
theorem get_set_eq {l : List α} {i : Nat} {x : α} (h : i < l.length) : (l.set i x)[i]? = some x := by
  rw [List.getElem?_set]; simp [h]
theorem sdLoop_heap (ho : SWO lt) {p0 : Nat} : ∀ (q : Nat) (l : List α), q < l.length → Desc p0 q →
    (∀ i x y, 0 < i → p0 ≤ (i - 1) / 2 → i ≠ q → (i - 1) / 2 ≠ q → l[i]? = some x → l[(i - 1) / 2]? = some y → lt x y = false) →
    (p0 < q → ∀ c x y, 0 < c → (c - 1) / 2 = q → l[c]? = some x → l[(q - 1) / 2]? = some y → lt x y = false) →
    (∀ c x, 0 < c → (c - 1) / 2 = q → l[c]? = some x → lt x new = false) → HeapFrom lt p0 (sdLoop lt new p0 l q) := by
  intro q
  induction q using Nat.strongRecOn with
  | ind q ih =>
    intro l hq hd s1 s2 s3
    have place : (p0 < q → ∀ y, l[(q - 1) / 2]? = some y → lt new y = false) → HeapFrom lt p0 (l.set q new) := by
      intro hpar i x y hi hp hx hy
      by_cases h1 : i = q
      · subst h1
        rw [get_set_eq hq] at hx
        cases hx
        have hlt : p0 < i := by lia
        rw [get_set_ne (by lia)] at hy
        exact hpar hlt y hy
      · rw [get_set_ne h1] at hx
        by_cases h2 : (i - 1) / 2 = q
        · rw [h2, get_set_eq hq] at hy
          cases hy
          exact s3 i x hi h2 hx
        · rw [get_set_ne h2] at hy
          exact s1 i x y hi hp h1 h2 hx hy
    rw [sdLoop_eq]
    split
    · rename_i hlt
      have hdu := hd.up hlt
      have hle := hdu.le
      split
      · rename_i par e
        split
        · rename_i hnp
          refine ih ((q - 1) / 2) (by lia) (l.set q par) (by rw [List.length_set]; lia) hdu ?_ ?_ ?_
          · intro i x y hi hp h1 h2 hx hy
            by_cases h3 : i = q
            · subst h3; exact absurd rfl h2
            · rw [get_set_ne h3] at hx
              by_cases h4 : (i - 1) / 2 = q
              · rw [h4, get_set_eq hq] at hy
                cases hy
                exact s2 hlt i x _ hi h4 hx e
              · rw [get_set_ne h4] at hy
                exact s1 i x y hi hp h3 h4 hx hy
          · intro hlt2 c x y hc hcp hx hy
            have hle2 := (hdu.up hlt2).le
            rw [get_set_ne (by lia)] at hy
            have hqq : lt par y = false := s1 ((q - 1) / 2) par y (by lia) hle2 (by lia) (by lia) e hy
            by_cases h3 : c = q
            · subst h3
              rw [get_set_eq hq] at hx
              cases hx
              exact hqq
            · rw [get_set_ne h3] at hx
              have := s1 c x par hc (by lia) h3 (by lia) hx (by rw [hcp]; exact e)
              exact ho.le_trans hqq this
          · intro c x hc hcp hx
            by_cases h3 : c = q
            · subst h3
              rw [get_set_eq hq] at hx
              cases hx
              exact ho.asymm _ _ hnp
            · rw [get_set_ne h3] at hx
              have hxp := s1 c x par hc (by lia) h3 (by lia) hx (by rw [hcp]; exact e)
              cases hxn : lt x new with
              | false => rfl
              | true =>
                rcases ho.neg x par new hxn with h | h
                · rw [hxp] at h; cases h
                · rw [ho.asymm _ _ hnp] at h; cases h
        · rename_i hnp
          refine place fun _ y hy => ?_
          rw [e] at hy
          cases hy
          simpa using hnp
      · rename_i e
        rw [List.getElem?_eq_getElem (by lia)] at e
        cases e
    · rename_i hlt
      exact place fun h => absurd h hlt
theorem suLoop_heap (ho : SWO lt) {p0 : Nat} (l : List α) (pos : Nat) (hp : pos < l.length)
    (hd : Desc p0 pos)
    (s1 : ∀ i x y, 0 < i → p0 ≤ (i - 1) / 2 → i ≠ pos → (i - 1) / 2 ≠ pos → l[i]? = some x → l[(i - 1) / 2]? = some y → lt x y = false)
    (s2 : p0 < pos → ∀ c x y, 0 < c → (c - 1) / 2 = pos → l[c]? = some x → l[(pos - 1) / 2]? = some y → lt x y = false) :
    Desc p0 (suLoop lt l pos).2 ∧ (suLoop lt l pos).1[2 * (suLoop lt l pos).2 + 1]? = none ∧
    (∀ i x y, 0 < i → p0 ≤ (i - 1) / 2 → i ≠ (suLoop lt l pos).2 → (i - 1) / 2 ≠ (suLoop lt l pos).2 → (suLoop lt l pos).1[i]? = some x → (suLoop lt l pos).1[(i - 1) / 2]? = some y → lt x y = false) := by
  revert hd s1 s2
  refine suLoop_ind (lt := lt) (P := fun l pos r => Desc p0 pos →
    (∀ i x y, 0 < i → p0 ≤ (i - 1) / 2 → i ≠ pos → (i - 1) / 2 ≠ pos → l[i]? = some x → l[(i - 1) / 2]? = some y → lt x y = false) →
    (p0 < pos → ∀ c x y, 0 < c → (c - 1) / 2 = pos → l[c]? = some x → l[(pos - 1) / 2]? = some y → lt x y = false) →
    Desc p0 r.2 ∧ r.1[2 * r.2 + 1]? = none ∧ (∀ i x y, 0 < i → p0 ≤ (i - 1) / 2 → i ≠ r.2 → (i - 1) / 2 ≠ r.2 → r.1[i]? = some x → r.1[(i - 1) / 2]? = some y → lt x y = false)) ?_ ?_ ?_ _ l pos rfl hp
  · intro l pos hp hn hd s1 s2
    exact ⟨hd, hn, s1⟩
  · intro l pos a r hp ha hb ih hd s1 s2
    have hle := hd.le
    refine ih hd.left ?_ ?_
    · intro i x y hi hpi h1 h2 hx hy
      by_cases h3 : i = pos
      · subst h3
        rw [get_set_eq hp] at hx
        cases hx
        rw [get_set_ne (by lia)] at hy
        exact s2 (by lia) (2 * i + 1) a y (by lia) (by lia) ha hy
      · rw [get_set_ne h3] at hx
        by_cases h4 : (i - 1) / 2 = pos
        · have h5 : i = 2 * pos + 2 := by lia
          subst h5
          rw [h4, get_set_eq hp] at hy
          cases hy
          exact ho.asymm _ _ (hb x hx)
        · rw [get_set_ne h4] at hy
          exact s1 i x y hi hpi h3 h4 hx hy
    · intro hlt c x y hc hcp hx hy
      rw [show (2 * pos + 1 - 1) / 2 = pos by lia, get_set_eq hp] at hy
      cases hy
      rw [get_set_ne (by lia)] at hx
      exact s1 c x a hc (by lia) (by lia) (by lia) hx (by rw [hcp]; exact ha)
  · intro l pos a b r hp ha hb hab ih hd s1 s2
    have hle := hd.le
    refine ih hd.right ?_ ?_
    · intro i x y hi hpi h1 h2 hx hy
      by_cases h3 : i = pos
      · subst h3
        rw [get_set_eq hp] at hx
        cases hx
        rw [get_set_ne (by lia)] at hy
        exact s2 (by lia) (2 * i + 2) b y (by lia) (by lia) hb hy
      · rw [get_set_ne h3] at hx
        by_cases h4 : (i - 1) / 2 = pos
        · have h5 : i = 2 * pos + 1 := by lia
          subst h5
          rw [h4, get_set_eq hp] at hy
          cases hy
          rw [ha] at hx
          cases hx
          exact hab
        · rw [get_set_ne h4] at hy
          exact s1 i x y hi hpi h3 h4 hx hy
    · intro hlt c x y hc hcp hx hy
      rw [show (2 * pos + 2 - 1) / 2 = pos by lia, get_set_eq hp] at hy
      cases hy
      rw [get_set_ne (by lia)] at hx
      exact s1 c x b hc (by lia) (by lia) (by lia) hx (by rw [hcp]; exact hb)
theorem siftupP_heap (ho : SWO lt) (l : List α) (p0 : Nat) (hp : p0 < l.length) (h : ∀ i x y, 0 < i → p0 < (i - 1) / 2 → l[i]? = some x → l[(i - 1) / 2]? = some y → lt x y = false) : HeapFrom lt p0 (siftupP lt l p0) := by
  unfold siftupP
  rw [List.getElem?_eq_getElem hp]
  dsimp only
  refine oAA (suLoop_heap (lt := lt) (p0 := p0) ho l p0 hp .refl (fun i x y hi hpi h1 h2 hx hy => h i x y hi (by lia) hx hy) (fun q => absurd q (Nat.lt_irrefl _))) fun hd hn s1 => ?_
  have hpos := suLoop_pos (lt := lt) l p0 hp
  have hlen := suLoop_length (lt := lt) l p0
  have nokids : ∀ c (x : α), 0 < c → (c - 1) / 2 = (suLoop lt l p0).2 → (suLoop lt l p0).1[c]? = some x → False := by
    intro c x hc hcp hx
    have h1 := (List.getElem?_eq_some_iff.mp hx).1
    have h2 := List.getElem?_eq_none_iff.mp hn
    lia
  refine sdLoop_heap ho _ _ (by rw [List.length_set, hlen]; exact hpos) hd ?_ ?_ ?_
  · intro i x y hi hpi h1 h2 hx hy
    rw [get_set_ne h1] at hx
    rw [get_set_ne h2] at hy
    exact s1 i x y hi hpi h1 h2 hx hy
  · intro _ c x y hc hcp hx hy
    rw [get_set_ne (by lia)] at hx
    exact (nokids c x hc hcp hx).elim
  · intro c x hc hcp hx
    rw [get_set_ne (by lia)] at hx
    exact (nokids c x hc hcp hx).elim
theorem heapDown_perm [DecidableEq α] : ∀ (k : Nat) (l : List α), (heapDown lt k l).Perm l
  | 0, _ => .refl _
  | k + 1, l => (heapDown_perm k _).trans (siftupP_perm l k)
theorem heapDown_heap (ho : SWO lt) : ∀ (k : Nat) (l : List α), k ≤ l.length → HeapFrom lt k l → HeapFrom lt 0 (heapDown lt k l)
  | 0, _, _, h => h
  | k + 1, l, hk, h => heapDown_heap ho k _ (by rw [siftupP_length]; lia) (siftupP_heap ho l k (by lia) (fun i x y hi hp hx hy => h i x y hi hp hx hy))
theorem heapify_heap (ho : SWO lt) (l : List α) : HeapFrom lt 0 (heapDown lt (l.length / 2) l) := by
  refine heapDown_heap ho _ l (by lia) fun i x y hi hp hx hy => ?_
  have := (List.getElem?_eq_some_iff.mp hx).1
  lia
theorem heap_root (ho : SWO lt) {l : List α} (h : HeapFrom lt 0 l) {r : α} (hr : l[0]? = some r) : ∀ (i : Nat) (x : α), l[i]? = some x → lt x r = false := by
  intro i
  induction i using Nat.strongRecOn with
  | ind i ih =>
    intro x hx
    rcases Nat.eq_zero_or_pos i with rfl | hi
    · rw [hr] at hx; cases hx; exact ho.irr _
    · have hlt := (List.getElem?_eq_some_iff.mp hx).1
      have hy : l[(i - 1) / 2]? = some l[(i - 1) / 2] := List.getElem?_eq_getElem (by omega)
      exact ho.le_trans (ih ((i - 1) / 2) (by lia) _ hy) (h i x _ hi (Nat.zero_le _) hx hy)
theorem replace_heap (ho : SWO lt) {l : List α} (h : HeapFrom lt 0 l) (hl : 0 < l.length) (x : α) : HeapFrom lt 0 (siftupP lt (l.set 0 x) 0) := by
  refine siftupP_heap ho _ 0 (by rw [List.length_set]; exact hl) fun i y z hi hp hy hz => ?_
  rw [get_set_ne (by lia)] at hy hz
  exact h i y z hi (Nat.zero_le _) hy hz
theorem push_heap (ho : SWO lt) {l : List α} (h : HeapFrom lt 0 l) (x : α) : HeapFrom lt 0 (sdLoop lt x 0 (l ++ [x]) l.length) := by
  have hno : ∀ c (y : α), 0 < c → (c - 1) / 2 = l.length → (l ++ [x])[c]? = some y → False := by
    intro c y hc hcp hy
    have := (List.getElem?_eq_some_iff.mp hy).1
    rw [List.length_append, List.length_singleton] at this
    lia
  refine sdLoop_heap ho _ _ (by simp) (Desc.zero _) ?_ ?_ ?_
  · intro i y z hi _ h1 h2 hy hz
    have hlt := (List.getElem?_eq_some_iff.mp hy).1
    rw [List.length_append, List.length_singleton] at hlt
    rw [List.getElem?_append_left (by lia)] at hy hz
    exact h i y z hi (Nat.zero_le _) hy hz
  · intro _ c y z hc hcp hy _
    exact (hno c y hc hcp hy).elim
  · intro c y hc hcp hy
    exact (hno c y hc hcp hy).elim
theorem push_perm [DecidableEq α] (l : List α) (x : α) : (sdLoop lt x 0 (l ++ [x]) l.length).Perm (x :: l) := by
  refine (sdLoop_perm _ _ (by simp)).trans ?_
  have : (l ++ [x]).set l.length x = l ++ [x] := by simp
  rw [this]
  exact List.perm_append_singleton x l
noncomputable def popP (lt : α → α → Bool) (l : List α) : List α :=
  match l.getLast? with
  | none => []
  | some last => match l.dropLast with
    | [] => []
    | _ :: r => siftupP lt (last :: r) 0
theorem popP_one (x : α) : popP lt [x] = [] := rfl
theorem popP_snoc (y : α) (r : List α) (last : α) : popP lt (y :: r ++ [last]) = siftupP lt (last :: r) 0 := by
  unfold popP
  rw [List.getLast?_concat, List.dropLast_concat]
theorem popP_perm [DecidableEq α] {l : List α} {x : α} (h0 : l[0]? = some x) : l.Perm (x :: popP lt l) := by
  have hl0 := (List.getElem?_eq_some_iff.mp h0).1
  refine oE (⟨l.dropLast, l.getLast (by intro e; rw [e] at hl0; cases hl0), (List.dropLast_concat_getLast _).symm⟩ : ∃ l' last, l = l' ++ [last]) fun l' q20111z1 => ?_; obtain ⟨last, rfl⟩ := q20111z1
  cases l' with
  | nil => simp at h0; subst h0; exact .refl _
  | cons y r =>
    simp at h0
    subst h0
    rw [popP_snoc]
    exact List.Perm.cons y ((List.perm_append_singleton last r).trans (siftupP_perm (last :: r) 0).symm)
theorem popP_heap (ho : SWO lt) {l : List α} (h : HeapFrom lt 0 l) : HeapFrom lt 0 (popP lt l) := by
  rcases Nat.eq_zero_or_pos l.length with e | hl0
  · rw [List.length_eq_zero_iff.mp e]; intro i x y hi _ hx; cases hx
  refine oE (⟨l.dropLast, l.getLast (by intro e; rw [e] at hl0; cases hl0), (List.dropLast_concat_getLast _).symm⟩ : ∃ l' last, l = l' ++ [last]) fun l' q20734z1 => ?_; obtain ⟨last, rfl⟩ := q20734z1
  cases l' with
  | nil => intro i x y hi _ hx; cases hx
  | cons y r =>
    rw [popP_snoc]
    refine siftupP_heap ho _ 0 (by simp) fun i x z hi hp hx hz => ?_
    have hlt := (List.getElem?_eq_some_iff.mp hx).1
    simp at hlt
    refine h i x z hi (Nat.zero_le _) ?_ ?_
    · cases i with
      | zero => lia
      | succ i =>
        rw [List.getElem?_append_left (by simp; lia)]
        simpa using hx
    · rw [List.getElem?_append_left (by simp; lia)]
      have : (i - 1) / 2 ≠ 0 := by lia
      refine oE (Nat.exists_eq_succ_of_ne_zero this) fun j hj => ?_
      rw [hj] at hz ⊢
      simpa using hz
theorem popP_length {l : List α} : (popP lt l).length = l.length - 1 := by
  rcases Nat.eq_zero_or_pos l.length with e | hl0
  · rw [List.length_eq_zero_iff.mp e]; rfl
  refine oE (⟨l.dropLast, l.getLast (by intro e; rw [e] at hl0; cases hl0), (List.dropLast_concat_getLast _).symm⟩ : ∃ l' last, l = l' ++ [last]) fun l' q21684z1 => ?_; obtain ⟨last, rfl⟩ := q21684z1
  cases l' with
  | nil => rfl
  | cons y r => rw [popP_snoc, siftupP_length]; simp
end
end
-- part FL
section
set_option maxRecDepth 100000
open PySem PySem.Float64
theorem sub_eq_add (x y : UInt64) : Float64.sub x y = Float64.add x (Float64.neg y) := by with_unfolding_all rfl
theorem dist_zero {a b : Nat} (h : dist a b = 0) : a = b := by unfold dist at h; lia
theorem dist_self (a : Nat) : dist a a = 0 := by unfold dist; lia
theorem dist_between {w a b c : Nat} (h1 : a < b) (h2 : b < c) (e : dist w a = dist w c) (m : dist w a ≤ dist w b) : False := by
  unfold dist at e m
  rcases Nat.le_total w b with q | q
  · rw [Nat.sub_eq_zero_of_le q, Nat.sub_eq_zero_of_le (Nat.le_trans q (Nat.le_of_lt h2))] at *
    omega
  · rw [Nat.sub_eq_zero_of_le (Nat.le_trans (Nat.le_of_lt h1) q), Nat.sub_eq_zero_of_le q] at *
    lia
theorem right_unique {r r' : UInt64} {neg : Bool} {W D W' D' : Nat} (h : Right r neg W D) (h' : Right r' neg W' D') (hD : 0 < D) (hD' : 0 < D') (e : W * D' = W' * D) : r = r' := by
  refine oEAAA h fun t q936z1 ht hi hn => ?_; (try clear h); obtain rfl := q936z1
  refine oEAAA h' fun t' q975z1 ht' hi' hn' => ?_; (try clear h'); obtain rfl := q975z1
  have hinf : t = infMag ↔ t' = infMag := by
    rw [hi, hi']
    generalize (2 ^ 54 - 1) * 2 ^ 2045 = C
    constructor
    · intro q
      have : D * C * D' ≤ 2 * W * D' := Nat.mul_le_mul_right _ q
      have e2 : 2 * W * D' = 2 * W' * D := by rw [Nat.mul_assoc, e, ← Nat.mul_assoc]
      rw [e2, Nat.mul_assoc, Nat.mul_comm] at this
      have : C * D' * D ≤ 2 * W' * D := this
      have := Nat.le_of_mul_le_mul_right this hD
      rw [Nat.mul_comm]; exact this
    · intro q
      have : D' * C * D ≤ 2 * W' * D := Nat.mul_le_mul_right _ q
      have e2 : 2 * W' * D = 2 * W * D' := by rw [Nat.mul_assoc, ← e, ← Nat.mul_assoc]
      rw [e2, Nat.mul_assoc, Nat.mul_comm] at this
      have : C * D * D' ≤ 2 * W * D' := this
      have := Nat.le_of_mul_le_mul_right this hD'
      rw [Nat.mul_comm]; exact this
  by_cases hti : t = infMag
  · rw [hti, hinf.mp hti]
  · have hti' : t' ≠ infMag := fun q => hti (hinf.mpr q)
    have a := hn (by lia)
    have a' := hn' (by lia)
    -- scale both to W * D' with D * D'
    have sc : ∀ u, dist (W * D') (D * D' * V u) = D' * dist W (D * V u) := by
      intro u
      have : dist (W * D') (D * D' * V u) = dist (D' * W) (D' * (D * V u)) := by
        congr 1
        · exact Nat.mul_comm _ _
        · rw [Nat.mul_comm D D', Nat.mul_assoc]
      rw [this, dist_mul]
    have sc' : ∀ u, dist (W * D') (D * D' * V u) = D * dist W' (D' * V u) := by
      intro u
      have : dist (W * D') (D * D' * V u) = dist (D * W') (D * (D' * V u)) := by
        rw [e]
        congr 1
        · exact Nat.mul_comm _ _
        · rw [Nat.mul_assoc]
      rw [this, dist_mul]
    have b : ∀ u, dist (W * D') (D * D' * V t) ≤ dist (W * D') (D * D' * V u) := fun u => by
      rw [sc, sc]; exact Nat.mul_le_mul_left _ (a u).1
    have b' : ∀ u, dist (W * D') (D * D' * V t') ≤ dist (W * D') (D * D' * V u) := fun u => by
      rw [sc', sc']; exact Nat.mul_le_mul_left _ (a' u).1
    have heq : dist (W * D') (D * D' * V t) = dist (W * D') (D * D' * V t') := Nat.le_antisymm (b t') (b' t)
    by_cases hv : t = t'
    · rw [hv]
    · exfalso
      have hVne : V t ≠ V t' := by
        intro q
        rcases Nat.lt_or_gt_of_ne hv with h | h
        · exact absurd q (Nat.ne_of_lt (V_lt h))
        · exact absurd q (Nat.ne_of_gt (V_lt h))
      have e1 : t % 2 = 0 := (a t').2 (Ne.symm hVne) (by
        have := heq; rw [sc, sc] at this; exact Nat.eq_of_mul_eq_mul_left hD' this)
      have e2 : t' % 2 = 0 := (a' t).2 hVne (by
        have := heq; rw [sc', sc'] at this; exact (Nat.eq_of_mul_eq_mul_left hD this).symm)
      have hDD : 0 < D * D' := Nat.mul_pos hD hD'
      rcases Nat.lt_or_gt_of_ne hv with h | h
      · have hm := b (t + 1)
        have hm' := b' (t + 1)
        have h1 : V t < V (t + 1) := V_lt (Nat.lt_succ_self _)
        have h2 : V (t + 1) < V t' := V_lt (by lia)
        have m1 : D * D' * V t < D * D' * V (t + 1) := Nat.mul_lt_mul_of_pos_left h1 hDD
        have m2 : D * D' * V (t + 1) < D * D' * V t' := Nat.mul_lt_mul_of_pos_left h2 hDD
        exact dist_between m1 m2 heq hm
      · have hm := b (t' + 1)
        have hm' := b' (t' + 1)
        have h1 : V t' < V (t' + 1) := V_lt (Nat.lt_succ_self _)
        have h2 : V (t' + 1) < V t := V_lt (by lia)
        have m1 : D * D' * V t' < D * D' * V (t' + 1) := Nat.mul_lt_mul_of_pos_left h1 hDD
        have m2 : D * D' * V (t' + 1) < D * D' * V t := Nat.mul_lt_mul_of_pos_left h2 hDD
        exact dist_between m1 m2 heq.symm hm'
theorem ofFrac_same {neg : Bool} {n d n' d' : Nat} (hd : 0 < d) (hd' : 0 < d') (e : n * d' = n' * d) : ofFrac neg n d = ofFrac neg n' d' :=
  right_unique (ofFrac_right (W := n * 2 ^ 1074) (D := d) hd (by ac_rfl) hd) (ofFrac_right (W := n' * 2 ^ 1074) (D := d') hd' (by ac_rfl) hd') hd hd' (by
    rw [Nat.mul_right_comm, e, Nat.mul_right_comm])
theorem repr_V : ∀ (c q : Nat), q ≤ 2 ^ 53 → ∃ t, V t = q * 2 ^ c ∧ (c ≤ 1500 → t < infMag) := by
  intro c
  induction c with
  | zero =>
    intro q hq
    refine ⟨q, ?_, fun _ => ?_⟩
    · have := V_at (k := 0) (q := q) hq (.inr rfl)
      simpa using this
    · have : infMag = 2047 * 2 ^ 52 := rfl
      lia
  | succ c ih =>
    intro q hq
    by_cases h : 2 ^ 52 ≤ q
    · refine ⟨(c + 1) * 2 ^ 52 + q, V_at hq (.inl h), fun hc => ?_⟩
      have : infMag = 2047 * 2 ^ 52 := rfl
      lia
    · refine oEA (ih (2 * q) (by lia)) fun t ht hi => ?_
      refine ⟨t, ?_, fun hc => hi (by lia)⟩
      rw [ht, Nat.pow_succ, Nat.mul_comm 2 q, Nat.mul_assoc, Nat.mul_comm 2]
theorem pow_split (a b c : Nat) (h : a = b + c) : (2 : Nat) ^ a = 2 ^ b * 2 ^ c := by rw [h, Nat.pow_add]
theorem right_small {r : UInt64} {neg : Bool} {W D : Nat} (h : Right r neg W D) (hD : 0 < D) (hW : W ≤ D * 2 ^ 1080) : ∃ t, r = pack neg t ∧ t < infMag ∧ ∀ t', dist W (D * V t) ≤ dist W (D * V t') := by
  refine oEAAA h fun t q5897z1 ht hi hn => ?_; (try clear h); obtain rfl := q5897z1
  have hlt : t < infMag := by
    rcases Nat.lt_or_ge t infMag with q | q
    · exact q
    · exfalso
      have h1 := hi.mp (Nat.le_antisymm ht q)
      have h2 : D * ((2 ^ 54 - 1) * 2 ^ 2045) ≤ D * (2 * 2 ^ 1080) := by
        refine Nat.le_trans h1 ?_
        rw [show D * (2 * 2 ^ 1080) = 2 * (D * 2 ^ 1080) by ac_rfl]
        exact Nat.mul_le_mul_left _ hW
      have h3 := Nat.le_of_mul_le_mul_left h2 hD
      have h4 : (2 : Nat) ^ 2045 = 2 ^ 1080 * 2 ^ 965 := pow_split _ _ _ rfl
      rw [h4] at h3
      have h5 : (2 ^ 54 - 1) * (2 ^ 1080 * 2 ^ 965) = 2 ^ 1080 * ((2 ^ 54 - 1) * 2 ^ 965) := by ac_rfl
      rw [h5, Nat.mul_comm 2] at h3
      have h6 := Nat.le_of_mul_le_mul_left h3 (Nat.two_pow_pos _)
      have h7 : 1 ≤ 2 ^ 965 := Nat.one_le_two_pow
      have h8 : (2 ^ 54 - 1) * 1 ≤ (2 ^ 54 - 1) * 2 ^ 965 := Nat.mul_le_mul_left _ h7
      lia
  exact ⟨t, rfl, hlt, fun t' => (hn hlt t').1⟩
theorem right_exact {r : UInt64} {neg : Bool} {W D t : Nat} (h : Right r neg W D) (hD : 0 < D) (hW : W ≤ D * 2 ^ 1080) (e : W = D * V t) : r = pack neg t := by
  refine oEAA (right_small h hD hW) fun t' q7018z1 hlt hn => ?_; obtain rfl := q7018z1
  have := hn t
  rw [e, dist_self] at this
  have h2 := dist_zero (Nat.le_zero.mp this)
  have h3 := Nat.eq_of_mul_eq_mul_left hD h2
  congr 1
  rcases Nat.lt_trichotomy t' t with q | q | q
  · exact absurd h3 (Nat.ne_of_gt (V_lt q))
  · exact q
  · exact absurd h3 (Nat.ne_of_lt (V_lt q))
theorem right_near {r : UInt64} {neg : Bool} {W D : Nat} (h : Right r neg W D) (hD : 0 < D) (hW : W < D * 2 ^ 1077) : ∃ t, r = pack neg t ∧ t < infMag ∧ dist W (D * V t) < D * 2 ^ 1024 := by
  have hp : (2 : Nat) ^ 1080 = 2 ^ 1077 * 2 ^ 3 := pow_split _ _ _ rfl
  refine oEAA (right_small h hD (Nat.le_of_lt (Nat.lt_of_lt_of_le hW (Nat.mul_le_mul_left _ (by rw [hp]; lia))))) fun t q7634z1 hlt hn => ?_; obtain rfl := q7634z1
  have hC : 0 < D * 2 ^ 1024 := Nat.mul_pos hD (Nat.two_pow_pos _)
  have hq : W / (D * 2 ^ 1024) ≤ 2 ^ 53 := by
    have : W / (D * 2 ^ 1024) < 2 ^ 53 := by
      rw [Nat.div_lt_iff_lt_mul hC]
      have : (2 : Nat) ^ 1077 = 2 ^ 53 * 2 ^ 1024 := pow_split _ _ _ rfl
      rw [this] at hW
      have e : 2 ^ 53 * (D * 2 ^ 1024) = D * (2 ^ 53 * 2 ^ 1024) := by ac_rfl
      rw [e]; exact hW
    lia
  refine oEA (repr_V 1024 _ hq) fun t' ht' _ => ?_
  refine ⟨t, rfl, hlt, Nat.lt_of_le_of_lt (hn t') ?_⟩
  rw [ht']
  have e : D * (W / (D * 2 ^ 1024) * 2 ^ 1024) = (D * 2 ^ 1024) * (W / (D * 2 ^ 1024)) := by ac_rfl
  rw [e]
  have h1 := Nat.div_add_mod W (D * 2 ^ 1024)
  have h2 := Nat.mod_lt W hC
  generalize (D * 2 ^ 1024) * (W / (D * 2 ^ 1024)) = X at *
  unfold dist
  omega
end
-- part FL2
section
set_option maxRecDepth 100000
open PySem PySem.Float64
noncomputable def PP : Nat := 2 ^ 1060
theorem PP_pos : 0 < PP := Nat.two_pow_pos _
theorem U_eq : (2 : Nat) ^ 1074 = 2 ^ 14 * PP := by unfold PP; exact pow_split _ _ _ rfl
theorem U77_eq : (2 : Nat) ^ 1077 = 2 ^ 17 * PP := by unfold PP; exact pow_split _ _ _ rfl
theorem U80_eq : (2 : Nat) ^ 1080 = 2 ^ 20 * PP := by unfold PP; exact pow_split _ _ _ rfl
noncomputable def X (x : UInt64) (j : Nat) : Prop := ∃ t, x = pack false t ∧ t < infMag ∧ V t = j * PP
theorem V_inj {t t' : Nat} (h : V t = V t') : t = t' := by
  rcases Nat.lt_trichotomy t t' with q | q | q
  · exact absurd h (Nat.ne_of_lt (V_lt q))
  · exact q
  · exact absurd h (Nat.ne_of_gt (V_lt q))
theorem X.unique {x y : UInt64} {j : Nat} (h : X x j) (h' : X y j) : x = y := by
  refine oEAA h fun t q837z1 _ e => ?_; (try clear h); obtain rfl := q837z1
  refine oEAA h' fun t' q870z1 _ e' => ?_; (try clear h'); obtain rfl := q870z1
  rw [V_inj (e.trans e'.symm)]
theorem X.dec {x : UInt64} {j : Nat} (h : X x j) : ∃ m e, decode x = .fin false m e ∧ val x = ((j * PP : Nat) : Int) ∧ (m = 0 ↔ j = 0) := by
  refine oEAA h fun t q1086z1 ht e => ?_; (try clear h); obtain rfl := q1086z1
  refine oEEA (decode_pack false ht) fun m ex hd hv => ?_
  refine ⟨m, ex, hd, by rw [val_pack false ht, e]; rfl, ?_⟩
  rw [e] at hv
  have hp := PP_pos
  have h2 : 0 < 2 ^ (ex + 1074).toNat := Nat.two_pow_pos _
  constructor
  · rintro rfl
    rw [Nat.zero_mul] at hv
    rcases Nat.mul_eq_zero.mp hv.symm with q | q
    · exact q
    · lia
  · rintro rfl
    rw [Nat.zero_mul] at hv
    rcases Nat.mul_eq_zero.mp hv with q | q
    · exact q
    · lia
theorem X.of_right {r : UInt64} {W D j : Nat} (h : Right r false W D) (hD : 0 < D) (hj : j ≤ 2 ^ 20) (e : W = D * (j * PP)) : X r j := by
  refine oEA (repr_V 1060 j (by lia)) fun t ht hi => ?_
  refine ⟨t, right_exact h hD ?_ ?_, hi (by lia), ht⟩
  · rw [e, U80_eq]
    exact Nat.mul_le_mul_left _ (Nat.mul_le_mul_right _ hj)
  · rw [e, ht]; rfl
theorem X.ofFrac {n d j : Nat} (hd : 0 < d) (hj : j ≤ 2 ^ 20) (e : n * 2 ^ 14 = d * j) : X (ofFrac false n d) j := by
  refine X.of_right (ofFrac_right (W := n * 2 ^ 1074) (D := d) hd (by ac_rfl) hd) hd hj ?_
  rw [U_eq, ← Nat.mul_assoc, e, Nat.mul_assoc]
theorem X.zero : X (pack false 0) 0 := ⟨0, rfl, by decide, by rw [V_zero, Nat.zero_mul]⟩
theorem X.add {x y : UInt64} {j k : Nat} (h : X x j) (h' : X y k) (hj : j + k ≤ 2 ^ 20) : X (Float64.add x y) (j + k) := by
  refine oEEAA h.dec fun m e hd hv _ => ?_
  refine oEEAA h'.dec fun m' e' hd' hv' _ => ?_
  refine oA (add_right hd hd') fun h0 h1 => ?_
  have hs : val x + val y = (((j + k) * PP : Nat) : Int) := by rw [hv, hv']; rw [Nat.add_mul]; lia
  by_cases hz : val x + val y = 0
  · rw [h0 hz]
    have : (j + k) * PP = 0 := by rw [hs] at hz; exact_mod_cast hz
    have hp := PP_pos
    have : j + k = 0 := by
      rcases Nat.mul_eq_zero.mp this with q | q
      · exact q
      · lia
    rw [this]
    exact X.zero
  · have hr := h1 hz
    rw [hs] at hr
    have hn : decide ((((j + k) * PP : Nat) : Int) < 0) = false := decide_eq_false (Int.not_lt.mpr (Int.natCast_nonneg _))
    rw [hn, Int.natAbs_natCast] at hr
    exact X.of_right hr (by decide) hj (by lia)
theorem X.sub {x y : UInt64} {j k : Nat} (h : X x j) (h' : X y k) (hj : j ≤ 2 ^ 20) (hk : k ≤ j) : X (Float64.sub x y) (j - k) := by
  refine oEEAA h.dec fun m e hd hv _ => ?_
  refine oEEAA h'.dec fun m' e' hd' hv' _ => ?_
  have hdn := neg_decode hd'
  have hvn := neg_val hd'
  refine oA (add_right hd hdn) fun h0 h1 => ?_
  have hs : val x + val (Float64.neg y) = (((j - k) * PP : Nat) : Int) := by
    rw [hvn, hv, hv', Nat.sub_mul]
    have := Nat.mul_le_mul_right PP hk
    omega
  rw [sub_eq_add]
  by_cases hz : val x + val (Float64.neg y) = 0
  · rw [h0 hz]
    have : (j - k) * PP = 0 := by rw [hs] at hz; exact_mod_cast hz
    have hp := PP_pos
    have : j - k = 0 := by
      rcases Nat.mul_eq_zero.mp this with q | q
      · exact q
      · omega
    rw [this]
    exact X.zero
  · have hr := h1 hz
    rw [hs] at hr
    have hn : decide ((((j - k) * PP : Nat) : Int) < 0) = false := decide_eq_false (Int.not_lt.mpr (Int.natCast_nonneg _))
    rw [hn, Int.natAbs_natCast] at hr
    exact X.of_right hr (by decide) (by omega) (by omega)
theorem X.div {x y : UInt64} {j k : Nat} (h : X x j) (h' : X y k) (hk : 0 < k) : Float64.div x y = Float64.ofFrac false j k := by
  refine oEEAA h.dec fun m e hd hv _ => ?_
  refine oEEAA h'.dec fun m' e' hd' hv' hz => ?_
  have hr := div_right hd hd' (fun q => by have := hz.mp q; lia)
  rw [hv, hv', Int.natAbs_natCast, Int.natAbs_natCast] at hr
  refine right_unique hr (ofFrac_right (neg := false) (W := j * 2 ^ 1074) (D := k) hk (by ac_rfl) hk) (Nat.mul_pos hk PP_pos) hk ?_
  generalize 2 ^ 1074 = U
  ac_rfl
theorem X.cmp {x y : UInt64} {j k : Nat} (h : X x j) (h' : X y k) : Float64.cmp x y = some (compare j k) := by
  refine oEEAA h.dec fun m e hd hv _ => ?_
  refine oEEAA h'.dec fun m' e' hd' hv' _ => ?_
  rw [cmp_right hd hd', hv, hv']
  have hp := PP_pos
  congr 1
  rcases Nat.lt_trichotomy j k with q | q | q
  · rw [Nat.compare_eq_lt.mpr q, Int.compare_eq_lt.mpr]
    exact_mod_cast Nat.mul_lt_mul_of_pos_right q hp
  · subst q; simp
  · rw [Nat.compare_eq_gt.mpr q, Int.compare_eq_gt.mpr]
    exact_mod_cast Nat.mul_lt_mul_of_pos_right q hp
end
-- part FL3
section
set_option maxRecDepth 100000
open PySem PySem.Float64
noncomputable def EE : Nat := 2 ^ 1024
noncomputable def UU : Nat := 2 ^ 1074
theorem EE_pos : 0 < EE := Nat.two_pow_pos _
theorem UU_eq : UU = 2 ^ 50 * EE := by unfold UU EE; exact pow_split _ _ _ rfl
theorem UU_PP : UU = 2 ^ 14 * PP := U_eq
theorem U77 : (2 : Nat) ^ 1077 = 8 * UU := by unfold UU; exact pow_split 1077 3 1074 rfl
noncomputable def Fn (x : UInt64) : Prop := ∃ neg t, x = pack neg t ∧ t < infMag
theorem Fn.dec {x : UInt64} (h : Fn x) : ∃ a m e, decode x = .fin a m e := by
  refine oEEA h fun neg t q582z2 ht => ?_; (try clear h); obtain rfl := q582z2
  refine oEEA (decode_pack neg ht) fun m e hd _ => ?_
  exact ⟨neg, m, e, hd⟩
theorem X.fn {x : UInt64} {j : Nat} (h : X x j) : Fn x := let ⟨t, e, ht, _⟩ := h; ⟨false, t, e, ht⟩
theorem X.val {x : UInt64} {j : Nat} (h : X x j) : Float64.val x = ((j * PP : Nat) : Int) := let ⟨_, _, _, hv, _⟩ := h.dec; hv
theorem Fn.feq {x : UInt64} (h : Fn x) : (cmp x x == some Ordering.eq) = true := by
  refine oEEE h.dec fun a m e hd => ?_
  rw [cmp_right hd hd]
  simp
theorem sgn_val (neg : Bool) (v : Nat) : (sgn neg v = (v : Int) ∧ neg = false) ∨ (sgn neg v = -(v : Int) ∧ neg = true) := by cases neg <;> simp [sgn]
theorem near_of {r : UInt64} {z : Int} (h : Right r (decide (z < 0)) z.natAbs 1) (hz : -(2 ^ 17 * PP : Nat) < z ∧ z < (2 ^ 17 * PP : Nat)) : Fn r ∧ -(EE : Int) < val r - z ∧ val r - z < EE := by
  refine oEAA (right_near h (by decide) (by rw [U77_eq]; omega)) fun t q1442z1 ht hd => ?_; obtain rfl := q1442z1
  have hv := val_pack (decide (z < 0)) ht
  refine ⟨⟨_, t, rfl, ht⟩, ?_⟩
  rw [hv]
  have hd' : dist z.natAbs (1 * V t) < 1 * EE := hd
  unfold dist at hd'
  rcases sgn_val (decide (z < 0)) (V t) with ⟨q, s⟩ | ⟨q, s⟩
  · rw [q]; have := of_decide_eq_false s; omega
  · rw [q]; have := of_decide_eq_true s; omega
theorem add_near {x y : UInt64} (fx : Fn x) (fy : Fn y) (hz : -(2 ^ 17 * PP : Nat) < val x + val y ∧ val x + val y < (2 ^ 17 * PP : Nat)) : Fn (add x y) ∧ -(EE : Int) < val (add x y) - (val x + val y) ∧ val (add x y) - (val x + val y) < EE := by
  refine oEEE fx.dec fun a m e hd => ?_
  refine oEEE fy.dec fun b k f hd' => ?_
  refine oA (add_right hd hd') fun h0 h1 => ?_
  by_cases hzz : val x + val y = 0
  · rw [h0 hzz, hzz]
    have hp : (0 : Nat) < infMag := by decide
    refine ⟨⟨_, 0, rfl, hp⟩, ?_⟩
    have : val (Float64.zero (a && b)) = 0 := by
      show val (pack (a && b) 0) = 0
      rw [val_pack _ hp, V_zero]; cases (a && b) <;> rfl
    rw [this]
    have := EE_pos
    lia
  · exact near_of (h1 hzz) hz
theorem Fn.neg {x : UInt64} (h : Fn x) : Fn (Float64.neg x) ∧ val (Float64.neg x) = -val x := by
  refine oEEE h.dec fun a m e hd => ?_
  refine ⟨?_, neg_val hd⟩
  refine oEEA h fun neg t q2750z2 ht => ?_; (try clear h); obtain rfl := q2750z2
  have hi : infMag = 2047 * 2 ^ 52 := rfl
  have hnan : isNaN (pack neg t) = false := by unfold isNaN; rw [hd]
  refine oA (neg_toNat hnan) fun h1 h2 => ?_
  refine ⟨!neg, t, ?_, ht⟩
  apply UInt64.toNat_inj.mp
  rw [pack_toNat (!neg) (t := t) (by lia)]
  rw [pack_toNat neg (t := t) (by lia)] at h1 h2
  have hlt := UInt64.toNat_lt (Float64.neg (pack neg t))
  generalize (Float64.neg (pack neg t)).toNat = N at *
  have ht63 : t < 2 ^ 63 := by lia
  cases neg
  · simp only [Bool.false_eq_true, if_false, Nat.zero_add, Bool.not_false, if_true] at h1 h2 ⊢
    have q : t / 2 ^ 63 = 0 := Nat.div_eq_of_lt ht63
    rw [q] at h2
    have h3 : N / 2 ^ 63 = 1 := by simpa using h2
    lia
  · simp only [if_true, Bool.not_true, Bool.false_eq_true, if_false, Nat.zero_add] at h1 h2 ⊢
    have q : (2 ^ 63 + t) / 2 ^ 63 = 1 := by lia
    rw [q] at h2
    have h3 : N / 2 ^ 63 ≠ 1 := by simpa using h2
    lia
theorem sub_near {x y : UInt64} (fx : Fn x) (fy : Fn y) (hz : -(2 ^ 17 * PP : Nat) < val x - val y ∧ val x - val y < (2 ^ 17 * PP : Nat)) : Fn (sub x y) ∧ -(EE : Int) < val (sub x y) - (val x - val y) ∧ val (sub x y) - (val x - val y) < EE := by
  refine oA fy.neg fun fn vn => ?_
  have := add_near fx fn (by rw [vn]; lia)
  rw [vn] at this
  refine oAA this fun a b c => ?_; (try clear this)
  rw [sub_eq_add]
  exact ⟨a, by lia, by lia⟩
theorem dist_scale (a u v : Nat) : dist (a * u) (6 * u * v) = u * dist a (6 * v) := by
  rw [← dist_mul]
  congr 1
  · ac_rfl
  · ac_rfl
theorem dist_int {a b c : Nat} (h : dist a b < c) : -(c : Int) < b - a ∧ (b : Int) - a < c := by unfold dist at h; omega
theorem div6_near {x y : UInt64} (fx : Fn x) (hy : X y (6 * 2 ^ 14)) (hz : -(2 ^ 17 * PP : Nat) < val x ∧ val x < (2 ^ 17 * PP : Nat)) :
    Fn (div x y) ∧ -(6 * EE : Int) < val (div x y) * 6 - val x ∧ val (div x y) * 6 - val x < 6 * EE := by
  refine oEEA fx fun neg t q4654z2 ht => ?_; (try clear fx); obtain rfl := q4654z2
  refine oEEA (decode_pack neg ht) fun m e hd hm => ?_
  refine oEEAA hy.dec fun m' e' hd' hv' hz' => ?_
  have hr := div_right hd hd' (fun q => by have := hz'.mp q; lia)
  have hvx := val_pack neg ht
  have hs : ((neg != false) : Bool) = neg := by cases neg <;> rfl
  rw [hs, hv', Int.natAbs_natCast] at hr
  have e6 : 6 * 2 ^ 14 * PP = 6 * UU := by rw [UU_PP]; ac_rfl
  rw [e6] at hr
  have hr' : Right (div (pack neg t) y) neg ((val (pack neg t)).natAbs * UU) (6 * UU) := hr
  have hU : 0 < UU := Nat.two_pow_pos _
  have hn1 : (val (pack neg t)).natAbs < 2 ^ 17 * PP := by omega
  have hb : (val (pack neg t)).natAbs * UU < 6 * UU * 2 ^ 1077 := by
    rw [U77_eq]
    calc (val (pack neg t)).natAbs * UU < 2 ^ 17 * PP * UU := Nat.mul_lt_mul_of_pos_right hn1 hU
      _ ≤ 6 * (2 ^ 17 * PP * UU) := by lia
      _ = 6 * UU * (2 ^ 17 * PP) := by ac_rfl
  refine oEAA (right_near hr' (by lia) hb) fun t2 h2 ht2 hd2 => ?_
  rw [h2]
  have hv2 := val_pack neg ht2
  refine ⟨⟨_, t2, rfl, ht2⟩, ?_⟩
  have hd3 : dist (val (pack neg t)).natAbs (6 * V t2) < 6 * EE := by
    have hd2' : dist ((val (pack neg t)).natAbs * UU) (6 * UU * V t2) < 6 * UU * EE := hd2
    rw [dist_scale] at hd2'
    have e2 : 6 * UU * EE = UU * (6 * EE) := by ac_rfl
    rw [e2] at hd2'
    exact Nat.lt_of_mul_lt_mul_left hd2'
  rw [hvx] at hd3
  rw [hv2, hvx]
  clear hd2 hb hr hr' hn1
  have hd4 := dist_int hd3
  clear hd3
  rcases sgn_val neg (V t) with ⟨q, s⟩ | ⟨q, s⟩ <;> rcases sgn_val neg (V t2) with ⟨q2, s2⟩ | ⟨q2, s2⟩
  · rw [q, Int.natAbs_natCast] at hd4; rw [q, q2]; omega
  · rw [s] at s2; cases s2
  · rw [s] at s2; cases s2
  · rw [q, Int.natAbs_neg, Int.natAbs_natCast] at hd4; rw [q, q2]; omega
theorem one_X : X one (2 ^ 14) := by
  have : one = ofFrac false 1 1 := by decide +kernel
  rw [this]
  exact X.ofFrac (by decide) (by decide) (by decide)
theorem fmod_small {neg : Bool} {t : Nat} (ht : t < infMag) (hV : V t < UU) : fmod (pack neg t) one = pack neg t := by
  refine oEEA (decode_pack neg ht) fun m e hd hm => ?_
  have hone : decode one = .fin false (2 ^ 52) (-52) := by with_unfolding_all rfl
  have he := decode_ge hd
  have hf : fmod (pack neg t) one = ofBin neg ((sgn false (m * 2 ^ (e - min e (-52)).toNat)).toNat % (sgn false (2 ^ 52 * 2 ^ (-52 - min e (-52)).toNat)).toNat) (min e (-52)) := by
    unfold fmod
    rw [hd, hone]
    rfl
  have s1 : ∀ n : Nat, (sgn false n).toNat = n := fun n => by simp [sgn]
  rw [s1, s1] at hf
  -- scaled by 2 ^ (g + 1074)
  have g1 : min e (-52) ≤ e := Int.min_le_left _ _
  have g2 : min e (-52) ≤ -52 := Int.min_le_right _ _
  have hg : -1074 ≤ min e (-52) := Int.le_min.mpr ⟨he, by decide⟩
  generalize min e (-52) = g at *
  have h1 : m * 2 ^ (e - g).toNat * 2 ^ (g + 1074).toNat = V t := by
    rw [← hm, Nat.mul_assoc, ← Nat.pow_add]
    congr 2
    lia
  have h2 : 2 ^ 52 * 2 ^ (-52 - g).toNat * 2 ^ (g + 1074).toNat = UU := by
    rw [Nat.mul_assoc, ← Nat.pow_add, ← Nat.pow_add]
    unfold UU
    congr 1
    lia
  have hlt : m * 2 ^ (e - g).toNat < 2 ^ 52 * 2 ^ (-52 - g).toNat := by
    rcases Nat.lt_or_ge (m * 2 ^ (e - g).toNat) (2 ^ 52 * 2 ^ (-52 - g).toNat) with q | q
    · exact q
    · exfalso
      have := Nat.mul_le_mul_right (2 ^ (g + 1074).toNat) q
      rw [h1, h2] at this
      lia
  rw [hf, Nat.mod_eq_of_lt hlt]
  have hr := ofBin_right (neg := neg) (M := m * 2 ^ (e - g).toNat) hg
  rw [h1] at hr
  refine right_exact hr (by decide) ?_ (by rw [Nat.one_mul])
  rw [Nat.one_mul]
  have : (2 : Nat) ^ 1080 = UU * 2 ^ 6 := pow_split 1080 1074 6 rfl
  rw [this]
  lia
theorem zero_dec : decode (Float64.zero false) = .fin false 0 (-1074) := by with_unfolding_all rfl
theorem zero_val : val (Float64.zero false) = 0 := by rw [val_eq zero_dec]; simp [sgn]
theorem lt_zero {x : UInt64} (h : Fn x) : Float64.lt x (Float64.zero false) = decide (val x < 0) := by
  refine oEEE h.dec fun a m e hd => ?_
  unfold Float64.lt
  rw [cmp_right hd zero_dec, zero_val]
  rcases Int.lt_trichotomy (val x) 0 with q | q | q
  · rw [Int.compare_eq_lt.mpr q]; simp [q]
  · rw [q]; decide
  · rw [Int.compare_eq_gt.mpr q]; simp; lia
theorem one_nlt : Float64.lt one (Float64.zero false) = false := by decide +kernel
theorem isZero_val {x : UInt64} (h : Fn x) : isZero x = decide (val x = 0) := by
  refine oEEA h fun neg t q8990z2 ht => ?_; (try clear h); obtain rfl := q8990z2
  refine oEEA (decode_pack neg ht) fun m e hd hm => ?_
  have hv := val_eq hd
  unfold isZero
  rw [hd, hv]
  have h2 : 0 < 2 ^ (e + 1074).toNat := Nat.two_pow_pos _
  cases m with
  | zero => cases neg <;> simp [sgn]
  | succ m =>
    have h3 : 0 < (m + 1) * 2 ^ (e + 1074).toNat := Nat.mul_pos (Nat.succ_pos _) h2
    have : ¬ sgn neg ((m + 1) * 2 ^ (e + 1074).toNat) = 0 := by
      rcases sgn_val neg ((m + 1) * 2 ^ (e + 1074).toNat) with ⟨q, _⟩ | ⟨q, _⟩ <;> rw [q] <;> omega
    simp [this]
theorem mod1 {x : UInt64} (h : Fn x) (hb : -(UU : Int) < val x ∧ val x < UU) :
    (divmod x one).2 = if val x = 0 then copysign (Float64.zero false) one else if val x < 0 then add x one else x := by
  have hz := isZero_val h
  have hl := lt_zero h
  refine oEEA h fun neg t q9777z2 ht => ?_; (try clear h); obtain rfl := q9777z2
  have hv := val_pack neg ht
  have hV : V t < UU := by
    rcases sgn_val neg (V t) with ⟨q, _⟩ | ⟨q, _⟩ <;> rw [hv, q] at hb <;> lia
  have hm := fmod_small (neg := neg) ht hV
  unfold divmod
  simp only [hm]
  by_cases h0 : val (pack neg t) = 0
  · rw [hz, decide_eq_true h0]; simp [h0]
  · rw [hz, decide_eq_false h0, one_nlt, hl]
    by_cases h1 : val (pack neg t) < 0
    · simp [h0, h1]
    · simp [h0, h1]
end
-- part FL4
section
set_option maxRecDepth 100000
open PySem PySem.Float64
noncomputable def c2 : UInt64 := 0x4000000000000000
noncomputable def c4 : UInt64 := 0x4010000000000000
noncomputable def c6 : UInt64 := 0x4018000000000000
noncomputable def ch : UInt64 := 0x3fe0000000000000
theorem c2_X : X c2 (2 * 2 ^ 14) := by
  have : c2 = ofFrac false 2 1 := by decide +kernel
  rw [this]; exact X.ofFrac (by decide) (by decide) (by decide)
theorem c4_X : X c4 (4 * 2 ^ 14) := by
  have : c4 = ofFrac false 4 1 := by decide +kernel
  rw [this]; exact X.ofFrac (by decide) (by decide) (by decide)
theorem c6_X : X c6 (6 * 2 ^ 14) := by
  have : c6 = ofFrac false 6 1 := by decide +kernel
  rw [this]; exact X.ofFrac (by decide) (by decide) (by decide)
theorem ch_X : X ch (2 ^ 13) := by
  have : ch = ofFrac false 1 2 := by decide +kernel
  rw [this]; exact X.ofFrac (by decide) (by decide) (by decide)
noncomputable def Nr (x : UInt64) (p d : Int) (c : Int) : Prop := Fn x ∧ -(c * (d * EE)) ≤ val x * d - p * UU ∧ val x * d - p * UU ≤ c * (d * EE)
theorem scale {a b c w : Int} (hw : 0 < w) (h1 : -c < a - b) (h2 : a - b < c) : -(c * w) < a * w - b * w ∧ a * w - b * w < c * w := by
  rw [← Int.sub_mul, ← Int.neg_mul]
  exact ⟨Int.mul_lt_mul_of_pos_right h1 hw, Int.mul_lt_mul_of_pos_right h2 hw⟩
theorem frac_near {n d : Nat} (hd : 0 < d) (hn : n < 8 * d) : Nr (ofFrac false n d) n d 1 := by
  have hr := ofFrac_right (neg := false) (W := n * UU) (D := d) hd (by show n * 2 ^ 1074 * d = n * UU * d; rfl) hd
  refine oEAA (right_near hr hd (by
    rw [U77]
    calc n * UU < 8 * d * UU := Nat.mul_lt_mul_of_pos_right hn (Nat.two_pow_pos _)
      _ = d * (8 * UU) := by ac_rfl)) fun t h2 ht hd2 => ?_
  rw [h2]
  refine ⟨⟨_, t, rfl, ht⟩, ?_⟩
  rw [val_pack false ht]
  have hd3 : dist (n * UU) (d * V t) < d * EE := hd2
  have e1 : sgn false (V t) * (d : Int) = ((d * V t : Nat) : Int) := by
    show ((V t : Nat) : Int) * (d : Int) = _
    rw [Int.natCast_mul, Int.mul_comm]
  have e2 : (n : Int) * (UU : Int) = ((n * UU : Nat) : Int) := by rw [Int.natCast_mul]
  have e3 : (1 : Int) * ((d : Int) * (EE : Int)) = ((d * EE : Nat) : Int) := by rw [Int.one_mul, Int.natCast_mul]
  rw [e1, e2, e3]
  generalize n * UU = a at *
  generalize d * V t = b at *
  generalize d * EE = c at *
  unfold dist at hd3
  omega
noncomputable def hue0 (s : Nat) (ρ : UInt64) : UInt64 := match s with
  | 0 => sub one ρ
  | 1 => sub (add c2 ρ) one
  | 2 => sub (add c2 one) ρ
  | 3 => sub (add c4 ρ) one
  | 4 => sub (add c4 one) ρ
  | _ => sub ρ one
noncomputable def hue1 (s : Nat) (ρ : UInt64) : UInt64 := (divmod (div (hue0 s ρ) c6) one).2
noncomputable def hH (s : Nat) (x w : Int) : Int := match s with
  | 0 => w - x
  | 1 => w + x
  | 2 => 3 * w - x
  | 3 => 3 * w + x
  | 4 => 5 * w - x
  | _ => x - w
theorem UU_val {x : UInt64} {k : Nat} (h : X x (k * 2 ^ 14)) : val x = ((k * UU : Nat) : Int) := by
  rw [h.val, UU_PP, Nat.mul_assoc]
theorem one_val : val one = (UU : Int) := by
  have := UU_val (k := 1) (x := one) (by simpa using one_X)
  simpa using this
theorem bnd {v w : Int} {k : Int} (hw : 0 < w) (h : v * w < k * w) : v < k := Int.lt_of_mul_lt_mul_right h (Int.le_of_lt hw)
theorem PP8 : ((2 ^ 17 * PP : Nat) : Int) = 8 * UU := by rw [UU_PP]; lia
theorem EE0 : (0 : Int) < EE := Int.natCast_pos.mpr EE_pos
theorem UE (w : Int) : w * (UU : Int) = 2 ^ 50 * (w * EE) := by
  rw [show (UU : Int) = 2 ^ 50 * EE by rw [UU_eq]; simp]; exact Int.mul_left_comm _ _ _
theorem UU0 : (0 : Int) < UU := by
  have h := UE 1
  have e := EE0
  rw [Int.one_mul, Int.one_mul] at h
  lia
theorem Nr.weak {x : UInt64} {p d c c' : Int} (h : Nr x p d c) (hd : 0 ≤ d) (hc : c ≤ c') : Nr x p d c' := by
  refine oAA h fun f a b => ?_; (try clear h)
  have : c * (d * EE) ≤ c' * (d * EE) := Int.mul_le_mul_of_nonneg_right hc (Int.mul_nonneg hd (Int.le_of_lt EE0))
  exact ⟨f, Int.le_trans (Int.neg_le_neg this) a, Int.le_trans b this⟩
theorem Nr.as {x : UInt64} {p p' d c : Int} (h : Nr x p d c) (e : p = p') : Nr x p' d c := e ▸ h
theorem lin3 {W a b p q r e : Int} (h1 : -e < W - (a + b)) (h2 : W - (a + b) < e) (k1 : -r ≤ b - p) (k2 : b - p ≤ r) (hq : q = a + p) : -(r + e) ≤ W - q ∧ W - q ≤ r + e := by lia
theorem nr_addc {a ρ : UInt64} {x w c k : Int} (fa : Fn a) (va : val a = k * UU) (hw : 0 < w) (h : Nr ρ x w c) (hb : -(8 * UU : Int) < k * UU + val ρ ∧ k * UU + val ρ < 8 * UU) : Nr (add a ρ) (k * w + x) w (c + 1) := by
  refine oAA h fun f l1 l2 => ?_; (try clear h)
  refine oAA (add_near fa f (by rw [va, PP8]; exact hb)) fun g a1 a2 => ?_
  refine oA (scale hw a1 a2) fun a3 a4 => ?_
  rw [va, Int.add_mul, Int.mul_comm (EE : Int) w] at a3 a4
  refine ⟨g, ?_⟩
  rw [show (c + 1) * (w * (EE : Int)) = c * (w * EE) + w * EE by rw [Int.add_mul, Int.one_mul]]
  exact lin3 a3 a4 l1 l2 (by rw [Int.add_mul, Int.mul_right_comm])
theorem nr_addc' {a ρ : UInt64} {x w c k : Int} (fa : Fn a) (va : val a = k * UU) (hw : 0 < w) (h : Nr ρ x w c) (hb : -(8 * UU : Int) < k * UU + val ρ ∧ k * UU + val ρ < 8 * UU) : Nr (add ρ a) (k * w + x) w (c + 1) := by
  refine oAA h fun f l1 l2 => ?_; (try clear h)
  refine oAA (add_near f fa (by rw [va, PP8, Int.add_comm]; exact hb)) fun g a1 a2 => ?_
  refine oA (scale hw a1 a2) fun a3 a4 => ?_
  rw [va, Int.add_comm, Int.add_mul, Int.mul_comm (EE : Int) w] at a3 a4
  refine ⟨g, ?_⟩
  rw [show (c + 1) * (w * (EE : Int)) = c * (w * EE) + w * EE by rw [Int.add_mul, Int.one_mul]]
  exact lin3 a3 a4 l1 l2 (by rw [Int.add_mul, Int.mul_right_comm])
theorem lin4 {W a b p q r e : Int} (h1 : -e < W - (a - b)) (h2 : W - (a - b) < e) (k1 : -r ≤ b - p) (k2 : b - p ≤ r) (hq : q = a - p) : -(r + e) ≤ W - q ∧ W - q ≤ r + e := by lia
theorem nr_csub {a ρ : UInt64} {x w c k : Int} (fa : Fn a) (va : val a = k * UU) (hw : 0 < w) (h : Nr ρ x w c) (hb : -(8 * UU : Int) < k * UU - val ρ ∧ k * UU - val ρ < 8 * UU) : Nr (sub a ρ) (k * w - x) w (c + 1) := by
  refine oAA h fun f l1 l2 => ?_; (try clear h)
  refine oAA (sub_near fa f (by rw [va, PP8]; exact hb)) fun g a1 a2 => ?_
  refine oA (scale hw a1 a2) fun a3 a4 => ?_
  rw [va, Int.sub_mul, Int.mul_comm (EE : Int) w] at a3 a4
  refine ⟨g, ?_⟩
  rw [show (c + 1) * (w * (EE : Int)) = c * (w * EE) + w * EE by rw [Int.add_mul, Int.one_mul]]
  exact lin4 a3 a4 l1 l2 (by rw [Int.sub_mul, Int.mul_right_comm])
theorem lin5 {W a b p q r e : Int} (h1 : -e < W - (b - a)) (h2 : W - (b - a) < e) (k1 : -r ≤ b - p) (k2 : b - p ≤ r) (hq : q = p - a) : -(r + e) ≤ W - q ∧ W - q ≤ r + e := by lia
theorem nr_subc {a ρ : UInt64} {x w c k : Int} (fa : Fn a) (va : val a = k * UU) (hw : 0 < w) (h : Nr ρ x w c) (hb : -(8 * UU : Int) < val ρ - k * UU ∧ val ρ - k * UU < 8 * UU) : Nr (sub ρ a) (x - k * w) w (c + 1) := by
  refine oAA h fun f l1 l2 => ?_; (try clear h)
  refine oAA (sub_near f fa (by rw [va, PP8]; exact hb)) fun g a1 a2 => ?_
  refine oA (scale hw a1 a2) fun a3 a4 => ?_
  rw [va, Int.sub_mul, Int.mul_comm (EE : Int) w] at a3 a4
  refine ⟨g, ?_⟩
  rw [show (c + 1) * (w * (EE : Int)) = c * (w * EE) + w * EE by rw [Int.add_mul, Int.one_mul]]
  exact lin5 a3 a4 l1 l2 (by rw [Int.sub_mul, Int.mul_right_comm])
theorem nr_rng {y : UInt64} {p w c m n : Int} (hw : 0 < w) (h : Nr y p w c) (hc : c ≤ 3) (h0 : n * w ≤ p) (h1 : p ≤ m * w) : (n - 1) * UU < val y ∧ val y < (m + 1) * UU := by
  refine oAA (h.weak (Int.le_of_lt hw) hc) fun _ l1 l2 => ?_
  have hwE : (0 : Int) < w * EE := Int.mul_pos hw EE0
  have hU := UE w
  have p0 := Int.mul_le_mul_of_nonneg_right h0 (Int.le_of_lt UU0)
  have p1 := Int.mul_le_mul_of_nonneg_right h1 (Int.le_of_lt UU0)
  rw [Int.mul_assoc] at p0 p1
  constructor
  · refine Int.lt_of_mul_lt_mul_right (a := w) ?_ (Int.le_of_lt hw)
    rw [Int.mul_assoc, Int.mul_comm (UU : Int) w, Int.sub_mul]
    lia
  · refine Int.lt_of_mul_lt_mul_right (a := w) ?_ (Int.le_of_lt hw)
    rw [Int.mul_assoc, Int.mul_comm (UU : Int) w, Int.add_mul]
    lia
theorem hue0_near {s : Nat} (hs : s ≤ 5) {ρ : UInt64} {x w : Int} (hw : 0 < w) (hx0 : 0 ≤ x) (hx : x ≤ w) (h : Nr ρ x w 1) : Nr (hue0 s ρ) (hH s x w) w 3 := by
  refine oA (nr_rng (m := 1) (n := 0) hw h (by decide) (by rw [Int.zero_mul]; exact hx0) (by rw [Int.one_mul]; exact hx)) fun b0 b1 => ?_
  have hw' := Int.le_of_lt hw
  have u0 := UU0
  have v1 : val one = 1 * (UU : Int) := one_val.trans (Int.one_mul _).symm
  match s, hs with
  | 0, _ => exact ((nr_csub one_X.fn v1 hw h (by lia)).weak hw' (by decide)).as (by show 1 * w - x = w - x; lia)
  | 1, _ =>
    have h2 := nr_addc (a := c2) (k := 2) c2_X.fn (UU_val c2_X) hw h (by lia)
    refine oA (nr_rng (m := 3) (n := 2) hw h2 (by decide) (by lia) (by lia)) fun d0 d1 => ?_
    exact (nr_subc one_X.fn v1 hw h2 (by lia)).as (by show 2 * w + x - 1 * w = w + x; lia)
  | 2, _ =>
    have h3 : X (add c2 one) (3 * 2 ^ 14) := by have h := X.add c2_X one_X (by decide); exact h
    exact ((nr_csub (k := 3) h3.fn (UU_val h3) hw h (by lia)).weak hw' (by decide))
  | 3, _ =>
    have h2 := nr_addc (a := c4) (k := 4) c4_X.fn (UU_val c4_X) hw h (by lia)
    refine oA (nr_rng (m := 5) (n := 4) hw h2 (by decide) (by lia) (by lia)) fun d0 d1 => ?_
    exact (nr_subc one_X.fn v1 hw h2 (by lia)).as (by show 4 * w + x - 1 * w = 3 * w + x; lia)
  | 4, _ =>
    have h5 : X (add c4 one) (5 * 2 ^ 14) := by have h := X.add c4_X one_X (by decide); exact h
    exact ((nr_csub (k := 5) h5.fn (UU_val h5) hw h (by lia)).weak hw' (by decide))
  | 5, _ => exact ((nr_subc one_X.fn v1 hw h (by lia)).weak hw' (by decide)).as (by show x - 1 * w = x - w; lia)
noncomputable def wayP (s : Nat) (x w : Int) : Int := match s with
  | 0 => w - x
  | 1 => w + x
  | 2 => 3 * w - x
  | 3 => 3 * w + x
  | 4 => 5 * w - x
  | _ => 5 * w + x
theorem hH_rng {s : Nat} (hs : s ≤ 5) {x w : Int} (x0 : 0 ≤ x) (x1 : x ≤ w) : -w ≤ hH s x w ∧ hH s x w ≤ 5 * w := by
  match s, hs with
  | 0, _ => exact ⟨by show -w ≤ w - x; lia, by show w - x ≤ 5 * w; lia⟩
  | 1, _ => exact ⟨by show -w ≤ w + x; lia, by show w + x ≤ 5 * w; lia⟩
  | 2, _ => exact ⟨by show -w ≤ 3 * w - x; lia, by show 3 * w - x ≤ 5 * w; lia⟩
  | 3, _ => exact ⟨by show -w ≤ 3 * w + x; lia, by show 3 * w + x ≤ 5 * w; lia⟩
  | 4, _ => exact ⟨by show -w ≤ 5 * w - x; lia, by show 5 * w - x ≤ 5 * w; lia⟩
  | 5, _ => exact ⟨by show -w ≤ x - w; lia, by show x - w ≤ 5 * w; lia⟩
theorem hH_pos {s : Nat} (hs : s ≤ 5) {x w : Int} (hw : 0 < w) (x0 : 0 ≤ x) (x1 : x ≤ w) (h : s ≠ 5) : wayP s x w = hH s x w ∧ (1 ≤ hH s x w ∨ (s = 0 ∧ x = w)) := by
  match s, hs with
  | 0, _ => exact ⟨rfl, by show 1 ≤ w - x ∨ _; lia⟩
  | 1, _ => exact ⟨rfl, .inl (by show 1 ≤ w + x; lia)⟩
  | 2, _ => exact ⟨rfl, .inl (by show 1 ≤ 3 * w - x; lia)⟩
  | 3, _ => exact ⟨rfl, .inl (by show 1 ≤ 3 * w + x; lia)⟩
  | 4, _ => exact ⟨rfl, .inl (by show 1 ≤ 5 * w - x; lia)⟩
  | 5, _ => exact absurd rfl h
theorem Nr.zero (d : Int) (hd : 0 ≤ d) : Nr (pack false 0) 0 d 3 := by
  have hp : (0 : Nat) < infMag := by decide
  refine ⟨⟨false, 0, rfl, hp⟩, ?_⟩
  have e : val (pack false 0) = 0 := by rw [val_pack _ hp, V_zero]; rfl
  have q : 0 ≤ 3 * (d * (EE : Int)) := Int.mul_nonneg (by decide) (Int.mul_nonneg hd (Int.le_of_lt EE0))
  rw [e, Int.zero_mul, Int.zero_mul]
  exact ⟨Int.neg_nonpos_of_nonneg q, q⟩
theorem lin6 {W a p e : Int} (h1 : -(6 * e) < W - a) (h2 : W - a < 6 * e) (k1 : -(3 * e) ≤ a - p) (k2 : a - p ≤ 3 * e) (he : 0 < e) : -(12 * e) ≤ W - p ∧ W - p ≤ 12 * e := by lia
theorem nr_div6 {y : UInt64} {p w : Int} (hw : 0 < w) (h : Nr y p w 3) (h0 : -w ≤ p) (h1 : p ≤ 5 * w) : Nr (div y c6) p (6 * w) 2 := by
  refine oA (nr_rng (n := -1) (m := 5) hw h (by decide) (by rw [Int.neg_one_mul]; exact h0) h1) fun b0 b1 => ?_
  have u0 := UU0
  refine oAA h fun f l1 l2 => ?_; (try clear h)
  refine oAA (div6_near f c6_X (by rw [PP8]; lia)) fun fd d1 d2 => ?_
  refine oA (scale hw d1 d2) fun d3 d4 => ?_
  rw [Int.mul_assoc (val (div y c6)), Int.mul_assoc 6 (EE : Int) w, Int.mul_comm (EE : Int) w] at d3 d4
  refine ⟨fd, ?_⟩
  rw [show (2 : Int) * (6 * w * EE) = 12 * (w * EE) by rw [Int.mul_assoc, ← Int.mul_assoc]; rfl]
  exact lin6 d3 d4 l1 l2 (Int.mul_pos hw EE0)
theorem six (w u : Int) : u * (6 * w) = 6 * (w * u) := by rw [Int.mul_left_comm, Int.mul_comm u w]
theorem nr_unit {d : UInt64} {p w : Int} (hw : 0 < w) (h : Nr d p (6 * w) 2) (h0 : -w ≤ p) (h1 : p ≤ 5 * w) : -(UU : Int) < val d ∧ val d < UU := by
  refine oAA h fun _ l1 l2 => ?_; (try clear h)
  have e0 : (0 : Int) < w * EE := Int.mul_pos hw EE0
  have hU := UE w
  have p0 := Int.mul_le_mul_of_nonneg_right h0 (Int.le_of_lt UU0)
  have p1 := Int.mul_le_mul_of_nonneg_right h1 (Int.le_of_lt UU0)
  rw [Int.mul_assoc] at p1
  rw [Int.neg_mul] at p0
  rw [show (2 : Int) * (6 * w * EE) = 12 * (w * EE) by rw [Int.mul_assoc, ← Int.mul_assoc]; rfl] at l1 l2
  have h6 : (0 : Int) < 6 * w := by clear l1 l2 hU p0 p1 e0 h0 h1; lia
  exact ⟨bnd h6 (by rw [Int.neg_mul, six w (UU : Int)]; lia), bnd h6 (by rw [six w (UU : Int)]; lia)⟩
theorem nr_sign {d : UInt64} {p w : Int} (hw : 0 < w) (hw2 : w ≤ 1024) (h : Nr d p (6 * w) 2) : (1 ≤ p → 0 < val d) ∧ (p ≤ -1 → val d < 0) := by
  refine oAA h fun _ l1 l2 => ?_; (try clear h)
  have e0 := EE0
  have hU := UE 1
  rw [Int.one_mul, Int.one_mul] at hU
  have e1 : (w : Int) * EE ≤ 1024 * EE := Int.mul_le_mul_of_nonneg_right hw2 (Int.le_of_lt EE0)
  rw [show (2 : Int) * (6 * w * EE) = 12 * (w * EE) by rw [Int.mul_assoc, ← Int.mul_assoc]; rfl] at l1 l2
  have h6 : (0 : Int) < 6 * w := by clear l1 l2 hU e1 e0; lia
  constructor
  · intro q
    have q1 := Int.mul_le_mul_of_nonneg_right q (Int.le_of_lt UU0)
    rw [Int.one_mul] at q1
    exact bnd h6 (by rw [Int.zero_mul]; lia)
  · intro q
    have q1 := Int.mul_le_mul_of_nonneg_right q (Int.le_of_lt UU0)
    rw [Int.neg_one_mul] at q1
    exact bnd h6 (by rw [Int.zero_mul]; lia)
theorem hue1_near {s : Nat} (hs : s ≤ 5) {x w : Nat} (hw : 0 < w) (hw2 : w ≤ 1024) (hx : x ≤ w) (h5 : s = 5 → x < w) : Nr (hue1 s (ofFrac false x w)) (wayP s x w) (6 * w) 3 := by
  have hw' : (0 : Int) < w := Int.natCast_pos.mpr hw
  have hx0 : (0 : Int) ≤ x := Int.natCast_nonneg _
  have hx1 : (x : Int) ≤ w := Int.ofNat_le.mpr hx
  have h60 : (0 : Int) ≤ 6 * w := Int.mul_nonneg (by decide) (Int.le_of_lt hw')
  refine oA (hH_rng hs hx0 hx1) fun r0 r1 => ?_
  have hd := nr_div6 hw' (hue0_near hs hw' hx0 hx1 (frac_near hw (n := x) (by lia))) r0 r1
  have hb := nr_unit hw' hd r0 r1
  have hm := mod1 hd.1 hb
  refine oA (nr_sign hw' (Int.ofNat_le.mpr hw2) hd) fun sp sn => ?_
  show Nr (divmod (div (hue0 s (ofFrac false x w)) c6) one).2 (wayP s x w) (6 * w) 3
  by_cases h5' : s = 5
  · have hxw := h5 h5'
    subst h5'
    have e5 : hH 5 (x : Int) w = x - w := rfl
    have hv := sn (by rw [e5]; lia)
    rw [hm, if_neg (Int.ne_of_lt hv), if_pos hv]
    have v1 : val one = 1 * (UU : Int) := one_val.trans (Int.one_mul _).symm
    exact (nr_addc' (w := 6 * w) one_X.fn v1 (by lia) hd (by have := UU0; lia)).as (by show 1 * (6 * (w : Int)) + (x - w) = 5 * w + x; lia)
  · refine oA (hH_pos hs hw' hx0 hx1 h5') fun ew q => ?_
    rcases q with q | ⟨rfl, q⟩
    · have hv := sp q
      rw [hm, if_neg (Int.ne_of_gt hv), if_neg (Int.not_lt.mpr (Int.le_of_lt hv)), ew]
      exact hd.weak h60 (by decide)
    · have q : x = w := Int.ofNat_inj.mp q
      subst q
      have e1 : ofFrac false x x = ofFrac false 1 1 := ofFrac_same hw (by decide) (by rw [Nat.mul_one, Nat.one_mul])
      have e2 : (divmod (div (hue0 0 (ofFrac false 1 1)) c6) one).2 = pack false 0 := by decide +kernel
      rw [e1, e2]
      exact (Nr.zero (6 * x) h60).as (by show 0 = (x : Int) - x; rw [Int.sub_self])
end
-- part FL5
section
set_option maxRecDepth 100000
open PySem PySem.Float64
noncomputable def feq (p q : UInt64) : Bool := Float64.cmp p q == some Ordering.eq
noncomputable def flt (p q : UInt64) : Bool := Float64.cmp p q == some Ordering.lt
theorem cmp_val {x y : UInt64} (fx : Fn x) (fy : Fn y) : feq x y = decide (val x = val y) ∧ flt x y = decide (val x < val y) := by
  refine oEEE fx.dec fun a m e hd => ?_
  refine oEEE fy.dec fun b k f hd' => ?_
  unfold feq flt
  rw [cmp_right hd hd']
  rcases Int.lt_trichotomy (val x) (val y) with q | q | q
  · rw [Int.compare_eq_lt.mpr q]; simp; lia
  · rw [q]; simp
  · rw [Int.compare_eq_gt.mpr q]; simp; lia
theorem nr_lt {x y : UInt64} {p d q d' : Int} (hx : Nr x p d 3) (hy : Nr y q d' 3) (h0 : 0 < d) (h1 : d ≤ 1536) (h0' : 0 < d') (h1' : d' ≤ 1536) (h : p * d' < q * d) : val x < val y := by
  refine oAA hx fun _ a1 a2 => ?_; (try clear hx)
  refine oAA hy fun _ b1 b2 => ?_; (try clear hy)
  have hE : (0 : Int) < EE := by have := EE_pos; lia
  have hU0 : (UU : Int) = 2 ^ 50 * EE := by rw [UU_eq]; simp
  have hdd : 0 < d * d' := Int.mul_pos h0 h0'
  have e1 : val x * d * d' = val x * (d * d') := Int.mul_assoc _ _ _
  have e2 : val y * d' * d = val y * (d * d') := by rw [Int.mul_assoc, Int.mul_comm d' d]
  -- x side: val x * d * d' ≤ p * U * d' + 3 d E d'
  have m1 := Int.mul_le_mul_of_nonneg_right a2 (Int.le_of_lt h0')
  have m2 := Int.mul_le_mul_of_nonneg_right b1 (Int.le_of_lt h0)
  rw [Int.sub_mul, e1] at m1
  rw [Int.sub_mul, e2] at m2
  have e3 : 3 * (d * (EE : Int)) * d' = 3 * (d * d' * EE) := by rw [Int.mul_assoc, Int.mul_right_comm]
  have e4 : -(3 * (d' * (EE : Int))) * d = -(3 * (d * d' * EE)) := by rw [Int.neg_mul, Int.mul_assoc, Int.mul_right_comm, Int.mul_comm d' d]
  have e5 : p * (UU : Int) * d' = p * d' * UU := Int.mul_right_comm _ _ _
  have e6 : q * (UU : Int) * d = q * d * UU := Int.mul_right_comm _ _ _
  rw [e3, e5] at m1
  rw [e4, e6] at m2
  have h2 : p * d' * UU + UU ≤ q * d * UU := by
    have : (p * d' + 1) * (UU : Int) ≤ q * d * UU := Int.mul_le_mul_of_nonneg_right (by lia) (by lia)
    rw [Int.add_mul] at this
    lia
  have h3 : d * d' ≤ 1536 * 1536 := by
    have := Int.mul_le_mul h1 h1' (Int.le_of_lt h0') (by decide)
    exact this
  have h4 : d * d' * (EE : Int) ≤ 1536 * 1536 * EE := Int.mul_le_mul_of_nonneg_right h3 (by lia)
  exact bnd hdd (by lia)
theorem nr_cmp {x y : UInt64} {p d q d' : Int} (hx : Nr x p d 3) (hy : Nr y q d' 3) (h0 : 0 < d) (h1 : d ≤ 1536) (h0' : 0 < d') (h1' : d' ≤ 1536) (hs : p * d' = q * d → x = y) :
    feq x y = decide (p * d' = q * d) ∧ flt x y = decide (p * d' < q * d) := by
  refine oA (cmp_val hx.1 hy.1) fun c1 c2 => ?_
  rw [c1, c2]
  rcases Int.lt_trichotomy (p * d') (q * d) with h | h | h
  · have := nr_lt hx hy h0 h1 h0' h1' h
    constructor
    · rw [decide_eq_decide]; lia
    · rw [decide_eq_decide]; lia
  · rw [hs h, h]; simp
  · have := nr_lt hy hx h0' h1' h0 h1 h
    constructor
    · rw [decide_eq_decide]; lia
    · rw [decide_eq_decide]; lia
/-! the three parts of a row -/
noncomputable abbrev mx3 (r g b : Nat) : Nat := max r (max g b)
noncomputable abbrev mn3 (r g b : Nat) : Nat := min r (min g b)
noncomputable abbrev wd3 (r g b : Nat) : Nat := mx3 r g b - mn3 r g b
noncomputable abbrev bo3 (r g b : Nat) : Nat := mx3 r g b + mn3 r g b
noncomputable def sect (r g b : Nat) : Nat × Nat :=
  if r = mx3 r g b then (if b = mn3 r g b then (0, mx3 r g b - g) else (5, mx3 r g b - b))
  else if g = mx3 r g b then (if b = mn3 r g b then (1, mx3 r g b - r) else (2, mx3 r g b - b))
  else (if r = mn3 r g b then (3, mx3 r g b - g) else (4, mx3 r g b - r))
noncomputable def hueOf (r g b : Nat) : UInt64 := if wd3 r g b = 0 then pack false 0 else hue1 (sect r g b).1 (ofFrac false (sect r g b).2 (wd3 r g b))
noncomputable def satOf (top r g b : Nat) : UInt64 := if wd3 r g b = 0 then pack false 0 else ofFrac false (wd3 r g b) (min (bo3 r g b) (2 * top - bo3 r g b))
noncomputable def ligOf (top r g b : Nat) : UInt64 := ofFrac false (bo3 r g b) (2 * top)
noncomputable def toldH (r g b : Nat) : Int × Int := if wd3 r g b = 0 then (0, 6) else (wayP (sect r g b).1 (sect r g b).2 (wd3 r g b), 6 * wd3 r g b)
noncomputable def toldS (top r g b : Nat) : Int × Int := if wd3 r g b = 0 then (0, 1) else (wd3 r g b, min (bo3 r g b : Int) (2 * top - bo3 r g b))
noncomputable def toldL (top r g b : Nat) : Int × Int := (bo3 r g b, 2 * top)
theorem mm3 (r g b : Nat) : r ≤ mx3 r g b ∧ g ≤ mx3 r g b ∧ b ≤ mx3 r g b ∧ mn3 r g b ≤ r ∧ mn3 r g b ≤ g ∧ mn3 r g b ≤ b :=
  ⟨Nat.le_max_left _ _, Nat.le_trans (Nat.le_max_left g b) (Nat.le_max_right _ _), Nat.le_trans (Nat.le_max_right g b) (Nat.le_max_right _ _),
    Nat.min_le_left _ _, Nat.le_trans (Nat.min_le_right _ _) (Nat.min_le_left g b), Nat.le_trans (Nat.min_le_right _ _) (Nat.min_le_right g b)⟩
theorem mx3_or (r g b : Nat) : mx3 r g b = r ∨ mx3 r g b = g ∨ mx3 r g b = b := by
  unfold mx3
  rcases Nat.le_total r (max g b) with h | h
  · rw [Nat.max_eq_right h]
    rcases Nat.le_total g b with q | q
    · exact .inr (.inr (Nat.max_eq_right q))
    · exact .inr (.inl (Nat.max_eq_left q))
  · exact .inl (Nat.max_eq_left h)
theorem mn3_or (r g b : Nat) : mn3 r g b = r ∨ mn3 r g b = g ∨ mn3 r g b = b := by
  unfold mn3
  rcases Nat.le_total r (min g b) with h | h
  · exact .inl (Nat.min_eq_left h)
  · rw [Nat.min_eq_right h]
    rcases Nat.le_total g b with q | q
    · exact .inr (.inl (Nat.min_eq_left q))
    · exact .inr (.inr (Nat.min_eq_right q))
theorem sub_lt_sub {M m y : Nat} (h1 : y ≤ M) (h2 : m ≤ y) (h : ¬ y = m) : M - y < M - m := by lia
theorem sect_spec (r g b : Nat) (hw : wd3 r g b ≠ 0) : (sect r g b).1 ≤ 5 ∧ (sect r g b).2 ≤ wd3 r g b ∧ ((sect r g b).1 = 1 → 0 < (sect r g b).2) ∧ ((sect r g b).1 = 2 → (sect r g b).2 < wd3 r g b) ∧
    ((sect r g b).1 = 3 → 0 < (sect r g b).2) ∧ ((sect r g b).1 = 4 → 0 < (sect r g b).2 ∧ (sect r g b).2 < wd3 r g b) ∧ ((sect r g b).1 = 5 → (sect r g b).2 < wd3 r g b) := by
  refine oAAAAA (mm3 r g b) fun r1 g1 b1 r0 g0 b0 => ?_
  clear hw
  unfold sect wd3
  generalize mx3 r g b = M at *
  generalize mn3 r g b = m at *
  have pos : ∀ {y : Nat}, y ≤ M → ¬ y = M → 0 < M - y := fun h1 h2 => Nat.sub_pos_of_lt (Nat.lt_of_le_of_ne h1 h2)
  split
  · split
    · dsimp only
      exact ⟨by decide, Nat.sub_le_sub_left g0 M, fun h => absurd h (by decide), fun h => absurd h (by decide), fun h => absurd h (by decide), fun h => absurd h (by decide), fun h => absurd h (by decide)⟩
    · rename_i q1 q2
      dsimp only
      exact ⟨by decide, Nat.sub_le_sub_left b0 M, fun h => absurd h (by decide), fun h => absurd h (by decide), fun h => absurd h (by decide), fun h => absurd h (by decide), fun _ => sub_lt_sub b1 b0 q2⟩
  · split
    · split
      · rename_i q1 q2 q3
        dsimp only
        exact ⟨by decide, Nat.sub_le_sub_left r0 M, fun _ => pos r1 q1, fun h => absurd h (by decide), fun h => absurd h (by decide), fun h => absurd h (by decide), fun h => absurd h (by decide)⟩
      · rename_i q1 q2 q3
        dsimp only
        exact ⟨by decide, Nat.sub_le_sub_left b0 M, fun h => absurd h (by decide), fun _ => sub_lt_sub b1 b0 q3, fun h => absurd h (by decide), fun h => absurd h (by decide), fun h => absurd h (by decide)⟩
    · split
      · rename_i q1 q2 q3
        dsimp only
        exact ⟨by decide, Nat.sub_le_sub_left g0 M, fun h => absurd h (by decide), fun h => absurd h (by decide), fun _ => pos g1 q2, fun h => absurd h (by decide), fun h => absurd h (by decide)⟩
      · rename_i q1 q2 q3
        dsimp only
        exact ⟨by decide, Nat.sub_le_sub_left r0 M, fun h => absurd h (by decide), fun h => absurd h (by decide), fun h => absurd h (by decide), fun _ => ⟨pos r1 q1, sub_lt_sub r1 r0 q3⟩, fun h => absurd h (by decide)⟩
theorem hue_nr {r g b : Nat} (h : wd3 r g b ≤ 256) : Nr (hueOf r g b) (toldH r g b).1 (toldH r g b).2 3 ∧ 0 < (toldH r g b).2 ∧ (toldH r g b).2 ≤ 1536 := by
  unfold hueOf toldH
  split
  · exact ⟨Nr.zero 6 (by decide), by decide, by decide⟩
  · rename_i hw
    refine oAAAAAA (sect_spec r g b hw) fun s1 s2 _ _ _ _ s5 => ?_
    refine ⟨hue1_near s1 (by lia) (by lia) s2 s5, ?_, ?_⟩
    · show (0 : Int) < 6 * (wd3 r g b : Nat); lia
    · show (6 * (wd3 r g b : Nat) : Int) ≤ 1536; lia
noncomputable def WayAt (s : Nat) (W A : Int) : Prop := s * W ≤ A ∧ A ≤ s * W + W ∧ (1 ≤ s → s ≤ 4 → s * W < A) ∧ (4 ≤ s → A < s * W + W)
theorem way_at {s : Nat} {X W : Int} (h : s ≤ 5) (x0 : 0 ≤ X) (x1 : X ≤ W) (hW : 0 < W) (a1 : s = 1 → 0 < X) (a2 : s = 2 → X < W) (a3 : s = 3 → 0 < X) (a4 : s = 4 → 0 < X ∧ X < W) (a5 : s = 5 → X < W) : WayAt s W (wayP s X W) := by
  unfold WayAt
  match s, h with
  | 0, _ => clear a1 a2 a3 a4 a5; exact ⟨by show ((0 : Nat) : Int) * W ≤ W - X; lia, by show W - X ≤ ((0 : Nat) : Int) * W + W; lia, fun h => absurd h (by decide), fun h => absurd h (by decide)⟩
  | 1, _ => have q := a1 rfl; clear a1 a2 a3 a4 a5; exact ⟨by show ((1 : Nat) : Int) * W ≤ W + X; lia, by show W + X ≤ ((1 : Nat) : Int) * W + W; lia, fun _ _ => by show ((1 : Nat) : Int) * W < W + X; lia, fun h => absurd h (by decide)⟩
  | 2, _ => have q := a2 rfl; clear a1 a2 a3 a4 a5; exact ⟨by show ((2 : Nat) : Int) * W ≤ 3 * W - X; lia, by show 3 * W - X ≤ ((2 : Nat) : Int) * W + W; lia, fun _ _ => by show ((2 : Nat) : Int) * W < 3 * W - X; lia, fun h => absurd h (by decide)⟩
  | 3, _ => have q := a3 rfl; clear a1 a2 a3 a4 a5; exact ⟨by show ((3 : Nat) : Int) * W ≤ 3 * W + X; lia, by show 3 * W + X ≤ ((3 : Nat) : Int) * W + W; lia, fun _ _ => by show ((3 : Nat) : Int) * W < 3 * W + X; lia, fun h => absurd h (by decide)⟩
  | 4, _ => have q := (a4 rfl).1; have q' := (a4 rfl).2; clear a1 a2 a3 a4 a5; exact ⟨by show ((4 : Nat) : Int) * W ≤ 5 * W - X; lia, by show 5 * W - X ≤ ((4 : Nat) : Int) * W + W; lia, fun _ _ => by show ((4 : Nat) : Int) * W < 5 * W - X; lia, fun _ => by show 5 * W - X < ((4 : Nat) : Int) * W + W; lia⟩
  | 5, _ => have q := a5 rfl; clear a1 a2 a3 a4 a5; exact ⟨by show ((5 : Nat) : Int) * W ≤ 5 * W + X; lia, by show 5 * W + X ≤ ((5 : Nat) : Int) * W + W; lia, fun _ h => absurd h (by decide), fun _ => by show 5 * W + X < ((5 : Nat) : Int) * W + W; lia⟩
theorem way_lt {s s' : Nat} {W A A' : Int} (hW : 0 < W) (h' : s' ≤ 5) (p : WayAt s W A) (p' : WayAt s' W A') (q : s < s') : A < A' := by
  refine oAAA p fun _ u1 _ u2 => ?_; (try clear p)
  refine oAAA p' fun l1 _ l2 _ => ?_; (try clear p')
  have m : ∀ k : Nat, s + k ≤ s' → (s : Int) * W + k * W ≤ s' * W := fun k hk => by
    rw [← Int.add_mul]
    exact Int.mul_le_mul_of_nonneg_right (by exact_mod_cast hk) (Int.le_of_lt hW)
  have m1 := m 1 q
  rw [Int.natCast_one, Int.one_mul] at m1
  by_cases c : s' ≤ 4
  · exact Int.lt_of_le_of_lt (Int.le_trans u1 m1) (l2 (Nat.le_trans (Nat.succ_le_succ (Nat.zero_le s)) q) c)
  · by_cases d : 4 ≤ s
    · exact Int.lt_of_lt_of_le (u2 d) (Int.le_trans m1 l1)
    · have m2 := m 2 (by lia)
      have e2 : ((2 : Nat) : Int) * W = 2 * W := rfl
      rw [e2] at m2
      clear m l2 u2
      omega
theorem wayP_mul (s : Nat) (x w v : Int) : wayP s x w * v = wayP s (x * v) (w * v) := by
  unfold wayP
  split <;> simp only [Int.add_mul, Int.sub_mul, Int.mul_assoc]
theorem wayP_cancel {s : Nat} (h : s ≤ 5) {X X' W : Int} (e : wayP s X W = wayP s X' W) : X = X' := by
  match s, h with
  | 0, _ => exact Int.neg_inj.mp (Int.add_left_cancel (show W + -X = W + -X' from e))
  | 1, _ => exact Int.add_left_cancel (show W + X = W + X' from e)
  | 2, _ => exact Int.neg_inj.mp (Int.add_left_cancel (show 3 * W + -X = 3 * W + -X' from e))
  | 3, _ => exact Int.add_left_cancel (show 3 * W + X = 3 * W + X' from e)
  | 4, _ => exact Int.neg_inj.mp (Int.add_left_cancel (show 5 * W + -X = 5 * W + -X' from e))
  | 5, _ => exact Int.add_left_cancel (show 5 * W + X = 5 * W + X' from e)
theorem wayP_range {s : Nat} {x w : Int} (h : s ≤ 5) (x0 : 0 ≤ x) (x1 : x ≤ w) : 0 ≤ wayP s x w ∧ wayP s x w ≤ 6 * w := by
  match s, h with
  | 0, _ => exact ⟨by show 0 ≤ w - x; lia, by show w - x ≤ 6 * w; lia⟩
  | 1, _ => exact ⟨by show 0 ≤ w + x; lia, by show w + x ≤ 6 * w; lia⟩
  | 2, _ => exact ⟨by show 0 ≤ 3 * w - x; lia, by show 3 * w - x ≤ 6 * w; lia⟩
  | 3, _ => exact ⟨by show 0 ≤ 3 * w + x; lia, by show 3 * w + x ≤ 6 * w; lia⟩
  | 4, _ => exact ⟨by show 0 ≤ 5 * w - x; lia, by show 5 * w - x ≤ 6 * w; lia⟩
  | 5, _ => exact ⟨by show 0 ≤ 5 * w + x; lia, by show 5 * w + x ≤ 6 * w; lia⟩
theorem way_inj {s s' : Nat} {x w x' w' : Int} (hw : 0 < w) (hw' : 0 < w') (h : s ≤ 5) (h' : s' ≤ 5) (x0 : 0 ≤ x) (x1 : x ≤ w) (x0' : 0 ≤ x') (x1' : x' ≤ w')
    (a1 : s = 1 → 0 < x) (a2 : s = 2 → x < w) (a3 : s = 3 → 0 < x) (a4 : s = 4 → 0 < x ∧ x < w) (a5 : s = 5 → x < w)
    (b1 : s' = 1 → 0 < x') (b2 : s' = 2 → x' < w') (b3 : s' = 3 → 0 < x') (b4 : s' = 4 → 0 < x' ∧ x' < w') (b5 : s' = 5 → x' < w')
    (e : wayP s x w * w' = wayP s' x' w' * w) : s = s' ∧ x * w' = x' * w := by
  have hP : 0 < w * w' := Int.mul_pos hw hw'
  have c : w' * w = w * w' := Int.mul_comm _ _
  have y2 : 0 < x → 0 < x * w' := fun q => Int.mul_pos q hw'
  have y3 : x < w → x * w' < w * w' := fun q => Int.mul_lt_mul_of_pos_right q hw'
  have z2 : 0 < x' → 0 < x' * w := fun q => Int.mul_pos q hw
  have z3 : x' < w' → x' * w < w * w' := fun q => by rw [← c]; exact Int.mul_lt_mul_of_pos_right q hw
  rw [wayP_mul, wayP_mul, c] at e
  have p : WayAt s (w * w') _ := way_at h (Int.mul_nonneg x0 (Int.le_of_lt hw')) (Int.mul_le_mul_of_nonneg_right x1 (Int.le_of_lt hw')) hP (fun q => y2 (a1 q)) (fun q => y3 (a2 q)) (fun q => y2 (a3 q)) (fun q => ⟨y2 (a4 q).1, y3 (a4 q).2⟩) (fun q => y3 (a5 q))
  have p' : WayAt s' (w * w') _ := way_at h' (Int.mul_nonneg x0' (Int.le_of_lt hw)) (by rw [← c]; exact Int.mul_le_mul_of_nonneg_right x1' (Int.le_of_lt hw)) hP (fun q => z2 (b1 q)) (fun q => z3 (b2 q)) (fun q => z2 (b3 q)) (fun q => ⟨z2 (b4 q).1, z3 (b4 q).2⟩) (fun q => z3 (b5 q))
  rcases Nat.lt_trichotomy s s' with q | q | q
  · exact absurd e (Int.ne_of_lt (way_lt hP h' p p' q))
  · subst q
    exact ⟨rfl, wayP_cancel h e⟩
  · exact absurd e.symm (Int.ne_of_lt (way_lt hP h p' p q))
theorem hue_same {r g b r' g' b' : Nat} (h : (toldH r g b).1 * (toldH r' g' b').2 = (toldH r' g' b').1 * (toldH r g b).2) : hueOf r g b = hueOf r' g' b' := by
  have zero_way : ∀ {r g b : Nat}, wd3 r g b ≠ 0 → wayP (sect r g b).1 (sect r g b).2 (wd3 r g b) = 0 → hue1 (sect r g b).1 (ofFrac false (sect r g b).2 (wd3 r g b)) = pack false 0 := by
    intro r g b hw e
    refine oAAAAAA (sect_spec r g b hw) fun s1 s2 t1 t2 t3 t4 t5 => ?_
    generalize sect r g b = p at *
    obtain ⟨s, x⟩ := p
    simp only at *
    have hs : s = 0 ∧ x = wd3 r g b := by
      have hW : (0 : Int) < (wd3 r g b : Nat) := Int.natCast_pos.mpr (Nat.pos_of_ne_zero hw)
      have q := (way_at (X := x) (W := (wd3 r g b : Nat)) s1 (Int.natCast_nonneg _) (Int.ofNat_le.mpr s2) hW (fun q => Int.natCast_pos.mpr (t1 q)) (fun q => Int.ofNat_lt.mpr (t2 q)) (fun q => Int.natCast_pos.mpr (t3 q)) (fun q => ⟨Int.natCast_pos.mpr (t4 q).1, Int.ofNat_lt.mpr (t4 q).2⟩) (fun q => Int.ofNat_lt.mpr (t5 q))).1
      rw [e] at q
      have s0 : s = 0 := by
        rcases Nat.eq_zero_or_pos s with z | z
        · exact z
        · exact absurd q (Int.not_le.mpr (Int.mul_pos (Int.natCast_pos.mpr z) hW))
      subst s0
      have e' : ((wd3 r g b : Nat) : Int) - (x : Nat) = 0 := e
      exact ⟨rfl, (Int.ofNat_inj.mp (Int.eq_of_sub_eq_zero e')).symm⟩
    refine oA hs fun q15671z0 q15671z1 => ?_; (try clear hs); obtain rfl := q15671z0; obtain rfl := q15671z1
    rw [ofFrac_same (n' := 1) (d' := 1) (by lia) (by decide) (by lia)]
    decide +kernel
  unfold toldH at h
  unfold hueOf
  by_cases hw : wd3 r g b = 0
  · by_cases hw' : wd3 r' g' b' = 0
    · rw [if_pos hw, if_pos hw']
    · rw [if_pos hw, if_neg hw'] at h
      rw [if_pos hw, if_neg hw']
      simp only at h
      rw [zero_way hw' (by lia)]
  · by_cases hw' : wd3 r' g' b' = 0
    · rw [if_neg hw, if_pos hw'] at h
      rw [if_neg hw, if_pos hw']
      simp only at h
      rw [zero_way hw (by lia)]
    · rw [if_neg hw, if_neg hw'] at h
      rw [if_neg hw, if_neg hw']
      simp only at h
      refine oAAAAAA (sect_spec r g b hw) fun s1 s2 t1 t2 t3 t4 t5 => ?_
      refine oAAAAAA (sect_spec r' g' b' hw') fun s1' s2' t1' t2' t3' t4' t5' => ?_
      generalize sect r g b = p at *
      obtain ⟨s, x⟩ := p
      generalize sect r' g' b' = p' at *
      obtain ⟨s', x'⟩ := p'
      generalize wd3 r g b = w at *
      generalize wd3 r' g' b' = w' at *
      simp only at *
      rw [Int.mul_left_comm, Int.mul_left_comm (wayP s' x' w')] at h
      have hw0 : (0 : Int) < (w : Nat) := Int.natCast_pos.mpr (Nat.pos_of_ne_zero hw)
      have hw0' : (0 : Int) < (w' : Nat) := Int.natCast_pos.mpr (Nat.pos_of_ne_zero hw')
      refine oA (way_inj (s := s) (s' := s') (x := x) (w := w) (x' := x') (w' := w') hw0 hw0' s1 s1' (Int.natCast_nonneg _) (Int.ofNat_le.mpr s2) (Int.natCast_nonneg _) (Int.ofNat_le.mpr s2')
        (fun q => Int.natCast_pos.mpr (t1 q)) (fun q => Int.ofNat_lt.mpr (t2 q)) (fun q => Int.natCast_pos.mpr (t3 q)) (fun q => ⟨Int.natCast_pos.mpr (t4 q).1, Int.ofNat_lt.mpr (t4 q).2⟩) (fun q => Int.ofNat_lt.mpr (t5 q))
        (fun q => Int.natCast_pos.mpr (t1' q)) (fun q => Int.ofNat_lt.mpr (t2' q)) (fun q => Int.natCast_pos.mpr (t3' q)) (fun q => ⟨Int.natCast_pos.mpr (t4' q).1, Int.ofNat_lt.mpr (t4' q).2⟩) (fun q => Int.ofNat_lt.mpr (t5' q)) (Int.eq_of_mul_eq_mul_left (a := 6) (by decide) h)) fun q16939z0 e => ?_; obtain rfl := q16939z0
      rw [ofFrac_same (n := x) (d := w) (n' := x') (d' := w') (Nat.pos_of_ne_zero hw) (Nat.pos_of_ne_zero hw') (by exact_mod_cast e)]
theorem min_cast (a b top : Nat) (h : b ≤ 2 * top) : (min (b : Int) (2 * top - b)) = ((min b (2 * top - b) : Nat) : Int) := by lia
theorem sat_den {top r g b : Nat} (hr : r ≤ top) (hg : g ≤ top) (hb : b ≤ top) (hw : wd3 r g b ≠ 0) : wd3 r g b ≤ min (bo3 r g b) (2 * top - bo3 r g b) ∧ bo3 r g b ≤ 2 * top := by
  refine oAAAAA (mm3 r g b) fun r1 g1 b1 r0 g0 b0 => ?_
  have hM : mx3 r g b ≤ top := by rcases mx3_or r g b with q | q | q <;> rw [q] <;> assumption
  have hmM : mn3 r g b ≤ mx3 r g b := Nat.le_trans r0 r1
  clear r1 g1 b1 r0 g0 b0 hr hg hb hw
  unfold wd3 bo3
  generalize mx3 r g b = M at *
  generalize mn3 r g b = m at *
  lia
theorem sat_nr {top r g b : Nat} (ht : top ≤ 256) (hr : r ≤ top) (hg : g ≤ top) (hb : b ≤ top) : Nr (satOf top r g b) (toldS top r g b).1 (toldS top r g b).2 3 ∧ 0 < (toldS top r g b).2 ∧ (toldS top r g b).2 ≤ 1536 := by
  unfold satOf toldS
  split
  · exact ⟨Nr.zero 1 (by decide), by decide, by decide⟩
  · rename_i hw
    refine oA (sat_den hr hg hb hw) fun h1 h2 => ?_
    have e := min_cast 0 (bo3 r g b) top h2
    simp only
    rw [e]
    have hd : min (bo3 r g b) (2 * top - bo3 r g b) ≤ 512 := by omega
    generalize min (bo3 r g b) (2 * top - bo3 r g b) = d at *
    exact ⟨(frac_near (by lia) (by lia)).weak (by lia) (by decide), by lia, by lia⟩
theorem lig_nr {top r g b : Nat} (ht0 : 0 < top) (ht : top ≤ 256) (hr : r ≤ top) (hg : g ≤ top) (hb : b ≤ top) : Nr (ligOf top r g b) (toldL top r g b).1 (toldL top r g b).2 3 ∧ 0 < (toldL top r g b).2 ∧ (toldL top r g b).2 ≤ 1536 := by
  unfold ligOf toldL
  have h : bo3 r g b ≤ 2 * top := by unfold bo3 mx3 mn3; lia
  have := (frac_near (n := bo3 r g b) (d := 2 * top) (by lia) (by lia)).weak (c' := 3) (by lia) (by decide)
  refine ⟨by simpa using this, ?_, ?_⟩
  · simp only; lia
  · simp only; lia
theorem sat_same {top r g b r' g' b' : Nat} (hr : r ≤ top) (hg : g ≤ top) (hb : b ≤ top) (hr' : r' ≤ top) (hg' : g' ≤ top) (hb' : b' ≤ top)
    (h : (toldS top r g b).1 * (toldS top r' g' b').2 = (toldS top r' g' b').1 * (toldS top r g b).2) : satOf top r g b = satOf top r' g' b' := by
  unfold toldS at h
  unfold satOf
  by_cases hw : wd3 r g b = 0
  · by_cases hw' : wd3 r' g' b' = 0
    · rw [if_pos hw, if_pos hw']
    · rw [if_pos hw, if_neg hw'] at h
      simp only at h
      lia
  · by_cases hw' : wd3 r' g' b' = 0
    · rw [if_neg hw, if_pos hw'] at h
      simp only at h
      lia
    · rw [if_neg hw, if_neg hw'] at h ⊢
      refine oA (sat_den hr hg hb hw) fun h1 h2 => ?_
      refine oA (sat_den hr' hg' hb' hw') fun h1' h2' => ?_
      simp only at h
      rw [min_cast 0 (bo3 r g b) top h2, min_cast 0 (bo3 r' g' b') top h2'] at h
      exact ofFrac_same (by lia) (by lia) (by exact_mod_cast h)
theorem lig_same {top r g b r' g' b' : Nat} (ht0 : 0 < top) (h : (toldL top r g b).1 * (toldL top r' g' b').2 = (toldL top r' g' b').1 * (toldL top r g b).2) : ligOf top r g b = ligOf top r' g' b' := by
  unfold toldL at h
  unfold ligOf
  simp only at h
  exact ofFrac_same (by lia) (by lia) (by exact_mod_cast h)
end
-- part FL6
section
set_option maxRecDepth 100000
open PySem PySem.Float64
theorem abs_near {x : UInt64} (h : Fn x) : ∃ t, Float64.abs x = pack false t ∧ t < infMag ∧ (V t : Int) = ((val x).natAbs : Int) := by
  refine oEEA h fun neg t q265z2 ht => ?_; (try clear h); obtain rfl := q265z2
  refine oEEA (decode_pack neg ht) fun m e hd hm => ?_
  have ht63 : t < 2 ^ 63 := Nat.lt_trans ht (by decide)
  have hn : isNaN (pack neg t) = false := by unfold isNaN; rw [hd]
  have e1 : Float64.abs (pack neg t) = pack false ((pack neg t).toNat % 2 ^ 63) := by unfold Float64.abs; rw [hn]; rfl
  have e2 : (pack neg t).toNat % 2 ^ 63 = t := by
    have : (pack neg t).toNat = (if neg then 2 ^ 63 else 0) + t := by
      unfold pack
      cases neg
      · simp [UInt64.toNat_ofNat']; lia
      · simp [UInt64.toNat_ofNat']; lia
    rw [this]
    cases neg
    · simp; exact ht63
    · rw [if_pos rfl, Nat.add_mod_left]; exact Nat.mod_eq_of_lt ht63
  rw [e1, e2]
  refine ⟨t, rfl, ht, ?_⟩
  rw [val_pack neg ht]
  rcases sgn_val neg (V t) with ⟨q, _⟩ | ⟨q, _⟩ <;> rw [q] <;> lia
theorem two40_dec : decode (ofInt (2 ^ 40)) = .fin false (2 ^ 52) (-12) := by rw [show ofInt (2 ^ 40) = (0x4270000000000000 : UInt64) by decide +kernel]; with_unfolding_all rfl
theorem two40_val : val (ofInt (2 ^ 40)) = ((2 ^ 40 * UU : Nat) : Int) := by
  rw [val_eq two40_dec]
  have e : 2 ^ 52 * 2 ^ ((-12 : Int) + 1074).toNat = 2 ^ 40 * UU := by
    unfold UU
    rw [show ((-12 : Int) + 1074).toNat = 1062 from rfl, ← Nat.pow_add, ← Nat.pow_add]
  rw [e]; rfl
theorem cmpInt_one {t : Nat} (ht : t < infMag) (h : V t < UU) : (cmpInt (pack false t) 1 == some Ordering.lt) = true := by
  refine oEEA (decode_pack false ht) fun m e hd hm => ?_
  have he := decode_ge hd
  unfold cmpInt
  rw [hd]
  dsimp only
  have hs : sgn false m = (m : Int) := by simp [sgn]
  rw [hs]
  have hlt : ∀ a b : Int, a < b → (some (compare a b) == some Ordering.lt) = true := fun a b q => by
    rw [Int.compare_eq_lt.mpr q]; rfl
  by_cases h0 : e ≥ 0
  · rw [if_pos h0]
    have hm0 : m = 0 := by
      rcases Nat.eq_zero_or_pos m with q | q
      · exact q
      · exfalso
        have e1 : (e + 1074).toNat = e.toNat + 1074 := by lia
        rw [e1, Nat.pow_add] at hm
        have : 1 * (1 * 2 ^ 1074) ≤ m * (2 ^ e.toNat * 2 ^ 1074) := Nat.mul_le_mul q (Nat.mul_le_mul_right _ (Nat.one_le_two_pow))
        rw [hm, Nat.one_mul, Nat.one_mul] at this
        exact absurd h (Nat.not_lt.mpr this)
    subst hm0
    exact hlt _ _ (by simp)
  · rw [if_neg h0]
    refine hlt _ _ ?_
    have e1 : 1074 = (e + 1074).toNat + (-e).toNat := by lia
    have h2 : (2 : Nat) ^ 1074 = 2 ^ (e + 1074).toNat * 2 ^ (-e).toNat := pow_split _ _ _ e1
    unfold UU at h
    rw [← hm, h2, Nat.mul_comm m] at h
    have h3 := Nat.lt_of_mul_lt_mul_left h
    have : ((m : Nat) : Int) < ((2 ^ (-e).toNat : Nat) : Int) := Int.ofNat_lt.mpr h3
    rw [Int.one_mul]
    simpa using this
theorem near_test {x y : UInt64} {p d c : Int} (hd : 0 < d) (hx : Nr x p d 3) (hy : Nr y p d 1) (hp0 : 0 ≤ p) (hpd : p ≤ d) :
    (cmpInt (Float64.mul (Float64.abs (Float64.sub x y)) (ofInt (2 ^ 40))) 1 == some Ordering.lt) = true := by
  refine oAA hx fun fx x1 x2 => ?_; (try clear hx)
  refine oAA hy fun fy y1 y2 => ?_; (try clear hy)
  have hEU : (UU : Int) = 2 ^ 50 * (EE : Int) := by rw [UU_eq]; simp
  have hE : 0 < (EE : Int) := by have := EE_pos; lia
  -- |val x - val y| * d ≤ 4 * d * EE
  have hxy1 : (val x - val y) * d ≤ 4 * EE * d := by
    have e1 : (val x - val y) * d = (val x * d - p * UU) - (val y * d - p * UU) := by rw [Int.sub_mul]; lia
    have e2 : 4 * (EE : Int) * d = 4 * (d * EE) := by rw [Int.mul_assoc, Int.mul_comm (EE : Int)]
    lia
  have hxy2 : -(4 * EE * d) ≤ (val x - val y) * d := by
    have e1 : (val x - val y) * d = (val x * d - p * UU) - (val y * d - p * UU) := by rw [Int.sub_mul]; lia
    have e2 : 4 * (EE : Int) * d = 4 * (d * EE) := by rw [Int.mul_assoc, Int.mul_comm (EE : Int)]
    lia
  have a1 : val x - val y ≤ 4 * EE := Int.le_of_mul_le_mul_right hxy1 hd
  have a2 : -(4 * EE : Int) ≤ val x - val y := by
    have : -(4 * (EE : Int)) * d ≤ (val x - val y) * d := by rw [Int.neg_mul]; exact hxy2
    exact Int.le_of_mul_le_mul_right this hd
  have hPP : (EE : Int) * 4 < ((2 ^ 17 * PP : Nat) : Int) := by
    have : UU = 2 ^ 14 * PP := UU_PP
    have h2 : ((2 ^ 17 * PP : Nat) : Int) = 8 * (UU : Int) := by rw [this]; simp; lia
    rw [h2, hEU]; lia
  refine oAA (sub_near fx fy ⟨by lia, by lia⟩) fun fs s1 s2 => ?_
  refine oEAA (abs_near fs) fun t et ht hv => ?_
  rw [et]
  refine oEEA (decode_pack false ht) fun m e hdx hm => ?_
  have hr := mul_right hdx two40_dec
  rw [two40_val, Int.natAbs_natCast, val_pack false ht] at hr
  have hsv : (sgn false (V t)).natAbs = V t := by simp [sgn]
  rw [hsv] at hr
  have hVt : V t ≤ 5 * EE := by lia
  have hr' : Right (Float64.mul (pack false t) (ofInt (2 ^ 40))) false (UU * (V t * 2 ^ 40)) UU := by
    have e : V t * (2 ^ 40 * UU) = UU * (V t * 2 ^ 40) := by ac_rfl
    rw [e] at hr
    exact hr
  have hUn : UU = 2 ^ 50 * EE := UU_eq
  have h77 : 2 ^ 1077 = 8 * UU := U77
  have hb : UU * (V t * 2 ^ 40) < UU * 2 ^ 1077 := Nat.mul_lt_mul_of_pos_left (by rw [h77, hUn]; lia) (Nat.two_pow_pos _)
  refine oEAA (right_near hr' (Nat.two_pow_pos _) hb) fun t2 e2 ht2 hd2 => ?_
  rw [e2]
  refine cmpInt_one ht2 ?_
  have hd3 : dist (V t * 2 ^ 40) (V t2) < EE := by
    have hd2' : dist (UU * (V t * 2 ^ 40)) (UU * V t2) < UU * EE := hd2
    have : dist (UU * (V t * 2 ^ 40)) (UU * V t2) = UU * dist (V t * 2 ^ 40) (V t2) := by
      unfold dist; rw [Nat.mul_add, Nat.mul_sub, Nat.mul_sub]
    rw [this] at hd2'
    exact Nat.lt_of_mul_lt_mul_left hd2'
  unfold dist at hd3
  rw [hUn]
  lia
end
-- part Base
section
open PySem PySem.W PyProof.Rows PySem.Calls
set_option maxRecDepth 100000
set_option maxHeartbeats 4000000
theorem fill (w : World) : PySem.Challenge.rw_mq0320_01.row.prog = PySem.Challenge.rw_mq0320_01.row.prog ∧ hd.heap_1 w.params = hd.heap_1 w.params := by
  k_fill
  w_top off
  exact ⟨rfl, rfl⟩
noncomputable abbrev PM := Addr → Option Obj
noncomputable def Sub (G G' : PM) : Prop := ∀ b o, G b = some o → G' b = some o
noncomputable def Keep (D : List Addr) (h h' : Heap) : Prop := ∀ b o, b ∉ D → h.get? b = some o → h'.get? b = some o
theorem Keep.refl (D : List Addr) (h : Heap) : Keep D h h := fun _ _ _ e => e
theorem Keep.trans {D : List Addr} {h h' h'' : Heap} (a : Keep D h h') (b : Keep D h' h'') : Keep D h h'' := fun x o n e => b x o n (a x o n e)
theorem Keep.mono {D D' : List Addr} {h h' : Heap} (a : Keep D h h') (s : ∀ x ∈ D, x ∈ D') : Keep D' h h' := fun x o n e => a x o (fun q => n (s x q)) e
theorem callF {w : World} {A : Around} {s : Shared} {R : Result → Shared → Prop} {name qual : Str} {params : Arguments} {body : List Stmt} {scope : Scope} {dV kV doc pm cdv ct oc : Value} {an od : Option Addr} {osl : Array (Option Value)} {f : Addr} {args : Args} {binds : List (Str × Value)}
    (D : List Addr)
    (ho : (hd.heap_1 w.params).lookup f = some ⟨oc, od, .func (fnOf name qual params body scope dV kV doc pm an cdv ct), osl⟩) (hcd : codeIn (hd.heap_1 w.params) cdv qual = true)
    (X : (hd.heap_1 w.params).In s.heap) (lim : s.heap.NoLimit) (hroom : A.depth < recursionLimit)
    (hbind : BindsTo s (fnOf name qual params body scope dV kV doc pm an cdv ct) args binds) (hloc : ∀ y ∈ binds, scope.names.lookup y.1 = some .local)
    (h : ∀ L' h₁, Fr (hideAll s.heap D) L' h₁ (fun y => binds.reverse.lookup y) → (∀ b o, s.heap.get? b = some o → h₁.get? b = some o) → L' = s.heap.objs.size →
      wpAny (model PySem.Challenge.rw_mq0320_01.row.prog w) (A.deeper (envOf qual scope L' f cdv)) (execs body (envOf qual scope L' f cdv))
        (fun fl s' => R (.ok (.ret (match fl with | .ret v => v | _ => .none))) s') (fun _ _ => False)
        { s with heap := h₁, toks := s.toks + binds.length })
    (hcell : ∀ x ∈ scope.names, x.2 ≠ .cell) (hco : scope.isCoroutine = false) (hgen : scope.isGenerator = false) (hk : scope.kind = .function) :
    codeAny (model PySem.Challenge.rw_mq0320_01.row.prog w) A (.call (.ref f) args) R s := by
  refine codeAny_call_def (fd := fnOf name qual params body scope dV kV doc pm an cdv ct) (body := body) (binds := binds) hroom (X _ _ ho) rfl lim (codeRec_of X hcd) rfl hbind hcell hloc (fun h₁ hns hk₁ => ?_) hco hgen hk
  exact wpAny_mono (h _ h₁ ⟨hns, fun b o e => hk₁ b o (of_hideAll _ e), Nat.le_of_eq (hideAll_size _ _)⟩ hk₁ rfl) (fun _ _ x => x) fun _ _ x => x.elim
theorem stays_hide {H h : Heap} {D : List Addr} (st : H.StaysIn h) (hD : ∀ d ∈ D, H.get? d = none) : H.StaysIn (hideAll h D) :=
  fun b o e => hideAll_get _ (st b o e) (fun q => by rw [hD b q] at e; cases e)
theorem keep_hide {h h' : Heap} {D : List Addr} (st : (hideAll h D).StaysIn h') : Keep D h h' := fun b o n e => st b o (hideAll_get _ e n)
theorem sub_hide {G : PM} {h : Heap} {D : List Addr} (st : Sub G h.get?) (hD : ∀ d ∈ D, G d = none) : Sub G (hideAll h D).get? :=
  fun b o e => hideAll_get _ (st b o e) (fun q => by rw [hD b q] at e; cases e)
noncomputable def known (ks : List (Str × Value)) (m : Str → Option Value) : Str → Option Value := fun y => match ks.lookup y with | some v => some v | none => m y
theorem lookup_all {ks : List (Str × Value)} {m : Str → Option Value} : (∀ p ∈ ks, m p.1 = some p.2) → ∀ y v, ks.lookup y = some v → m y = some v := by
  induction ks with
  | nil => intro _ y v e; cases e
  | cons p r ih =>
    intro h y v e
    rw [List.lookup_cons] at e
    split at e
    · rename_i q
      rw [beq_iff_eq] at q
      cases e
      rw [q]
      exact h p (.head _)
    · exact ih (fun p hp => h p (.tail _ hp)) y v e
theorem frKnown {h₀ h : Heap} {L : Addr} {m : Str → Option Value} (F : Fr h₀ L h m) (ks : List (Str × Value)) (hk : ∀ p ∈ ks, m p.1 = some p.2) : Fr h₀ L h (known ks m) := by
  have e : known ks m = m := by
    funext y
    unfold known
    split
    · rename_i v q
      exact (lookup_all hk y v q).symm
    · rfl
  rw [e]; exact F
theorem room1 {a n c : Nat} (h : a + n < c) : a < c := Nat.lt_of_le_of_lt (Nat.le_add_right a n) h
theorem room2 {a k n c : Nat} (h : a + n < c) (hk : k ≤ n) : a + k < c := Nat.lt_of_le_of_lt (Nat.add_le_add_left hk a) h
theorem room3 {a i k n c : Nat} (h : a + n < c) (hk : i + k ≤ n) : a + i + k < c := by rw [Nat.add_assoc]; exact room2 h hk
theorem room4 {a i j k n c : Nat} (h : a + n < c) (hk : i + j + k ≤ n) : a + i + j + k < c := by rw [Nat.add_assoc, Nat.add_assoc, ← Nat.add_assoc i]; exact room2 h hk
theorem frz {G : Prop} (h : ∀ P : Prop, (G → P) → P) : G := h G fun x => x
structure Box (p : Prop) : Prop where
  out : p
theorem while_my {w : World} {A : Around} {s : Shared} {Q : Flow → Shared → Prop} {E : Value → Shared → Prop} {test : Expr} {body : List Stmt} {pos : Pos} {env : Env} (J : Nat → Shared → Prop)
    (turn : ∀ n s, J n s → wpAny (model PySem.Challenge.rw_mq0320_01.row.prog w) A (isTrue test env (eval test env)) (fun b s₂ =>
        if b = true then wpAny (model PySem.Challenge.rw_mq0320_01.row.prog w) A (execs body env) (fun f s₃ => match f with
            | .next | .cont => Box (∃ m, m < n ∧ J m s₃)
            | .brk => Q .next s₃
            | .ret v => Q (.ret v) s₃) (fun _ _ => False) s₂
        else Q .next s₂) (fun _ _ => False) s)
    (n : Nat) (h : J n s) : wpAny (model PySem.Challenge.rw_mq0320_01.row.prog w) A (exec (.While test body [] pos) env) Q E s := by
  refine wpAny_While (codeAny_whileLoop J (fun n s hI => ?_) n h)
  refine wpAny_mono (turn n s hI) (fun b s₂ h₂ => ?_) fun _ _ x => x.elim
  cases b with
  | true =>
    simp only [if_true] at h₂ ⊢
    exact wpAny_mono h₂ (fun f s₃ h₃ => by cases f <;> first | exact h₃ | exact h₃.out) fun _ _ x => x.elim
  | false =>
    simp only [Bool.false_eq_true, if_false] at h₂ ⊢
    exact wpAny_execs_nil h₂
theorem while_myO {w : World} {A : Around} {s : Shared} {Q : Flow → Shared → Prop} {E : Value → Shared → Prop} {test : Expr} {body : List Stmt} {pos : Pos} {env : Env} (J : Nat → Shared → Prop)
    (turn : ∀ n s, J n s → ∀ B : Shared → Prop, (∀ m s₃, m < n → J m s₃ → B s₃) → wpAny (model PySem.Challenge.rw_mq0320_01.row.prog w) A (isTrue test env (eval test env)) (fun b s₂ =>
        if b = true then wpAny (model PySem.Challenge.rw_mq0320_01.row.prog w) A (execs body env) (fun f s₃ => match f with
            | .next | .cont => B s₃
            | .brk => Q .next s₃
            | .ret v => Q (.ret v) s₃) (fun _ _ => False) s₂
        else Q .next s₂) (fun _ _ => False) s)
    (n : Nat) (h : J n s) : wpAny (model PySem.Challenge.rw_mq0320_01.row.prog w) A (exec (.While test body [] pos) env) Q E s :=
  while_my J (fun n s hj => turn n s hj (fun s₃ => Box (∃ m, m < n ∧ J m s₃)) fun m _ hm h => ⟨m, hm, h⟩) n h
theorem while_myC {w : World} {A : Around} {s : Shared} {Q : Flow → Shared → Prop} {E : Value → Shared → Prop} {test : Expr} {body : List Stmt} {pos : Pos} {env : Env} (C : Nat → (Shared → Prop) → Prop)
    (turn : ∀ n, C n (fun s => ∀ B : Shared → Prop, (∀ m s₃, m < n → (∀ ZZ, C m ZZ → ZZ s₃) → B s₃) → wpAny (model PySem.Challenge.rw_mq0320_01.row.prog w) A (isTrue test env (eval test env)) (fun b s₂ =>
        if b = true then wpAny (model PySem.Challenge.rw_mq0320_01.row.prog w) A (execs body env) (fun f s₃ => match f with
            | .next | .cont => B s₃
            | .brk => Q .next s₃
            | .ret v => Q (.ret v) s₃) (fun _ _ => False) s₂
        else Q .next s₂) (fun _ _ => False) s))
    (n : Nat) (h : ∀ ZZ, C n ZZ → ZZ s) : wpAny (model PySem.Challenge.rw_mq0320_01.row.prog w) A (exec (.While test body [] pos) env) Q E s :=
  while_myO (fun n s => ∀ ZZ, C n ZZ → ZZ s) (fun n _ hj => hj _ (turn n)) n h
theorem set_list {w : World} {A : Around} {E : Value → Shared → Prop} {s : Shared} {h₀ : Heap} {L D : Addr} {m : Str → Option Value} {l : List Value} {n : Nat} {k : Int} {t : Tok} {v : Value} {Q : Unit → Shared → Prop}
    (F : Fr h₀ L s.heap m) (N : News h₀ L s.heap [(D, listOf l.toArray n)]) (h0 : 0 ≤ k) (h1 : k < l.length) (h2 : l.length < 2 ^ 60)
    (h : ∀ h', Fr h₀ L h' m → News h₀ L h' [(D, listOf (l.set k.toNat v).toArray n)] → Q () { s with heap := h' }) :
    wpAny (model PySem.Challenge.rw_mq0320_01.row.prog w) A (setItem (.ref D) (.int k t) v) Q E s := by
  have z := N _ (.head _)
  refine ki_setAt z.1 h0 (by lia) (by simpa using h1) (h _ (F.change (Heap.SameBut.update ..) z.2.1 z.2.2) ?_)
  refine ki_turn (pre := []) (post := []) (fun x => x.setIfInBounds k.toNat v) N (by simp) (by simp) ?_ ?_
  · simp
  · simp
theorem sub_list {prog : Program} {w : World} {A : Around} {E : Value → Shared → Prop} {s : Shared} {h₀ : Heap} {L D : Addr} {news : List (Addr × Obj)} {value slice : Expr} {l : List Value} {n j : Nat} {k : Int} {u : Tok} {x : Value} {Q : Value → Shared → Prop}
    (N : News h₀ L s.heap news) (hm : (D, listOf l.toArray n) ∈ news) (hk : k = (j : Int)) (hx : l[j]? = some x) (hlen : l.length < 2 ^ 60) (h : Q x s)
    (hs : subscripted slice false (.ref D) (.int k u) = operate [.ref D, .int k u] (getItem (.ref D) (.int k u)) := by with_unfolding_all rfl) (hg : ∀ r, letTemporaryGo value (.ref D) r = pure () := by intro _; with_unfolding_all rfl) :
    wpAny (model prog w) A (subscriptTail value slice (.ref D) (.int k u)) Q E s := by
  have hj : j < l.length := by
    rcases Nat.lt_or_ge j l.length with q | q
    · exact q
    · rw [List.getElem?_eq_none q] at hx; cases hx
  subst hk
  exact item_listL (PySem.IsL.isList (n := n) (N _ hm).1) (by lia) (by lia) (by simpa using hx) h hs hg
theorem half_int (k : Nat) (h : 0 < k) : ((k : Int) - 1).fdiv (2 ^ (1 : Int).toNat) = (((k - 1) / 2 : Nat) : Int) := by
  have e : ((k : Int) - 1) = ((k - 1 : Nat) : Int) := by omega
  rw [e]
  show Int.fdiv _ 2 = _
  rw [Int.fdiv_eq_ediv_of_nonneg _ (by decide)]
  lia
theorem frKeep {h₀ h h' : Heap} {L : Addr} {D : List Addr} {m : Str → Option Value} (F : Fr h₀ L h m) (hk : Keep D h h') (hL : L ∉ D) (hD : ∀ d ∈ D, h₀.get? d = none) : Fr h₀ L h' m := by
  refine oEEEA F.ns fun oL es ep hLo r => ?_
  exact ⟨⟨oL, es, ep, hk _ _ hL hLo, r⟩, fun b o e => hk b o (fun q => by rw [hD b q] at e; cases e) (F.keep b o e), F.above⟩
theorem newsOne {h₀ h h' : Heap} {L D : Addr} {o o' : Obj} (N : News h₀ L h [(D, o)]) (e : h'.get? D = some o') : News h₀ L h' [(D, o')] := fun p hp => by
  rw [List.mem_singleton.mp hp]
  exact ⟨e, (N _ (.head _)).2⟩
theorem isSubT {M : Model} {A : Around} {s : Shared} {Q E : Value → Shared → Prop} {v sl : Expr} {a : Addr} {i : Value} (h : wpAny M A (subscriptTail v sl (.ref a) i) Q E s) : wpAny M A (subscriptTail v sl (.ref a) i) Q E s := h
theorem isSetI {M : Model} {A : Around} {s : Shared} {Q : Unit → Shared → Prop} {E : Value → Shared → Prop} {a : Addr} {i v : Value} (h : wpAny M A (setItem (.ref a) i v) Q E s) : wpAny M A (setItem (.ref a) i v) Q E s := h
theorem isCallB {M : Model} {A : Around} {s : Shared} {Q E : Value → Shared → Prop} {id : String} {ps : List Value} {kw : List (Str × Value)} (h : wpAny M A (call (.builtin id) ps kw) Q E s) : wpAny M A (call (.builtin id) ps kw) Q E s := h
theorem isCallT {M : Model} {A : Around} {s : Shared} {Q E : Value → Shared → Prop} {id : String} {ps : List Value} {kw : List (Str × Value)} (h : wpAny M A (call (.type id) ps kw) Q E s) : wpAny M A (call (.type id) ps kw) Q E s := h
theorem isCmpV {M : Model} {A : Around} {s : Shared} {Q E : Value → Shared → Prop} {op : CmpOp} {v u : Value} (h : wpAny M A (compareOp op v u) Q E s) : wpAny M A (compareOp op v u) Q E s := h
theorem isPyIter {M : Model} {A : Around} {s : Shared} {Q E : Value → Shared → Prop} {v : Value} (h : wpAny M A (pyIter v) Q E s) : wpAny M A (pyIter v) Q E s := h
theorem isDiv {M : Model} {A : Around} {s : Shared} {Q E : Value → Shared → Prop} {a c : Value} (h : wpAny M A (binaryOp .Div a c) Q E s) : wpAny M A (binaryOp .Div a c) Q E s := h
theorem isModF {M : Model} {A : Around} {s : Shared} {Q E : Value → Shared → Prop} {a c : UInt64} {t u : Tok} (h : wpAny M A (binaryOp .Mod (.float a t) (.float c u)) Q E s) : wpAny M A (binaryOp .Mod (.float a t) (.float c u)) Q E s := h
theorem isCmpF {M : Model} {A : Around} {s : Shared} {Q E : Value → Shared → Prop} {op : CmpOp} {a : UInt64} {t : Tok} {v : Value} (h : wpAny M A (compareOp op (.float a t) v) Q E s) : wpAny M A (compareOp op (.float a t) v) Q E s := h
theorem isIf {M : Model} {A : Around} {s : Shared} {Q : Flow → Shared → Prop} {E : Value → Shared → Prop} {t : Expr} {x y : List Stmt} {pos : Pos} {env : Env} (h : wpAny M A (exec (.If t x y pos) env) Q E s) : wpAny M A (exec (.If t x y pos) env) Q E s := h
theorem isIfE {M : Model} {A : Around} {s : Shared} {Q E : Value → Shared → Prop} {t x y : Expr} {pos : Pos} {env : Env} (h : wpAny M A (eval (.IfExp t x y pos) env) Q E s) : wpAny M A (eval (.IfExp t x y pos) env) Q E s := h
theorem isUnp {M : Model} {A : Around} {s : Shared} {Q : List Value → Shared → Prop} {E : Value → Shared → Prop} {v : Value} {n : Nat} {o : Option Nat} (h : wpAny M A (unpackItems v n o) Q E s) : wpAny M A (unpackItems v n o) Q E s := h
theorem isAsgT {M : Model} {A : Around} {s : Shared} {Q : Unit → Shared → Prop} {E : Value → Shared → Prop} {el : List Expr} {k : Nat} {pos : Pos} {env : Env} {v : Value} (h : wpAny M A (assign (.Tuple el k pos) env v) Q E s) : wpAny M A (assign (.Tuple el k pos) env v) Q E s := h
theorem isLC {M : Model} {A : Around} {s : Shared} {Q E : Value → Shared → Prop} {e : Expr} {g : List Comprehension} {sc : Scope} {pos : Pos} {env : Env} (h : wpAny M A (eval (.ListComp e g sc pos) env) Q E s) : wpAny M A (eval (.ListComp e g sc pos) env) Q E s := h
theorem isALC {M : Model} {A : Around} {s : Shared} {Q : Flow → Shared → Prop} {E : Value → Shared → Prop} {t : List Expr} {e : Expr} {g : List Comprehension} {sc : Scope} {pos pos' : Pos} {env : Env} (h : wpAny M A (exec (.Assign t (.ListComp e g sc pos) pos') env) Q E s) : wpAny M A (exec (.Assign t (.ListComp e g sc pos) pos') env) Q E s := h
theorem isWhile {M : Model} {A : Around} {s : Shared} {Q : Flow → Shared → Prop} {E : Value → Shared → Prop} {test : Expr} {body orelse : List Stmt} {pos : Pos} {env : Env} (h : wpAny M A (exec (.While test body orelse pos) env) Q E s) : wpAny M A (exec (.While test body orelse pos) env) Q E s := h
theorem isFor {M : Model} {A : Around} {s : Shared} {Q : Flow → Shared → Prop} {E : Value → Shared → Prop} {t i : Expr} {body orelse : List Stmt} {pos : Pos} {env : Env} (h : wpAny M A (exec (.For t i body orelse pos) env) Q E s) : wpAny M A (exec (.For t i body orelse pos) env) Q E s := h
theorem isCallRef {M : Model} {A : Around} {s : Shared} {Q E : Value → Shared → Prop} {a : Addr} {ps : List Value} {kw : List (Str × Value)} (h : wpAny M A (call (.ref a) ps kw) Q E s) : wpAny M A (call (.ref a) ps kw) Q E s := h
theorem isCmpRef {M : Model} {A : Around} {s : Shared} {Q E : Value → Shared → Prop} {op : CmpOp} {a : Addr} {v : Value} (h : wpAny M A (compareOp op (.ref a) v) Q E s) : wpAny M A (compareOp op (.ref a) v) Q E s := h
end
section
open PySem PySem.W PyProof.Rows PySem.Calls
local macro_rules | `(tactic| walk_at "tupAt") => `(tactic| first | assumption | exact Fr.tup (by assumption) (by assumption) | exact News.isTup (by assumption) (by k_mem))
local macro_rules | `(tactic| walk_at "unp") => `(tactic| first | ((with_reducible refine isUnp ?_); (refine unpackItemsN_ (by assumption) (by assumption) (by walk_at "tupAt") (by assumption) rfl ?_); intro _ _ _) | ((with_reducible refine isAsgT ?_); (refine unpackN_ (by assumption) (by assumption) (by walk_at "tupAt") (by assumption) rfl rfl ?_); intro _ _ _))
local macro_rules | `(tactic| walk_at "go1") => `(tactic| ((fail_if_success (with_reducible (first | refine isLC ?_ | refine isALC ?_ | refine isWhile ?_ | refine isFor ?_ | refine isCallRef ?_ | refine isCmpRef ?_ | refine isSubT ?_ | refine isSetI ?_ | refine isCallB ?_ | refine isCallT ?_ | refine isPyIter ?_))); walk1))
local macro_rules | `(tactic| walk_at "go") => `(tactic| repeat' (first | walk_at "unp" | walk_at "go1" | (dsimp only; walk_at "go1")))
local macro_rules | `(tactic| walk_at "go2") => `(tactic| first | walk_at "unp" | ((fail_if_success (with_reducible (first | refine isDiv ?_ | refine isModF ?_ | refine isCmpF ?_))); (first | with_reducible (first | refine wpAny_execs_cons ?_ | refine wpAny_execs_nil ?_) | walk_at "go1")))
local macro_rules | `(tactic| walk_at "got") => `(tactic| repeat' (first | walk_at "go2" | (dsimp only; walk_at "go2")))
-- part SD
section
open PySem PySem.W PyProof.Rows PySem.Calls
set_option maxRecDepth 100000
set_option maxHeartbeats 4000000
theorem fillSD : True := by
  w_top off
  trivial
noncomputable def Cmp (w : World) (G : PM) (a b : Value) (r : Bool) : Prop :=
  ∀ (A : Around) (Q E : Value → Shared → Prop) (s : Shared), A.handled = none → A.units + 100 < cLine → Sub G s.heap.get? → Q (.bool r) s → wpAny (model PySem.Challenge.rw_mq0320_01.row.prog w) A (compareOp .Lt a b) Q E s
section
variable {w : World} {A : Around} {s : Shared} {H : Heap} {G : PM} {p : Program} {loose : List Str} {mean : ExcName → Option Value} {mg mb : Str → Option Value} {Q E : Value → Shared → Prop}
    {D : Addr} {n : Nat}
noncomputable def SDI1 {α : Type} (s : Shared) (h₀ : Heap) (L' : Addr) (D : Addr) (l : List α) (f : α → Value) (n : Nat) (sp : Nat) (ps : Nat) (t1 : Tok) (new : α) (lt : α → α → Bool) (k : Nat) (ZZ : Shared → Prop) : Prop := ∀ (l' : List α), ∀ (z : Int), ∀ (tq : Tok), ∀ (h' : Heap), ∀ (tk' : Nat), ∀ (m : Str → Option Value), (Fr h₀ L' h' m) → (News h₀ L' h' [(D, listOf (l'.map f).toArray n)]) → (m "heap" = some (.ref D)) → (m "startpos" = some (.int sp t1)) → (m "pos" = some (.int z tq)) → (z = (k : Int)) → (m "newitem" = some (f new)) → (k < l'.length) → (l'.length = l.length) → ((∀ v ∈ l', v ∈ l)) → (sdLoop lt new sp l' k = sdLoop lt new sp l ps) → ZZ ({ s with heap := h', toks := tk' })
theorem siftdown_ok {α : Type} {f : α → Value} {l : List α} {sp ps : Nat} {t1 t2 : Tok} {new : α} {lt : α → α → Bool}
    (X : (hd.heap_1 w.params).In H) (T : Top p loose mean mg mb H) (st : H.StaysIn s.heap) (hD : H.get? D = none) (hA : A.handled = none) (hu : A.units + 200 < cLine) (hroom : A.depth < recursionLimit)
    (hl : s.heap.get? D = some (listOf (l.map f).toArray n)) (hG : Sub G s.heap.get?) (hGD : G D = none) (hlen : l.length < 2 ^ 20) (hp : ps < l.length) (hn : l[ps]? = some new)
    (hc : ∀ a ∈ l, ∀ b ∈ l, Cmp w G (f a) (f b) (lt a b))
    (hq : ∀ h' tk', Keep [D] s.heap h' → h'.get? D = some (listOf ((sdLoop lt new sp l ps).map f).toArray n) → Q .none { s with heap := h', toks := tk' }) :
    wpAny (model PySem.Challenge.rw_mq0320_01.row.prog w) A (call (.ref 63) [.ref D, .int sp t1, .int ps t2]) Q E s := by
  refine wpAny_call ?_
  have st' : H.StaysIn (hideAll s.heap [D]) := stays_hide st (by simpa using hD)
  refine' callF [D] ?k6 ?k7 (X.keeps st) (T.nolimit.keeps st) hroom ?k9 ?kB ?_ ?c5 ?c2 ?c3 ?c4
  case k6 => k_is
  case k7 => k_is
  case k9 => exact BindsTo.of_eq rfl
  case kB => exact locs rfl
  case c5 => decide
  case c2 => exact rfl
  case c3 => exact rfl
  case c4 => exact rfl
  intro L' h₁ F hk₁ hL
  have X' := X.keeps st'
  have T' := T.keeps st'
  have hG' : Sub G (hideAll s.heap [D]).get? := sub_hide hG (by simpa using hGD)
  have N' : News (hideAll s.heap [D]) L' h₁ [(D, listOf (l.map f).toArray n)] := fun p hp => by
    rw [List.mem_singleton.mp hp]
    exact ⟨hk₁ _ _ hl, by rw [hL]; exact Nat.ne_of_lt (Heap.lt_size hl), hideAll_none _ (.head _)⟩
  have hfin : ∀ h', (hideAll s.heap [D]).StaysIn h' → Keep [D] s.heap h' := fun h' q => keep_hide q
  clear X T
  dsimp only
  generalize hideAll s.heap [D] = h₀ at *
  walk_at "go"
  refine sub_list (x := f new) N' (.head _) rfl (by simp [hn]) (by simpa using by omega) ?_
  walk_at "go"
  refine while_myC (SDI1 s h₀ L' D l f n sp ps t1 new lt) ?_ ps ?_
  · intro k l' z tq h' tk' m F1 N1 m1 m2 m3 r11 m4 hq1 hq2 hq3 hq4
    obtain rfl := r11
    intro Bz mkB
    have F2 := frKnown F1 [("heap", .ref D), ("startpos", .int sp t1), ("pos", .int k tq), ("newitem", f new)] (by simp [m1, m2, m3, m4])
    clear F1
    rw [sdLoop_eq] at hq4
    walk_at "go"
    · have hlt : sp < k := by omega
      have hpar : (k - 1) / 2 < l'.length := by omega
      rw [if_pos hlt, List.getElem?_eq_getElem hpar] at hq4
      dsimp only at hq4
      refine sub_list (by assumption) (.head _) (half_int k (by omega)) (x := f l'[(k - 1) / 2]) (by simp [hpar]) (by simpa using by omega) ?_
      walk_at "go"
      refine hc new (List.mem_of_getElem? hn) _ (hq3 _ (List.getElem_mem hpar)) _ _ _ _ hA ?_ (fun b o e => Fr.keep (by assumption) b o (hG' b o e)) ?_
      · show A.units + 3 + 100 < cLine; first | exact room3 hu (by decide) | omega
      walk_at "go"
      · rename_i hlt2
        rw [if_pos hlt2] at hq4
        refine set_list (by assumption) (by assumption) (by omega) (by simpa using by omega) (by simpa using by omega) ?_
        intro h2 F3 N3
        rw [← List.map_set] at N3
        walk_at "go"
        refine mkB ((k - 1) / 2) _ (by omega) (fun _ zz => zz (l'.set k l'[(k - 1) / 2]) _ _ _ _ _ (by assumption) (by assumption) rfl rfl rfl (half_int k (by omega)) rfl (?_) (?_) (?_) hq4)
        · rw [List.length_set]; exact hpar
        · rw [List.length_set]; exact hq2
        · intro v hv
          rcases List.mem_or_eq_of_mem_set hv with q | q
          · exact hq3 v q
          · rw [q]; exact hq3 _ (List.getElem_mem hpar)
      · rename_i hlt2
        rw [if_neg (by simp [hlt2])] at hq4
        refine set_list (by assumption) (by assumption) (by omega) (by simpa using by omega) (by simpa using by omega) ?_
        intro h2 F3 N3
        rw [← List.map_set] at N3
        walk_at "go"
        refine hq _ _ (hfin _ F3.keep) ?_
        rw [← hq4]
        simpa using (N3 _ (.head _)).1
    · rw [if_neg (by omega)] at hq4
      refine set_list (by assumption) (by assumption) (by omega) (by simpa using by omega) (by simpa using by omega) ?_
      intro h2 F3 N3
      rw [← List.map_set] at N3
      walk_at "go"
      refine hq _ _ (hfin _ F3.keep) ?_
      rw [← hq4]
      simpa using (N3 _ (.head _)).1
  · exact (fun _ zz => zz l _ _ _ _ _ (by assumption) (by assumption) rfl rfl rfl rfl rfl hp rfl (fun _ h => h) rfl)
end
end
-- part SU
section
open PySem PySem.W PyProof.Rows PySem.Calls
set_option maxRecDepth 100000
set_option maxHeartbeats 4000000
theorem fillSU : True := by
  w_top off
  trivial
section
variable {w : World} {A : Around} {s : Shared} {H : Heap} {G : PM} {p : Program} {loose : List Str} {mean : ExcName → Option Value} {mg mb : Str → Option Value} {Q E : Value → Shared → Prop}
    {D : Addr} {n : Nat}
noncomputable def SUI1 {α : Type} (s : Shared) (h₀ : Heap) (L' : Addr) (D : Addr) (l : List α) (f : α → Value) (n : Nat) (ps : Nat) (hp : ps < l.length) (t2 : Tok) (lt : α → α → Bool) (k : Nat) (ZZ : Shared → Prop) : Prop := ∀ (l' : List α), ∀ (q : Nat), ∀ (z0 z1 z2 : Int), ∀ (t0 tq tc : Tok), ∀ (h' : Heap), ∀ (tk' : Nat), ∀ (m : Str → Option Value), (Fr h₀ L' h' m) → (News h₀ L' h' [(D, listOf (l'.map f).toArray n)]) → (m "heap" = some (.ref D)) → (m "endpos" = some (.int z0 t0)) → (z0 = l.length) → (m "startpos" = some (.int ps t2)) → (m "newitem" = some (f (l[ps]' hp))) → (m "pos" = some (.int z1 tq)) → (z1 = q) → (m "childpos" = some (.int z2 tc)) → (z2 = 2 * q + 1) → (k = l.length - q) → (q < l'.length) → (l'.length = l.length) → ((∀ v ∈ l', v ∈ l)) → (suLoop lt l' q = suLoop lt l ps) → ZZ ({ s with heap := h', toks := tk' })
theorem siftup_ok {α : Type} {f : α → Value} {l : List α} {ps : Nat} {t2 : Tok} {lt : α → α → Bool}
    (X : (hd.heap_1 w.params).In H) (T : Top p loose mean mg mb H) (st : H.StaysIn s.heap) (hD : H.get? D = none) (hA : A.handled = none) (hu : A.units + 300 < cLine) (hroom : A.depth + 1 < recursionLimit)
    (hl : s.heap.get? D = some (listOf (l.map f).toArray n)) (hG : Sub G s.heap.get?) (hGD : G D = none) (hlen : l.length < 2 ^ 20) (hp : ps < l.length)
    (hc : ∀ a ∈ l, ∀ b ∈ l, Cmp w G (f a) (f b) (lt a b))
    (hq : ∀ h' tk', Keep [D] s.heap h' → h'.get? D = some (listOf ((siftupP lt l ps).map f).toArray n) → Q .none { s with heap := h', toks := tk' }) :
    wpAny (model PySem.Challenge.rw_mq0320_01.row.prog w) A (call (.ref 70) [.ref D, .int ps t2]) Q E s := by
  refine wpAny_call ?_
  have st' : H.StaysIn (hideAll s.heap [D]) := stays_hide st (by simpa using hD)
  refine' callF [D] ?k6 ?k7 (X.keeps st) (T.nolimit.keeps st) (by first | exact room1 hroom | omega) ?k9 ?kB ?_ ?c5 ?c2 ?c3 ?c4
  case k6 => k_is
  case k7 => k_is
  case k9 => exact BindsTo.of_eq rfl
  case kB => exact locs rfl
  case c5 => decide
  case c2 => exact rfl
  case c3 => exact rfl
  case c4 => exact rfl
  intro L' h₁ F hk₁ hL
  have X' := X.keeps st'
  have T' := T.keeps st'
  have hG' : Sub G (hideAll s.heap [D]).get? := sub_hide hG (by simpa using hGD)
  have N' : News (hideAll s.heap [D]) L' h₁ [(D, listOf (l.map f).toArray n)] := fun p hp => by
    rw [List.mem_singleton.mp hp]
    exact ⟨hk₁ _ _ hl, by rw [hL]; exact Nat.ne_of_lt (Heap.lt_size hl), hideAll_none _ (.head _)⟩
  have hfin : ∀ h', (hideAll s.heap [D]).StaysIn h' → Keep [D] s.heap h' := fun h' q => keep_hide q
  clear X T
  dsimp only
  generalize hideAll s.heap [D] = h₀ at *
  walk_at "go"
  refine len_list (PySem.IsL.isList (n := n) (N' _ (.head _)).1) (by simp; omega) ?_
  walk_at "go"
  refine sub_list (x := f l[ps]) (by assumption) (.head _) rfl (by simp [hp]) (by simpa using by omega) ?_
  walk_at "go"
  refine while_myC (SUI1 s h₀ L' D l f n ps hp t2 lt) ?_ (l.length - ps) ?_
  · intro k l' q z0 z1 z2 t0 tq tc h' tk' m F1 N1 m1 m2 r15 m3 m4 m5 r19 m6 r21 r22 hq1 hq2 hq3 hq4
    obtain rfl := r15
    obtain rfl := r19
    obtain rfl := r21
    obtain rfl := r22
    intro Bz mkB
    have F2 := frKnown F1 [("heap", .ref D), ("endpos", .int l.length t0), ("startpos", .int ps t2), ("newitem", f l[ps]), ("pos", .int q tq), ("childpos", .int (2 * q + 1) tc)] (by simp [m1, m2, m3, m4, m5, m6])
    clear F1
    rw [suLoop_eq] at hq4
    walk_at "go"
    · have hc1 : 2 * q + 1 < l'.length := by omega
      have hc2 : 2 * q + 2 < l'.length := by omega
      split at hq4
      · rename_i e; rw [List.getElem?_eq_getElem hc1] at e; cases e
      rename_i x1 e1
      rw [List.getElem?_eq_getElem hc1] at e1
      obtain rfl := Option.some.inj e1
      rw [List.getElem?_eq_getElem hc2] at hq4
      dsimp only at hq4
      refine sub_list (by assumption) (.head _) (j := 2 * q + 1) (x := f l'[2 * q + 1]) (by omega) (by simp [hc1]) (by simpa using by omega) ?_
      walk_at "go"
      refine sub_list (by assumption) (.head _) (j := 2 * q + 2) (x := f l'[2 * q + 2]) (by omega) (by simp [hc2]) (by simpa using by omega) ?_
      walk_at "go"
      refine hc _ (hq3 _ (List.getElem_mem hc1)) _ (hq3 _ (List.getElem_mem hc2)) _ _ _ _ hA ?_ (fun b o e => Fr.keep (by assumption) b o (hG' b o e)) ?_
      · show A.units + 3 + 100 < cLine; first | exact room3 hu (by decide) | omega
      cases hlt2 : lt l'[2 * q + 1] l'[2 * q + 2]
      · rw [if_neg (by simp [hlt2])] at hq4
        walk_at "go"
        refine sub_list (by assumption) (.head _) (j := 2 * q + 2) (x := f l'[2 * q + 2]) (by omega) (by simp [hc2]) (by simpa using by omega) ?_
        walk_at "go"
        refine set_list (by assumption) (by assumption) (by omega) (by simpa using by omega) (by simpa using by omega) ?_
        intro h2 F3 N3
        rw [← List.map_set] at N3
        walk_at "go"
        refine mkB (l.length - (2 * q + 2)) _ (by omega) (fun _ zz => zz (l'.set q l'[2 * q + 2]) (2 * q + 2) _ _ _ _ _ _ _ _ _ (by assumption) (by assumption) rfl rfl rfl rfl rfl rfl (by omega) rfl (by omega) rfl (?_) (?_) (?_) hq4)
        · rw [List.length_set]; exact hc2
        · rw [List.length_set]; exact hq2
        · intro v hv
          rcases List.mem_or_eq_of_mem_set hv with e | e
          · exact hq3 v e
          · rw [e]; exact hq3 _ (List.getElem_mem hc2)
      · rw [if_pos hlt2] at hq4
        walk_at "go"
        refine sub_list (by assumption) (.head _) (j := 2 * q + 1) (x := f l'[2 * q + 1]) (by omega) (by simp [hc1]) (by simpa using by omega) ?_
        walk_at "go"
        refine set_list (by assumption) (by assumption) (by omega) (by simpa using by omega) (by simpa using by omega) ?_
        intro h2 F3 N3
        rw [← List.map_set] at N3
        walk_at "go"
        refine mkB (l.length - (2 * q + 1)) _ (by omega) (fun _ zz => zz (l'.set q l'[2 * q + 1]) (2 * q + 1) _ _ _ _ _ _ _ _ _ (by assumption) (by assumption) rfl rfl rfl rfl rfl rfl (by omega) rfl (by omega) rfl (?_) (?_) (?_) hq4)
        · rw [List.length_set]; exact hc1
        · rw [List.length_set]; exact hq2
        · intro v hv
          rcases List.mem_or_eq_of_mem_set hv with e | e
          · exact hq3 v e
          · rw [e]; exact hq3 _ (List.getElem_mem hc1)
    · have hc1 : 2 * q + 1 < l'.length := by omega
      split at hq4
      · rename_i e; rw [List.getElem?_eq_getElem hc1] at e; cases e
      rename_i x1 e1
      rw [List.getElem?_eq_getElem hc1] at e1
      obtain rfl := Option.some.inj e1
      rw [List.getElem?_eq_none (by omega)] at hq4
      dsimp only at hq4
      refine sub_list (by assumption) (.head _) (j := 2 * q + 1) (x := f l'[2 * q + 1]) (by omega) (by simp [hc1]) (by simpa using by omega) ?_
      walk_at "go"
      refine set_list (by assumption) (by assumption) (by omega) (by simpa using by omega) (by simpa using by omega) ?_
      intro h2 F3 N3
      rw [← List.map_set] at N3
      walk_at "go"
      refine mkB (l.length - (2 * q + 1)) _ (by omega) (fun _ zz => zz (l'.set q l'[2 * q + 1]) (2 * q + 1) _ _ _ _ _ _ _ _ _ (by assumption) (by assumption) rfl rfl rfl rfl rfl rfl (by omega) rfl (by omega) rfl (?_) (?_) (?_) hq4)
      · rw [List.length_set]; exact hc1
      · rw [List.length_set]; exact hq2
      · intro v hv
        rcases List.mem_or_eq_of_mem_set hv with e | e
        · exact hq3 v e
        · rw [e]; exact hq3 _ (List.getElem_mem hc1)
    · split at hq4
      · refine set_list (by assumption) (by assumption) (by omega) (by simpa using by omega) (by simpa using by omega) ?_
        intro h2 F3 N3
        rw [← List.map_set] at N3
        walk_at "go"
        refine siftdown_ok (l := l'.set q l[ps]) (new := l[ps]) (lt := lt) X' T' F3.keep (N3 _ (.head _)).2.2 hA ?_ ?_ (by simpa using (N3 _ (.head _)).1) (fun b o e => F3.keep b o (hG' b o e)) hGD (by simpa using by omega) (by simpa using hq1) (by simp [hq1]) ?_ ?_
        · show A.units + 3 + 200 < cLine; first | exact room3 hu (by decide) | omega
        · exact hroom
        · intro a ha b hb
          refine hc a ?_ b ?_
          · rcases List.mem_or_eq_of_mem_set ha with e | e
            · exact hq3 _ e
            · rw [e]; exact List.getElem_mem hp
          · rcases List.mem_or_eq_of_mem_set hb with e | e
            · exact hq3 _ e
            · rw [e]; exact List.getElem_mem hp
        · intro h3 tk3 K3 e3
          walk_at "go"
          refine hq _ _ ((hfin _ F3.keep).trans K3) ?_
          rw [e3]
          unfold siftupP
          rw [List.getElem?_eq_getElem hp, ← hq4]
      · rename_i x1 e1
        rw [List.getElem?_eq_none (by omega)] at e1
        cases e1
  · refine (fun _ zz => zz l ps _ _ _ _ _ _ _ _ _ (by assumption) (by assumption) rfl rfl (by simp) rfl rfl rfl rfl rfl rfl rfl hp rfl (fun _ h => h) rfl)
end
end
-- part SM
section
open PySem PySem.W PyProof.Rows PySem.Calls
set_option maxRecDepth 100000
set_option maxHeartbeats 4000000
theorem fillSM : True := by
  w_top off
  trivial
section
variable {w : World} {A : Around} {s : Shared} {H : Heap} {G : PM} {p : Program} {loose : List Str} {mean : ExcName → Option Value} {mg mb : Str → Option Value} {Q E : Value → Shared → Prop}
    {D : Addr} {n : Nat}
noncomputable def SMI1 {α : Type} (s : Shared) (h₀ : Heap) (L' : Addr) (D : Addr) (l : List α) (f : α → Value) (n : Nat) (sp : Nat) (ps : Nat) (t1 : Tok) (new : α) (lt : α → α → Bool) (k : Nat) (ZZ : Shared → Prop) : Prop := ∀ (l' : List α), ∀ (z : Int), ∀ (tq : Tok), ∀ (h' : Heap), ∀ (tk' : Nat), ∀ (m : Str → Option Value), (Fr h₀ L' h' m) → (News h₀ L' h' [(D, listOf (l'.map f).toArray n)]) → (m "heap" = some (.ref D)) → (m "startpos" = some (.int sp t1)) → (m "pos" = some (.int z tq)) → (z = (k : Int)) → (m "newitem" = some (f new)) → (k < l'.length) → (l'.length = l.length) → ((∀ v ∈ l', v ∈ l)) → (sdLoop (fun a b => lt b a) new sp l' k = sdLoop (fun a b => lt b a) new sp l ps) → ZZ ({ s with heap := h', toks := tk' })
theorem siftdown_max_ok {α : Type} {f : α → Value} {l : List α} {sp ps : Nat} {t1 t2 : Tok} {new : α} {lt : α → α → Bool}
    (X : (hd.heap_1 w.params).In H) (T : Top p loose mean mg mb H) (st : H.StaysIn s.heap) (hD : H.get? D = none) (hA : A.handled = none) (hu : A.units + 200 < cLine) (hroom : A.depth < recursionLimit)
    (hl : s.heap.get? D = some (listOf (l.map f).toArray n)) (hG : Sub G s.heap.get?) (hGD : G D = none) (hlen : l.length < 2 ^ 20) (hp : ps < l.length) (hn : l[ps]? = some new)
    (hc : ∀ a ∈ l, ∀ b ∈ l, Cmp w G (f a) (f b) (lt a b))
    (hq : ∀ h' tk', Keep [D] s.heap h' → h'.get? D = some (listOf ((sdLoop (fun a b => lt b a) new sp l ps).map f).toArray n) → Q .none { s with heap := h', toks := tk' }) :
    wpAny (model PySem.Challenge.rw_mq0320_01.row.prog w) A (call (.ref 77) [.ref D, .int sp t1, .int ps t2]) Q E s := by
  refine wpAny_call ?_
  have st' : H.StaysIn (hideAll s.heap [D]) := stays_hide st (by simpa using hD)
  refine' callF [D] ?k6 ?k7 (X.keeps st) (T.nolimit.keeps st) hroom ?k9 ?kB ?_ ?c5 ?c2 ?c3 ?c4
  case k6 => k_is
  case k7 => k_is
  case k9 => exact BindsTo.of_eq rfl
  case kB => exact locs rfl
  case c5 => decide
  case c2 => exact rfl
  case c3 => exact rfl
  case c4 => exact rfl
  intro L' h₁ F hk₁ hL
  have X' := X.keeps st'
  have T' := T.keeps st'
  have hG' : Sub G (hideAll s.heap [D]).get? := sub_hide hG (by simpa using hGD)
  have N' : News (hideAll s.heap [D]) L' h₁ [(D, listOf (l.map f).toArray n)] := fun p hp => by
    rw [List.mem_singleton.mp hp]
    exact ⟨hk₁ _ _ hl, by rw [hL]; exact Nat.ne_of_lt (Heap.lt_size hl), hideAll_none _ (.head _)⟩
  have hfin : ∀ h', (hideAll s.heap [D]).StaysIn h' → Keep [D] s.heap h' := fun h' q => keep_hide q
  clear X T
  dsimp only
  generalize hideAll s.heap [D] = h₀ at *
  walk_at "go"
  refine sub_list (x := f new) N' (.head _) rfl (by simp [hn]) (by simpa using by omega) ?_
  walk_at "go"
  refine while_myC (SMI1 s h₀ L' D l f n sp ps t1 new lt) ?_ ps ?_
  · intro k l' z tq h' tk' m F1 N1 m1 m2 m3 r11 m4 hq1 hq2 hq3 hq4
    obtain rfl := r11
    intro Bz mkB
    have F2 := frKnown F1 [("heap", .ref D), ("startpos", .int sp t1), ("pos", .int k tq), ("newitem", f new)] (by simp [m1, m2, m3, m4])
    clear F1
    rw [sdLoop_eq] at hq4
    walk_at "go"
    · have hlt : sp < k := by omega
      have hpar : (k - 1) / 2 < l'.length := by omega
      rw [if_pos hlt, List.getElem?_eq_getElem hpar] at hq4
      dsimp only at hq4
      refine sub_list (by assumption) (.head _) (half_int k (by omega)) (x := f l'[(k - 1) / 2]) (by simp [hpar]) (by simpa using by omega) ?_
      walk_at "go"
      refine hc _ (hq3 _ (List.getElem_mem hpar)) new (List.mem_of_getElem? hn) _ _ _ _ hA ?_ (fun b o e => Fr.keep (by assumption) b o (hG' b o e)) ?_
      · show A.units + 3 + 100 < cLine; first | exact room3 hu (by decide) | omega
      walk_at "go"
      · rename_i hlt2
        rw [if_pos hlt2] at hq4
        refine set_list (by assumption) (by assumption) (by omega) (by simpa using by omega) (by simpa using by omega) ?_
        intro h2 F3 N3
        rw [← List.map_set] at N3
        walk_at "go"
        refine mkB ((k - 1) / 2) _ (by omega) (fun _ zz => zz (l'.set k l'[(k - 1) / 2]) _ _ _ _ _ (by assumption) (by assumption) rfl rfl rfl (half_int k (by omega)) rfl (?_) (?_) (?_) hq4)
        · rw [List.length_set]; exact hpar
        · rw [List.length_set]; exact hq2
        · intro v hv
          rcases List.mem_or_eq_of_mem_set hv with q | q
          · exact hq3 v q
          · rw [q]; exact hq3 _ (List.getElem_mem hpar)
      · rename_i hlt2
        rw [if_neg (by simp [hlt2])] at hq4
        refine set_list (by assumption) (by assumption) (by omega) (by simpa using by omega) (by simpa using by omega) ?_
        intro h2 F3 N3
        rw [← List.map_set] at N3
        walk_at "go"
        refine hq _ _ (hfin _ F3.keep) ?_
        rw [← hq4]
        simpa using (N3 _ (.head _)).1
    · rw [if_neg (by omega)] at hq4
      refine set_list (by assumption) (by assumption) (by omega) (by simpa using by omega) (by simpa using by omega) ?_
      intro h2 F3 N3
      rw [← List.map_set] at N3
      walk_at "go"
      refine hq _ _ (hfin _ F3.keep) ?_
      rw [← hq4]
      simpa using (N3 _ (.head _)).1
  · exact (fun _ zz => zz l _ _ _ _ _ (by assumption) (by assumption) rfl rfl rfl rfl rfl hp rfl (fun _ h => h) rfl)
noncomputable def SMI2 {α : Type} (s : Shared) (h₀ : Heap) (L' : Addr) (D : Addr) (l : List α) (f : α → Value) (n : Nat) (ps : Nat) (hp : ps < l.length) (t2 : Tok) (lt : α → α → Bool) (k : Nat) (ZZ : Shared → Prop) : Prop := ∀ (l' : List α), ∀ (q : Nat), ∀ (z0 z1 z2 : Int), ∀ (t0 tq tc : Tok), ∀ (h' : Heap), ∀ (tk' : Nat), ∀ (m : Str → Option Value), (Fr h₀ L' h' m) → (News h₀ L' h' [(D, listOf (l'.map f).toArray n)]) → (m "heap" = some (.ref D)) → (m "endpos" = some (.int z0 t0)) → (z0 = l.length) → (m "startpos" = some (.int ps t2)) → (m "newitem" = some (f (l[ps]' hp))) → (m "pos" = some (.int z1 tq)) → (z1 = q) → (m "childpos" = some (.int z2 tc)) → (z2 = 2 * q + 1) → (k = l.length - q) → (q < l'.length) → (l'.length = l.length) → ((∀ v ∈ l', v ∈ l)) → (suLoop (fun a b => lt b a) l' q = suLoop (fun a b => lt b a) l ps) → ZZ ({ s with heap := h', toks := tk' })
theorem siftup_max_ok {α : Type} {f : α → Value} {l : List α} {ps : Nat} {t2 : Tok} {lt : α → α → Bool}
    (X : (hd.heap_1 w.params).In H) (T : Top p loose mean mg mb H) (st : H.StaysIn s.heap) (hD : H.get? D = none) (hA : A.handled = none) (hu : A.units + 300 < cLine) (hroom : A.depth + 1 < recursionLimit)
    (hl : s.heap.get? D = some (listOf (l.map f).toArray n)) (hG : Sub G s.heap.get?) (hGD : G D = none) (hlen : l.length < 2 ^ 20) (hp : ps < l.length)
    (hc : ∀ a ∈ l, ∀ b ∈ l, Cmp w G (f a) (f b) (lt a b))
    (hq : ∀ h' tk', Keep [D] s.heap h' → h'.get? D = some (listOf ((siftupP (fun a b => lt b a) l ps).map f).toArray n) → Q .none { s with heap := h', toks := tk' }) :
    wpAny (model PySem.Challenge.rw_mq0320_01.row.prog w) A (call (.ref 84) [.ref D, .int ps t2]) Q E s := by
  refine wpAny_call ?_
  have st' : H.StaysIn (hideAll s.heap [D]) := stays_hide st (by simpa using hD)
  refine' callF [D] ?k6 ?k7 (X.keeps st) (T.nolimit.keeps st) (by first | exact room1 hroom | omega) ?k9 ?kB ?_ ?c5 ?c2 ?c3 ?c4
  case k6 => k_is
  case k7 => k_is
  case k9 => exact BindsTo.of_eq rfl
  case kB => exact locs rfl
  case c5 => decide
  case c2 => exact rfl
  case c3 => exact rfl
  case c4 => exact rfl
  intro L' h₁ F hk₁ hL
  have X' := X.keeps st'
  have T' := T.keeps st'
  have hG' : Sub G (hideAll s.heap [D]).get? := sub_hide hG (by simpa using hGD)
  have N' : News (hideAll s.heap [D]) L' h₁ [(D, listOf (l.map f).toArray n)] := fun p hp => by
    rw [List.mem_singleton.mp hp]
    exact ⟨hk₁ _ _ hl, by rw [hL]; exact Nat.ne_of_lt (Heap.lt_size hl), hideAll_none _ (.head _)⟩
  have hfin : ∀ h', (hideAll s.heap [D]).StaysIn h' → Keep [D] s.heap h' := fun h' q => keep_hide q
  clear X T
  dsimp only
  generalize hideAll s.heap [D] = h₀ at *
  walk_at "go"
  refine len_list (PySem.IsL.isList (n := n) (N' _ (.head _)).1) (by simp; omega) ?_
  walk_at "go"
  refine sub_list (x := f l[ps]) (by assumption) (.head _) rfl (by simp [hp]) (by simpa using by omega) ?_
  walk_at "go"
  refine while_myC (SMI2 s h₀ L' D l f n ps hp t2 lt) ?_ (l.length - ps) ?_
  · intro k l' q z0 z1 z2 t0 tq tc h' tk' m F1 N1 m1 m2 r15 m3 m4 m5 r19 m6 r21 r22 hq1 hq2 hq3 hq4
    obtain rfl := r15
    obtain rfl := r19
    obtain rfl := r21
    obtain rfl := r22
    intro Bz mkB
    have F2 := frKnown F1 [("heap", .ref D), ("endpos", .int l.length t0), ("startpos", .int ps t2), ("newitem", f l[ps]), ("pos", .int q tq), ("childpos", .int (2 * q + 1) tc)] (by simp [m1, m2, m3, m4, m5, m6])
    clear F1
    rw [suLoop_eq] at hq4
    walk_at "go"
    · have hc1 : 2 * q + 1 < l'.length := by omega
      have hc2 : 2 * q + 2 < l'.length := by omega
      split at hq4
      · rename_i e; rw [List.getElem?_eq_getElem hc1] at e; cases e
      rename_i x1 e1
      rw [List.getElem?_eq_getElem hc1] at e1
      obtain rfl := Option.some.inj e1
      rw [List.getElem?_eq_getElem hc2] at hq4
      dsimp only at hq4
      refine sub_list (by assumption) (.head _) (j := 2 * q + 2) (x := f l'[2 * q + 2]) (by omega) (by simp [hc2]) (by simpa using by omega) ?_
      walk_at "go"
      refine sub_list (by assumption) (.head _) (j := 2 * q + 1) (x := f l'[2 * q + 1]) (by omega) (by simp [hc1]) (by simpa using by omega) ?_
      walk_at "go"
      refine hc _ (hq3 _ (List.getElem_mem hc2)) _ (hq3 _ (List.getElem_mem hc1)) _ _ _ _ hA ?_ (fun b o e => Fr.keep (by assumption) b o (hG' b o e)) ?_
      · show A.units + 3 + 100 < cLine; first | exact room3 hu (by decide) | omega
      cases hlt2 : lt l'[2 * q + 2] l'[2 * q + 1]
      · rw [if_neg (by simp [hlt2])] at hq4
        walk_at "go"
        refine sub_list (by assumption) (.head _) (j := 2 * q + 2) (x := f l'[2 * q + 2]) (by omega) (by simp [hc2]) (by simpa using by omega) ?_
        walk_at "go"
        refine set_list (by assumption) (by assumption) (by omega) (by simpa using by omega) (by simpa using by omega) ?_
        intro h2 F3 N3
        rw [← List.map_set] at N3
        walk_at "go"
        refine mkB (l.length - (2 * q + 2)) _ (by omega) (fun _ zz => zz (l'.set q l'[2 * q + 2]) (2 * q + 2) _ _ _ _ _ _ _ _ _ (by assumption) (by assumption) rfl rfl rfl rfl rfl rfl (by omega) rfl (by omega) rfl (?_) (?_) (?_) hq4)
        · rw [List.length_set]; exact hc2
        · rw [List.length_set]; exact hq2
        · intro v hv
          rcases List.mem_or_eq_of_mem_set hv with e | e
          · exact hq3 v e
          · rw [e]; exact hq3 _ (List.getElem_mem hc2)
      · rw [if_pos hlt2] at hq4
        walk_at "go"
        refine sub_list (by assumption) (.head _) (j := 2 * q + 1) (x := f l'[2 * q + 1]) (by omega) (by simp [hc1]) (by simpa using by omega) ?_
        walk_at "go"
        refine set_list (by assumption) (by assumption) (by omega) (by simpa using by omega) (by simpa using by omega) ?_
        intro h2 F3 N3
        rw [← List.map_set] at N3
        walk_at "go"
        refine mkB (l.length - (2 * q + 1)) _ (by omega) (fun _ zz => zz (l'.set q l'[2 * q + 1]) (2 * q + 1) _ _ _ _ _ _ _ _ _ (by assumption) (by assumption) rfl rfl rfl rfl rfl rfl (by omega) rfl (by omega) rfl (?_) (?_) (?_) hq4)
        · rw [List.length_set]; exact hc1
        · rw [List.length_set]; exact hq2
        · intro v hv
          rcases List.mem_or_eq_of_mem_set hv with e | e
          · exact hq3 v e
          · rw [e]; exact hq3 _ (List.getElem_mem hc1)
    · have hc1 : 2 * q + 1 < l'.length := by omega
      split at hq4
      · rename_i e; rw [List.getElem?_eq_getElem hc1] at e; cases e
      rename_i x1 e1
      rw [List.getElem?_eq_getElem hc1] at e1
      obtain rfl := Option.some.inj e1
      rw [List.getElem?_eq_none (by omega)] at hq4
      dsimp only at hq4
      refine sub_list (by assumption) (.head _) (j := 2 * q + 1) (x := f l'[2 * q + 1]) (by omega) (by simp [hc1]) (by simpa using by omega) ?_
      walk_at "go"
      refine set_list (by assumption) (by assumption) (by omega) (by simpa using by omega) (by simpa using by omega) ?_
      intro h2 F3 N3
      rw [← List.map_set] at N3
      walk_at "go"
      refine mkB (l.length - (2 * q + 1)) _ (by omega) (fun _ zz => zz (l'.set q l'[2 * q + 1]) (2 * q + 1) _ _ _ _ _ _ _ _ _ (by assumption) (by assumption) rfl rfl rfl rfl rfl rfl (by omega) rfl (by omega) rfl (?_) (?_) (?_) hq4)
      · rw [List.length_set]; exact hc1
      · rw [List.length_set]; exact hq2
      · intro v hv
        rcases List.mem_or_eq_of_mem_set hv with e | e
        · exact hq3 v e
        · rw [e]; exact hq3 _ (List.getElem_mem hc1)
    · split at hq4
      · refine set_list (by assumption) (by assumption) (by omega) (by simpa using by omega) (by simpa using by omega) ?_
        intro h2 F3 N3
        rw [← List.map_set] at N3
        walk_at "go"
        refine siftdown_max_ok (l := l'.set q l[ps]) (new := l[ps]) (lt := lt) X' T' F3.keep (N3 _ (.head _)).2.2 hA ?_ ?_ (by simpa using (N3 _ (.head _)).1) (fun b o e => F3.keep b o (hG' b o e)) hGD (by simpa using by omega) (by simpa using hq1) (by simp [hq1]) ?_ ?_
        · show A.units + 3 + 200 < cLine; first | exact room3 hu (by decide) | omega
        · exact hroom
        · intro a ha b hb
          refine hc a ?_ b ?_
          · rcases List.mem_or_eq_of_mem_set ha with e | e
            · exact hq3 _ e
            · rw [e]; exact List.getElem_mem hp
          · rcases List.mem_or_eq_of_mem_set hb with e | e
            · exact hq3 _ e
            · rw [e]; exact List.getElem_mem hp
        · intro h3 tk3 K3 e3
          walk_at "go"
          refine hq _ _ ((hfin _ F3.keep).trans K3) ?_
          rw [e3]
          unfold siftupP
          rw [List.getElem?_eq_getElem hp, ← hq4]
      · rename_i x1 e1
        rw [List.getElem?_eq_none (by omega)] at e1
        cases e1
  · refine (fun _ zz => zz l ps _ _ _ _ _ _ _ _ _ (by assumption) (by assumption) rfl rfl (by simp) rfl rfl rfl rfl rfl rfl rfl hp rfl (fun _ h => h) rfl)
end
end
-- part Base2
section
open PySem PySem.W PyProof.Rows PySem.Calls
set_option maxRecDepth 100000
set_option maxHeartbeats 4000000
theorem fillBase2 : True := by
  w_top off
  trivial
noncomputable def riObj (x left step : Int) : Obj := { cls := .type "range_iterator", dict := none, data := .fields #[rawInt x, rawInt left, rawInt step], slots := #[] }
theorem Keep.ofSame {a : Addr} {h h' : Heap} (hs : Heap.SameBut a h h') : Keep [a] h h' := fun b o n e => (hs.2 b (by simpa using n)).trans e
theorem Keep.ofExt {a : Addr} {h h' : Heap} (hs : Heap.ExtBut a h h') : Keep [a] h h' := fun b o n e => hs b o (by simpa using n) e
theorem Keep.push (D : List Addr) (h : Heap) (o : Obj) : Keep D h (h.push o) := fun b x n e => Heap.get?_push_of_some _ e
theorem nin1 {a b : Addr} (h : a ≠ b) : a ∉ [b] := fun q => h (List.mem_singleton.mp q)
theorem nin2 {a b c : Addr} (h : a ≠ b ∧ a ≠ c) : a ∉ [b, c] := fun q => (List.mem_cons.mp q).elim h.1 fun q => h.2 (List.mem_singleton.mp q)
theorem alln {α : Type} {P : α → Prop} : ∀ p ∈ ([] : List α), P p := fun p q => nomatch q
theorem allc {α : Type} {P : α → Prop} {a : α} {l : List α} (h : P a) (t : ∀ p ∈ l, P p) : ∀ p ∈ a :: l, P p := fun p q => by
  rcases List.mem_cons.mp q with rfl | q
  · exact h
  · exact t p q
theorem frKeep1 {h₀ h h' : Heap} {L I : Addr} {m : Str → Option Value} (F : Fr h₀ L h m) (hk : Keep [I] h h') (z : I ≠ L ∧ h₀.get? I = none) : Fr h₀ L h' m := frKeep F hk (nin1 z.1.symm) (allc z.2 alln)
theorem frKeep0 {h₀ h h' : Heap} {L : Addr} {m : Str → Option Value} (F : Fr h₀ L h m) (hk : Keep [] h h') : Fr h₀ L h' m := frKeep F hk (fun q => nomatch q) alln
theorem newsKeep {h₀ h h' : Heap} {L : Addr} {D : List Addr} {news : List (Addr × Obj)} (N : News h₀ L h news) (hk : Keep D h h') (hn : ∀ p ∈ news, p.1 ∉ D) : News h₀ L h' news :=
  fun p hp => ⟨hk _ _ (hn p hp) (N p hp).1, (N p hp).2⟩
theorem newsKeep0 {h₀ h h' : Heap} {L : Addr} {news : List (Addr × Obj)} (N : News h₀ L h news) (hk : Keep [] h h') : News h₀ L h' news := newsKeep N hk fun _ _ q => nomatch q
theorem newsCons {h₀ h : Heap} {L a : Addr} {o : Obj} {news : List (Addr × Obj)} (N : News h₀ L h news) (e : h.get? a = some o) (hL : a ≠ L) (h0 : h₀.get? a = none) : News h₀ L h ((a, o) :: news) := fun p hp => by
  rcases List.mem_cons.mp hp with rfl | hp
  · exact ⟨e, hL, h0⟩
  · exact N p hp
theorem newsTail {h₀ h : Heap} {L : Addr} {q : Addr × Obj} {news : List (Addr × Obj)} (N : News h₀ L h (q :: news)) : News h₀ L h news := fun p hp => N p (.tail _ hp)
theorem newsNew {h₀ h : Heap} {L : Addr} {m : Str → Option Value} {news : List (Addr × Obj)} (F : Fr h₀ L h m) (N : News h₀ L h news) (o : Obj) (hf : o.isFreed = false := by rfl) : News h₀ L (h.push o) ((h.objs.size, o) :: news) := N.push F o hf
theorem frNone {h₀ h : Heap} {L a : Addr} {m : Str → Option Value} (F : Fr h₀ L h m) (ha : L ≤ a) : h₀.get? a = none := Heap.get?_none_of_le (Nat.le_trans F.above ha)
theorem fresh_base {h₀ h : Heap} {L a : Addr} {m : Str → Option Value} (F : Fr h₀ L h m) (hn : h.get? a = none) : a ≠ L ∧ h₀.get? a = none := by
  constructor
  · rintro rfl
    refine oEEEA F.ns fun oL es ep hLo r => ?_
    rw [hn] at hLo; cases hLo
  · cases e : h₀.get? a with
    | none => rfl
    | some o => have := F.keep _ _ e; rw [hn] at this; cases this
theorem newsFresh {h₀ h h' : Heap} {L a : Addr} {m : Str → Option Value} {o : Obj} {news : List (Addr × Obj)} (F : Fr h₀ L h m) (hn : h.get? a = none) (e : h'.get? a = some o) (N : News h₀ L h' news) : News h₀ L h' ((a, o) :: news) :=
  newsCons N e (fresh_base F hn).1 (fresh_base F hn).2
theorem for_my {prog : Program} {w : World} {A : Around} {s : Shared} {Q : Flow → Shared → Prop} {E : Value → Shared → Prop} {target iter : Expr} {body : List Stmt} {pos : Pos} {env : Env} (J : Nat → Value → Shared → Prop)
    (h : wpAny (model prog w) A (eval iter env) (fun x s₁ => wpAny (model prog w) A (pyIter x) (fun it s₂ => Box (∃ n, J n it s₂)) E s₁) E s)
    (turn : ∀ n it s, J n it s → wpAny (model prog w) A (pyNext it) (fun r s₁ => match r with
      | none => Q .next s₁
      | some v => wpAny (model prog w) A (letOwnedTupleGo target it v) (fun _ s₁' => wpAny (model prog w) A (assign target env v) (fun _ s₂ => wpAny (model prog w) A (execs body env) (fun f s₃ => match f with
            | .next | .cont => Box (∃ m, m < n ∧ J m it s₃)
            | .brk => Q .next s₃
            | .ret v => Q (.ret v) s₃) (fun _ _ => False) s₂) (fun _ _ => False) s₁') (fun _ _ => False) s₁) (fun _ _ => False) s)
    (hs : ∀ x, foldedSetIterable iter env x = pure x := by intro _; rfl) :
    wpAny (model prog w) A (exec (.For target iter body [] pos) env) Q E s := by
  refine wpAny_For ?_ hs
  refine wpAny_mono h (fun x s₁ h₁ => wpAny_mono h₁ (fun it s₂ h₂ => ?_) fun _ _ x => x) fun _ _ x => x
  refine oE h₂.out fun n hJ => ?_
  refine codeAny_forLoop_any (fun n s => J n it s) (fun n s hI => ?_) n hJ
  refine wpAny_mono (turn n it s hI) (fun r s₁ h₁ => ?_) fun _ _ x => x.elim
  cases r with
  | none => exact wpAny_execs_nil h₁
  | some v =>
    refine wpAny_mono h₁ (fun _ s₂ h₂ => wpAny_mono h₂ (fun _ s₃ h₃ => wpAny_mono h₃ (fun f s₄ h₄ => ?_) fun _ _ x => x.elim) fun _ _ x => x.elim) fun _ _ x => x.elim
    cases f <;> first | exact h₄ | exact h₄.out
theorem cutV {α : Type} {M : Model} {A : Around} {s : Shared} {t : Sem α} {Q : α → Shared → Prop} {E : Value → Shared → Prop} {h₀ : Heap} {L : Addr} {m : Str → Option Value} (F : Fr h₀ L s.heap m) (P : α → Heap → Prop)
    (h : wpAny M A t (fun v s' => Box (∃ (h' : Heap) (tk' : Nat), s' = { s with heap := h', toks := tk' } ∧ Fr h₀ L h' m ∧ P v h')) E s) (k : ∀ (v : α) (h' : Heap) (tk' : Nat), Fr h₀ L h' m → P v h' → Q v { s with heap := h', toks := tk' }) : wpAny M A t Q E s :=
  wpAny_mono h (fun v s' hb => by refine oEEAA hb.out fun h' tk' q7803z2 F' p => ?_; obtain rfl := q7803z2; exact k v h' tk' F' p) fun _ _ x => x
theorem sub_at {prog : Program} {w : World} {A : Around} {E : Value → Shared → Prop} {s : Shared} {D : Addr} {value slice : Expr} {l : List Value} {n j : Nat} {k : Int} {u : Tok} {x : Value} {Q : Value → Shared → Prop}
    (hg0 : s.heap.get? D = some (listOf l.toArray n)) (hk : k = (j : Int)) (hx : l[j]? = some x) (hlen : l.length < 2 ^ 60) (h : Q x s)
    (hs : subscripted slice false (.ref D) (.int k u) = operate [.ref D, .int k u] (getItem (.ref D) (.int k u)) := by with_unfolding_all rfl) (hg : ∀ r, letTemporaryGo value (.ref D) r = pure () := by intro _; with_unfolding_all rfl) :
    wpAny (model prog w) A (subscriptTail value slice (.ref D) (.int k u)) Q E s := by
  have hj : j < l.length := by
    rcases Nat.lt_or_ge j l.length with q | q
    · exact q
    · rw [List.getElem?_eq_none q] at hx; cases hx
  subst hk
  exact item_listL (PySem.IsL.isList (n := n) hg0) (by lia) (by lia) (by simpa using hx) h hs hg
theorem for_myO {prog : Program} {w : World} {A : Around} {s : Shared} {Q : Flow → Shared → Prop} {E : Value → Shared → Prop} {target iter : Expr} {body : List Stmt} {pos : Pos} {env : Env} (J : Nat → Value → Shared → Prop)
    (h : wpAny (model prog w) A (eval iter env) (fun x s₁ => wpAny (model prog w) A (pyIter x) (fun it s₂ => Box (∃ n, J n it s₂)) E s₁) E s)
    (turn : ∀ n it s, J n it s → ∀ B : Shared → Prop, (∀ m s₃, m < n → J m it s₃ → B s₃) → wpAny (model prog w) A (pyNext it) (fun r s₁ => match r with
      | none => Q .next s₁
      | some v => wpAny (model prog w) A (letOwnedTupleGo target it v) (fun _ s₁' => wpAny (model prog w) A (assign target env v) (fun _ s₂ => wpAny (model prog w) A (execs body env) (fun f s₃ => match f with
            | .next | .cont => B s₃
            | .brk => Q .next s₃
            | .ret v => Q (.ret v) s₃) (fun _ _ => False) s₂) (fun _ _ => False) s₁') (fun _ _ => False) s₁) (fun _ _ => False) s)
    (hs : ∀ x, foldedSetIterable iter env x = pure x := by intro _; rfl) :
    wpAny (model prog w) A (exec (.For target iter body [] pos) env) Q E s :=
  for_my J h (fun n it s hj => turn n it s hj (fun s₃ => Box (∃ m, m < n ∧ J m it s₃)) fun m _ hm h => ⟨m, hm, h⟩) hs
theorem for_myC {prog : Program} {w : World} {A : Around} {s : Shared} {Q : Flow → Shared → Prop} {E : Value → Shared → Prop} {target iter : Expr} {body : List Stmt} {pos : Pos} {env : Env} (C : Nat → (Value → Shared → Prop) → Prop)
    (h : wpAny (model prog w) A (eval iter env) (fun x s₁ => wpAny (model prog w) A (pyIter x) (fun it s₂ => Box (∃ n, ∀ ZZ, C n ZZ → ZZ it s₂)) E s₁) E s)
    (turn : ∀ n, C n (fun it s => ∀ B : Shared → Prop, (∀ m s₃, m < n → (∀ ZZ, C m ZZ → ZZ it s₃) → B s₃) → wpAny (model prog w) A (pyNext it) (fun r s₁ => match r with
      | none => Q .next s₁
      | some v => wpAny (model prog w) A (letOwnedTupleGo target it v) (fun _ s₁' => wpAny (model prog w) A (assign target env v) (fun _ s₂ => wpAny (model prog w) A (execs body env) (fun f s₃ => match f with
            | .next | .cont => B s₃
            | .brk => Q .next s₃
            | .ret v => Q (.ret v) s₃) (fun _ _ => False) s₂) (fun _ _ => False) s₁') (fun _ _ => False) s₁) (fun _ _ => False) s))
    (hs : ∀ x, foldedSetIterable iter env x = pure x := by intro _; rfl) :
    wpAny (model prog w) A (exec (.For target iter body [] pos) env) Q E s :=
  for_myO (fun n it s => ∀ ZZ, C n ZZ → ZZ it s) h (fun n _ _ hj => hj _ (turn n)) hs
theorem cut {α : Type} {M : Model} {A : Around} {s : Shared} {t : Sem α} {Q : α → Shared → Prop} {E : Value → Shared → Prop} (P : α → Shared → Prop) (h : wpAny M A t P E s) (k : ∀ a s', P a s' → Q a s') : wpAny M A t Q E s := wpAny_mono h k fun _ _ x => x
theorem cutO {α : Type} {M : Model} {A : Around} {s : Shared} {t : Sem α} {Q : α → Shared → Prop} {E : Value → Shared → Prop} (P : α → Shared → Prop) (h : ∀ P' : α → Shared → Prop, (∀ a s', P a s' → P' a s') → wpAny M A t P' E s) (k : ∀ a s', P a s' → Q a s') : wpAny M A t Q E s := cut P (h P fun _ _ x => x) k
theorem cutC {α : Type} {M : Model} {A : Around} {s : Shared} {t : Sem α} {Q : α → Shared → Prop} {E : Value → Shared → Prop} (C : (α → Shared → Prop) → Prop) (h : ∀ P' : α → Shared → Prop, (∀ a s', (∀ ZZ, C ZZ → ZZ a s') → P' a s') → wpAny M A t P' E s) (k : C Q) : wpAny M A t Q E s := cutO (fun a s' => ∀ ZZ, C ZZ → ZZ a s') h (fun _ _ hj => hj _ k)
theorem letGo_name {M : Model} {A : Around} {s : Shared} {Q : Unit → Shared → Prop} {E : Value → Shared → Prop} {x : Str} {pos : Pos} {it v : Value} (h : Q () s) : wpAny M A (letOwnedTupleGo (.Name x pos) it v) Q E s := wpAny_of_eq (a := ()) rfl h
theorem ri_ext {x x' l l' st : Int} {it : Addr} {h : Heap} (hI : IsRangeIter h it x l st) (hx : x = x') (hl : l = l') : h.get? it = some (riObj x' l' st) := by subst hx hl; exact hI
theorem range_reversed_meets (r : Addr) (a b c : Int) (t u v : Tok) (hc0 : ¬ (!(Builtin.Range.rangeFitsLong a && Builtin.Range.rangeFitsLong b && Builtin.Range.rangeFitsLong c && Builtin.Range.rangeFitsLong (-c) && Builtin.Range.rangeFitsLong (a - c) && Builtin.Range.rangeFitsLong (Builtin.Range.rangeSize a b c))) = true) :
    Meets (Builtin.«range.__reversed__» ⟨[.ref r], []⟩) (fun _ R s => s.heap.get? r = some { cls := .type "range", dict := none, data := .fields #[.int a t, .int b u, .int c v], slots := #[] } ∧ R (.ok (.ret (Value.ref s.heap.objs.size))) { s with heap := s.heap.push { cls := Value.type (if (Builtin.Range.rangeFitsLong a && Builtin.Range.rangeFitsLong b && Builtin.Range.rangeFitsLong c && Builtin.Range.rangeFitsLong (-c) && Builtin.Range.rangeFitsLong (a - c) && Builtin.Range.rangeFitsLong (Builtin.Range.rangeSize a b c)) = true then "range_iterator" else "longrange_iterator"), data := Data.fields #[rawInt (a + (Builtin.Range.rangeSize a b c - 1) * c), rawInt (Builtin.Range.rangeSize a b c), rawInt (-c)] }, toks := s.toks }) :=
  .of_wp fun prog w A R s h => by obtain ⟨hp, g, d, tk, os⟩ := s; refine oA h fun hl h => ?_; wp_walk; exact ⟨_, rfl, h⟩
theorem sub_ri_reversed : isSubtype (.type "range_iterator") (.type "reversed") = pure false := by rw [isSubtype_type]; kernel_rfl
section
variable {prog : Program} {w : World} {A : Around} {E : Value → Shared → Prop} {s : Shared}
theorem rev_small {n : Int} (h0 : 0 ≤ n) (h1 : n < 2 ^ 60) : (Builtin.Range.rangeFitsLong 0 && Builtin.Range.rangeFitsLong n && Builtin.Range.rangeFitsLong 1 && Builtin.Range.rangeFitsLong (-1) && Builtin.Range.rangeFitsLong (0 - 1) && Builtin.Range.rangeFitsLong (Builtin.Range.rangeSize 0 n 1)) = true := by
  have e : Builtin.Range.rangeSize 0 n 1 = n := by rw [rangeSize_one]; split <;> lia
  rw [e]
  simp only [Builtin.Range.rangeFitsLong, Bool.and_eq_true, decide_eq_true_eq]
  lia
theorem call_reversed_range {r : Addr} {n : Int} {t u v : Tok} {Q : Value → Shared → Prop} (hr : IsRange s.heap r 0 n 1 t u v) (h0 : 0 ≤ n) (h1 : n < 2 ^ 60)
    (h : Q (.ref s.heap.objs.size) { s with heap := s.heap.push (riObj (n - 1) n (-1)) }) : wpAny (model prog w) A (call (.type "reversed") [.ref r]) Q E s := by
  have hT : ∀ s' : Shared, IsRange s'.heap r 0 n 1 t u v → s'.TypeIs (.ref r) "range" := fun s' x => ⟨_, x, rfl⟩
  refine callType_other (U := "range_iterator") (Q₁ := fun obj s₁ => obj = .ref s.heap.objs.size ∧ s₁ = { s with heap := s.heap.push (riObj (n - 1) n (-1)) }) (by decide +kernel) F.create_reversed ⟨_, _, F.mro_reversed⟩ F.made_reversed sub_ri_reversed (F.typeCall_reversed_1 _) ?_ ?_
  · refine codeAny_of_tree ?_
    show wpAny _ A.in1.in1 (do checkBuiltinCall "reversed.__new__" ⟨[.type "reversed", .ref r], []⟩; again (.builtin "reversed.__new__" ⟨[.type "reversed", .ref r], []⟩)) _ _ s
    refine wpAny_bind (wpAny_of_eq (F.newCall_reversed_1 _) (wpAny_pure ⟨plainId_quiet F.plain_reversed_new _, codeAny_builtin F.entry_reversed_new ?_⟩))
    rw [Around.under_plainId F.plain_reversed_new _]
    unfold Builtin.«reversed.__new__»
    refine wpAny_bind (wpAny_of_eq (newClass_reversed _) ?_)
    try dsimp only
    refine wpAny_bind (wpAny_of_eq (a := ()) (by first | rfl | kernel_rfl) ?_)
    refine wpAny_bind (wpAny_of_eq (a := ()) (by first | rfl | kernel_rfl) ?_)
    try dsimp only
    refine wpAny_bind (wpAny_specialOf (hT s hr) F.slot_range_reversed.lookup ?_)
    try dsimp only
    refine wpAny_bind (wpAny_of_eq (F.slot_range_reversed.bind _) ?_)
    try dsimp only
    first
    | rw [if_neg (show ¬ ((Value.builtin "range.__reversed__" == Value.none) = true) from Bool.false_ne_true)]
    | (show wpAny _ _ (if (Value.builtin "range.__reversed__" == Value.none) = true then _ else _) _ _ _; rw [if_neg (show ¬ ((Value.builtin "range.__reversed__" == Value.none) = true) from Bool.false_ne_true)])
    refine wpAny_bind (wpAny_rule ?_)
    have hsm := rev_small h0 h1
    have e : Builtin.Range.rangeSize 0 n 1 = n := by rw [rangeSize_one]; split <;> omega
    refine wpAny_bind (m := runValue (.call (.builtin "range.__reversed__") ⟨[.ref r], []⟩)) (show wpAny _ _ (call (.builtin "range.__reversed__") [.ref r]) _ _ _ from call_meets F.slot_range_reversed (hT s hr) F.entry_range_reversed (F.args_range_reversed_1 _) (range_reversed_meets r 0 n 1 t u v (by rw [hsm]; decide)) ⟨hr, ?_⟩)
    rw [hsm, e]
    have e2 : (0 : Int) + (n - 1) * 1 = n - 1 := by lia
    rw [e2]
    first
    | exact wpAny_pure ⟨rfl, rfl⟩
    | exact wpAny_bind (wpAny_pure (wpAny_pure ⟨rfl, rfl⟩))
  · rintro obj s₁ ⟨rfl, rfl⟩
    exact ⟨⟨_, Heap.get?_push_size _ rfl, rfl⟩, h⟩
end
end
-- part HP
section
open PySem PySem.W PyProof.Rows PySem.Calls
set_option maxRecDepth 100000
set_option maxHeartbeats 4000000
theorem fillHP : True := by
  w_top off
  trivial
section
variable {w : World} {A : Around} {s : Shared} {H : Heap} {G : PM} {p : Program} {loose : List Str} {mean : ExcName → Option Value} {mg mb : Str → Option Value} {Q E : Value → Shared → Prop}
    {D : Addr} {n : Nat}
noncomputable def HPI1 {α : Type} (s : Shared) (h₀ : Heap) (L' : Addr) (D : Addr) (l : List α) (f : α → Value) (n : Nat) (lt : α → α → Bool) (k : Nat) (ZZ : Value → Shared → Prop) : Prop := ∀ (I : Addr), ∀ (l' : List α), ∀ (h' : Heap), ∀ (tk' : Nat), ∀ (m : Str → Option Value), (I ≠ D) → (Fr h₀ L' h' m) → (News h₀ L' h' [(D, listOf (l'.map f).toArray n), (I, riObj ((k : Int) - 1) k (-1))]) → (m "x" = some (.ref D)) → (l'.length = l.length) → ((∀ v ∈ l', v ∈ l)) → (k ≤ l.length) → (heapDown lt k l' = heapDown lt (l.length / 2) l) → ZZ (.ref I) ({ s with heap := h', toks := tk' })
theorem heapify_ok {α : Type} [DecidableEq α] {f : α → Value} {l : List α} {lt : α → α → Bool}
    (X : (hd.heap_1 w.params).In H) (T : Top p loose mean mg mb H) (st : H.StaysIn s.heap) (hD : H.get? D = none) (hA : A.handled = none) (hu : A.units + 400 < cLine) (hroom : A.depth + 2 < recursionLimit)
    (hl : s.heap.get? D = some (listOf (l.map f).toArray n)) (hG : Sub G s.heap.get?) (hGD : G D = none) (hlen : l.length < 2 ^ 20)
    (hc : ∀ a ∈ l, ∀ b ∈ l, Cmp w G (f a) (f b) (lt a b))
    (hq : ∀ h' tk', Keep [D] s.heap h' → h'.get? D = some (listOf ((heapDown lt (l.length / 2) l).map f).toArray n) → Q .none { s with heap := h', toks := tk' }) :
    wpAny (model PySem.Challenge.rw_mq0320_01.row.prog w) A (call (.ref 42) [.ref D]) Q E s := by
  refine wpAny_call ?_
  have st' : H.StaysIn (hideAll s.heap [D]) := stays_hide st (by first | exact nin1 (hD) | exact nin2 (hD) | exact allc (hD) alln | simpa using hD)
  refine' callF [D] ?k6 ?k7 (X.keeps st) (T.nolimit.keeps st) (by first | exact room1 hroom | omega) ?k9 ?kB ?_ ?c5 ?c2 ?c3 ?c4
  case k6 => k_is
  case k7 => k_is
  case k9 => exact BindsTo.of_eq rfl
  case kB => exact locs rfl
  case c5 => decide
  case c2 => exact rfl
  case c3 => exact rfl
  case c4 => exact rfl
  intro L' h₁ F hk₁ hL
  have X' := X.keeps st'
  have T' := T.keeps st'
  have hG' : Sub G (hideAll s.heap [D]).get? := sub_hide hG (by first | exact nin1 (hGD) | exact nin2 (hGD) | exact allc (hGD) alln | simpa using hGD)
  have N' : News (hideAll s.heap [D]) L' h₁ [(D, listOf (l.map f).toArray n)] := fun p hp => by
    rw [List.mem_singleton.mp hp]
    exact ⟨hk₁ _ _ hl, by rw [hL]; exact Nat.ne_of_lt (Heap.lt_size hl), hideAll_none _ (.head _)⟩
  have hfin : ∀ h', (hideAll s.heap [D]).StaysIn h' → Keep [D] s.heap h' := fun h' q => keep_hide q
  clear X T
  dsimp only
  generalize hideAll s.heap [D] = h₀ at *
  walk_at "go"
  refine len_list (PySem.IsL.isList (n := n) (N' _ (.head _)).1) (by simp; lia) ?_
  walk_at "go"
  refine for_myC (HPI1 s h₀ L' D l f n lt) ?_ ?_
  · walk_at "go"
    rename Fr _ _ _ _ => F1
    rename News _ _ _ _ => N1
    have e2 : (((l.map f).toArray.size : Nat) : Int).fdiv 2 = ((l.length / 2 : Nat) : Int) := by
      rw [Int.fdiv_eq_ediv_of_nonneg _ (by decide)]; simp
    rw [e2]
    refine call_range_1 ?_
    walk_at "go"
    refine call_reversed_range (IsRange.new ..) (by lia) (by lia) ?_
    walk_at "go"
    refine wpAny_pyIter_rangeiter (Heap.get?_push_size _ rfl) ⟨l.length / 2, fun _ zz => zz _ l _ _ _ (?_) ((F1.push _).push _) (?_) rfl rfl (fun _ h => h) (by lia) rfl⟩
    · have hlt : D < _ := Heap.lt_size (N1 _ (.head _)).1
      intro e
      simp only [Heap.size_push] at e
      exact Nat.ne_of_gt (Nat.lt_succ_of_lt hlt) e
    · have N2 := (N1.push F1 { cls := .type "range", data := .fields #[.int 0 (tk + 1 + 1), .int ((l.length / 2 : Nat) : Int) (tk + 1), .int 1 (tk + 1 + 1 + 1)] }).push (F1.push _) (riObj (((l.length / 2 : Nat) : Int) - 1) ((l.length / 2 : Nat) : Int) (-1))
      intro p hp
      rcases List.mem_cons.mp hp with rfl | hp
      · exact N2 _ (.tail _ (.tail _ (.head _)))
      · rw [List.mem_singleton.mp hp]
        exact N2 _ (.head _)
  · intro k I l' h' tk' m hID F1 N1 m1 hl1 hl2 hl3 hl4
    intro Bz mkB
    have zI := N1 _ (.tail _ (.head _))
    have zD := N1 _ (.head _)
    rcases Nat.eq_zero_or_pos k with rfl | hk
    · refine wpAny_pyNext_range_end hA zI.1 (by simp) fun h2 hx => ?_
      have F2 := frKeep F1 (Keep.ofExt hx) (by first | exact nin1 (Ne.symm zI.2.1) | exact nin2 (Ne.symm zI.2.1) | exact allc (Ne.symm zI.2.1) alln | simpa using Ne.symm zI.2.1) (by first | exact nin1 (zI.2.2) | exact nin2 (zI.2.2) | exact allc (zI.2.2) alln | simpa using zI.2.2)
      walk_at "go"
      refine hq _ _ (hfin _ F2.keep) ?_
      rw [← hl4]
      exact Keep.ofExt hx _ _ (by first | exact nin1 (Ne.symm hID) | exact nin2 (Ne.symm hID) | exact allc (Ne.symm hID) alln | simpa using Ne.symm hID) zD.1
    · refine wpAny_pyNext_range_item zI.1 (by lia) fun h2 hI2 hx => ?_
      have F2 := frKeep F1 (Keep.ofSame hx) (by first | exact nin1 (Ne.symm zI.2.1) | exact nin2 (Ne.symm zI.2.1) | exact allc (Ne.symm zI.2.1) alln | simpa using Ne.symm zI.2.1) (by first | exact nin1 (zI.2.2) | exact nin2 (zI.2.2) | exact allc (zI.2.2) alln | simpa using zI.2.2)
      have N2 : News h₀ L' h2 [(D, listOf (l'.map f).toArray n), (I, riObj (((k - 1 : Nat) : Int) - 1) (k - 1 : Nat) (-1))] := by
        refine newsCons (newsCons (fun p hp => nomatch hp) ?_ zI.2.1 zI.2.2) (Keep.ofSame hx _ _ (by first | exact nin1 (Ne.symm hID) | exact nin2 (Ne.symm hID) | exact allc (Ne.symm hID) alln | simpa using Ne.symm hID) zD.1) zD.2.1 zD.2.2
        exact ri_ext hI2 (by lia) (by lia)
      have F3 := frKnown F2 [("x", .ref D)] (by first | exact allc m1 alln | simp [m1])
      clear F1 F2 N1
      dsimp only
      refine letGo_name (wpAny_assign_Name ?_)
      walk_at "go"
      rename Fr _ _ _ _ => F4
      rename News _ _ _ _ => N4
      have e3 : (k : Int) - 1 = ((k - 1 : Nat) : Int) := by omega
      rw [e3]
      refine siftup_ok (l := l') (f := f) (lt := lt) X' T' F4.keep zD.2.2 hA ?_ ?_ (N4 _ (.head _)).1 (fun b o e => F4.keep b o (hG' b o e)) hGD (by lia) (by omega) (fun a ha b hb => hc a (hl2 a ha) b (hl2 b hb)) ?_
      · show A.units + 3 + 300 < cLine; first | exact room3 hu (by decide) | omega
      · show A.depth + 1 + 1 < recursionLimit; first | exact room3 hroom (by decide) | omega
      intro h5 tk5 K5 e5
      have F5 := frKeep1 F4 K5 zD.2
      walk_at "go"
      refine mkB (k - 1) _ (by omega) (fun _ zz => zz I (siftupP lt l' (k - 1)) _ _ _ hID F5 (?_) rfl (?_) (?_) (by lia) (?_))
      · exact newsCons (newsCons (fun p hp => nomatch hp) (K5 _ _ (by first | exact nin1 (hID) | exact nin2 (hID) | exact allc (hID) alln | simpa using hID) (N4 _ (.tail _ (.head _))).1) zI.2.1 zI.2.2) e5 zD.2.1 zD.2.2
      · rw [siftupP_length]; exact hl1
      · intro v hv; exact hl2 v ((siftupP_perm l' (k - 1)).mem_iff.mp hv)
      · rw [← hl4]
        cases k with
        | zero => lia
        | succ k => rfl
end
end
-- part HQ
section
open PySem PySem.W PyProof.Rows PySem.Calls
set_option maxRecDepth 100000
set_option maxHeartbeats 4000000
theorem fillHQ : True := by
  w_top off
  trivial
section
variable {w : World} {A : Around} {s : Shared} {H : Heap} {G : PM} {p : Program} {loose : List Str} {mean : ExcName → Option Value} {mg mb : Str → Option Value} {Q E : Value → Shared → Prop}
    {D : Addr} {n : Nat}
noncomputable def HQI1 {α : Type} (s : Shared) (h₀ : Heap) (L' : Addr) (D : Addr) (l : List α) (f : α → Value) (n : Nat) (lt : α → α → Bool) (k : Nat) (ZZ : Value → Shared → Prop) : Prop := ∀ (I : Addr), ∀ (l' : List α), ∀ (h' : Heap), ∀ (tk' : Nat), ∀ (m : Str → Option Value), (I ≠ D) → (Fr h₀ L' h' m) → (News h₀ L' h' [(D, listOf (l'.map f).toArray n), (I, riObj ((k : Int) - 1) k (-1))]) → (m "x" = some (.ref D)) → (l'.length = l.length) → ((∀ v ∈ l', v ∈ l)) → (k ≤ l.length) → (heapDown (fun a b => lt b a) k l' = heapDown (fun a b => lt b a) (l.length / 2) l) → ZZ (.ref I) ({ s with heap := h', toks := tk' })
theorem heapify_max_ok {α : Type} [DecidableEq α] {f : α → Value} {l : List α} {lt : α → α → Bool}
    (X : (hd.heap_1 w.params).In H) (T : Top p loose mean mg mb H) (st : H.StaysIn s.heap) (hD : H.get? D = none) (hA : A.handled = none) (hu : A.units + 400 < cLine) (hroom : A.depth + 2 < recursionLimit)
    (hl : s.heap.get? D = some (listOf (l.map f).toArray n)) (hG : Sub G s.heap.get?) (hGD : G D = none) (hlen : l.length < 2 ^ 20)
    (hc : ∀ a ∈ l, ∀ b ∈ l, Cmp w G (f a) (f b) (lt a b))
    (hq : ∀ h' tk', Keep [D] s.heap h' → h'.get? D = some (listOf ((heapDown (fun a b => lt b a) (l.length / 2) l).map f).toArray n) → Q .none { s with heap := h', toks := tk' }) :
    wpAny (model PySem.Challenge.rw_mq0320_01.row.prog w) A (call (.ref 56) [.ref D]) Q E s := by
  refine wpAny_call ?_
  have st' : H.StaysIn (hideAll s.heap [D]) := stays_hide st (by first | exact nin1 (hD) | exact nin2 (hD) | exact allc (hD) alln | simpa using hD)
  refine' callF [D] ?k6 ?k7 (X.keeps st) (T.nolimit.keeps st) (by first | exact room1 hroom | lia) ?k9 ?kB ?_ ?c5 ?c2 ?c3 ?c4
  case k6 => k_is
  case k7 => k_is
  case k9 => exact BindsTo.of_eq rfl
  case kB => exact locs rfl
  case c5 => decide
  case c2 => exact rfl
  case c3 => exact rfl
  case c4 => exact rfl
  intro L' h₁ F hk₁ hL
  have X' := X.keeps st'
  have T' := T.keeps st'
  have hG' : Sub G (hideAll s.heap [D]).get? := sub_hide hG (by first | exact nin1 (hGD) | exact nin2 (hGD) | exact allc (hGD) alln | simpa using hGD)
  have N' : News (hideAll s.heap [D]) L' h₁ [(D, listOf (l.map f).toArray n)] := fun p hp => by
    rw [List.mem_singleton.mp hp]
    exact ⟨hk₁ _ _ hl, by rw [hL]; exact Nat.ne_of_lt (Heap.lt_size hl), hideAll_none _ (.head _)⟩
  have hfin : ∀ h', (hideAll s.heap [D]).StaysIn h' → Keep [D] s.heap h' := fun h' q => keep_hide q
  clear X T
  dsimp only
  generalize hideAll s.heap [D] = h₀ at *
  walk_at "go"
  refine len_list (PySem.IsL.isList (n := n) (N' _ (.head _)).1) (by simp; lia) ?_
  walk_at "go"
  refine for_myC (HQI1 s h₀ L' D l f n lt) ?_ ?_
  · walk_at "go"
    rename Fr _ _ _ _ => F1
    rename News _ _ _ _ => N1
    have e2 : (((l.map f).toArray.size : Nat) : Int).fdiv 2 = ((l.length / 2 : Nat) : Int) := by
      rw [Int.fdiv_eq_ediv_of_nonneg _ (by decide)]; simp
    rw [e2]
    refine call_range_1 ?_
    walk_at "go"
    refine call_reversed_range (IsRange.new ..) (by lia) (by lia) ?_
    walk_at "go"
    refine wpAny_pyIter_rangeiter (Heap.get?_push_size _ rfl) ⟨l.length / 2, fun _ zz => zz _ l _ _ _ (?_) ((F1.push _).push _) (?_) rfl rfl (fun _ h => h) (by lia) rfl⟩
    · have hlt : D < _ := Heap.lt_size (N1 _ (.head _)).1
      intro e
      simp only [Heap.size_push] at e
      exact Nat.ne_of_gt (Nat.lt_succ_of_lt hlt) e
    · have N2 := (N1.push F1 { cls := .type "range", data := .fields #[.int 0 (tk + 1 + 1), .int ((l.length / 2 : Nat) : Int) (tk + 1), .int 1 (tk + 1 + 1 + 1)] }).push (F1.push _) (riObj (((l.length / 2 : Nat) : Int) - 1) ((l.length / 2 : Nat) : Int) (-1))
      intro p hp
      rcases List.mem_cons.mp hp with rfl | hp
      · exact N2 _ (.tail _ (.tail _ (.head _)))
      · rw [List.mem_singleton.mp hp]
        exact N2 _ (.head _)
  · intro k I l' h' tk' m hID F1 N1 m1 hl1 hl2 hl3 hl4
    intro Bz mkB
    have zI := N1 _ (.tail _ (.head _))
    have zD := N1 _ (.head _)
    rcases Nat.eq_zero_or_pos k with rfl | hk
    · refine wpAny_pyNext_range_end hA zI.1 (by simp) fun h2 hx => ?_
      have F2 := frKeep F1 (Keep.ofExt hx) (by first | exact nin1 (Ne.symm zI.2.1) | exact nin2 (Ne.symm zI.2.1) | exact allc (Ne.symm zI.2.1) alln | simpa using Ne.symm zI.2.1) (by first | exact nin1 (zI.2.2) | exact nin2 (zI.2.2) | exact allc (zI.2.2) alln | simpa using zI.2.2)
      walk_at "go"
      refine hq _ _ (hfin _ F2.keep) ?_
      rw [← hl4]
      exact Keep.ofExt hx _ _ (by first | exact nin1 (Ne.symm hID) | exact nin2 (Ne.symm hID) | exact allc (Ne.symm hID) alln | simpa using Ne.symm hID) zD.1
    · refine wpAny_pyNext_range_item zI.1 (by lia) fun h2 hI2 hx => ?_
      have F2 := frKeep F1 (Keep.ofSame hx) (by first | exact nin1 (Ne.symm zI.2.1) | exact nin2 (Ne.symm zI.2.1) | exact allc (Ne.symm zI.2.1) alln | simpa using Ne.symm zI.2.1) (by first | exact nin1 (zI.2.2) | exact nin2 (zI.2.2) | exact allc (zI.2.2) alln | simpa using zI.2.2)
      have N2 : News h₀ L' h2 [(D, listOf (l'.map f).toArray n), (I, riObj (((k - 1 : Nat) : Int) - 1) (k - 1 : Nat) (-1))] := by
        refine newsCons (newsCons (fun p hp => nomatch hp) ?_ zI.2.1 zI.2.2) (Keep.ofSame hx _ _ (by first | exact nin1 (Ne.symm hID) | exact nin2 (Ne.symm hID) | exact allc (Ne.symm hID) alln | simpa using Ne.symm hID) zD.1) zD.2.1 zD.2.2
        exact ri_ext hI2 (by lia) (by lia)
      have F3 := frKnown F2 [("x", .ref D)] (by first | exact allc m1 alln | simp [m1])
      clear F1 F2 N1
      dsimp only
      refine letGo_name (wpAny_assign_Name ?_)
      walk_at "go"
      rename Fr _ _ _ _ => F4
      rename News _ _ _ _ => N4
      have e3 : (k : Int) - 1 = ((k - 1 : Nat) : Int) := by lia
      rw [e3]
      refine siftup_max_ok (l := l') (f := f) (lt := lt) X' T' F4.keep zD.2.2 hA ?_ ?_ (N4 _ (.head _)).1 (fun b o e => F4.keep b o (hG' b o e)) hGD (by lia) (by lia) (fun a ha b hb => hc a (hl2 a ha) b (hl2 b hb)) ?_
      · show A.units + 3 + 300 < cLine; first | exact room3 hu (by decide) | lia
      · show A.depth + 1 + 1 < recursionLimit; first | exact room3 hroom (by decide) | lia
      intro h5 tk5 K5 e5
      have F5 := frKeep1 F4 K5 zD.2
      walk_at "go"
      refine mkB (k - 1) _ (by lia) (fun _ zz => zz I (siftupP (fun a b => lt b a) l' (k - 1)) _ _ _ hID F5 (?_) rfl (?_) (?_) (by lia) (?_))
      · exact newsCons (newsCons (fun p hp => nomatch hp) (K5 _ _ (by first | exact nin1 (hID) | exact nin2 (hID) | exact allc (hID) alln | simpa using hID) (N4 _ (.tail _ (.head _))).1) zI.2.1 zI.2.2) e5 zD.2.1 zD.2.2
      · rw [siftupP_length]; exact hl1
      · intro v hv; exact hl2 v ((siftupP_perm l' (k - 1)).mem_iff.mp hv)
      · rw [← hl4]
        cases k with
        | zero => lia
        | succ k => rfl
theorem heapreplace_ok {α : Type} [DecidableEq α] {f : α → Value} {l : List α} {x : α} {lt : α → α → Bool} (hl0 : 0 < l.length)
    (X : (hd.heap_1 w.params).In H) (T : Top p loose mean mg mb H) (st : H.StaysIn s.heap) (hD : H.get? D = none) (hA : A.handled = none) (hu : A.units + 400 < cLine) (hroom : A.depth + 2 < recursionLimit)
    (hl : s.heap.get? D = some (listOf (l.map f).toArray n)) (hG : Sub G s.heap.get?) (hGD : G D = none) (hlen : l.length < 2 ^ 20)
    (hc : ∀ a ∈ x :: l, ∀ b ∈ x :: l, Cmp w G (f a) (f b) (lt a b))
    (hq : ∀ h' tk', Keep [D] s.heap h' → h'.get? D = some (listOf ((siftupP lt (l.set 0 x) 0).map f).toArray n) → Q (f l[0]) { s with heap := h', toks := tk' }) :
    wpAny (model PySem.Challenge.rw_mq0320_01.row.prog w) A (call (.ref 35) [.ref D, f x]) Q E s := by
  refine wpAny_call ?_
  have st' : H.StaysIn (hideAll s.heap [D]) := stays_hide st (by first | exact nin1 (hD) | exact nin2 (hD) | exact allc (hD) alln | simpa using hD)
  refine' callF [D] ?k6 ?k7 (X.keeps st) (T.nolimit.keeps st) (by first | exact room1 hroom | lia) ?k9 ?kB ?_ ?c5 ?c2 ?c3 ?c4
  case k6 => k_is
  case k7 => k_is
  case k9 => exact BindsTo.of_eq rfl
  case kB => exact locs rfl
  case c5 => decide
  case c2 => exact rfl
  case c3 => exact rfl
  case c4 => exact rfl
  intro L' h₁ F hk₁ hL
  have X' := X.keeps st'
  have T' := T.keeps st'
  have hG' : Sub G (hideAll s.heap [D]).get? := sub_hide hG (by first | exact nin1 (hGD) | exact nin2 (hGD) | exact allc (hGD) alln | simpa using hGD)
  have N' : News (hideAll s.heap [D]) L' h₁ [(D, listOf (l.map f).toArray n)] := fun p hp => by
    rw [List.mem_singleton.mp hp]
    exact ⟨hk₁ _ _ hl, by rw [hL]; exact Nat.ne_of_lt (Heap.lt_size hl), hideAll_none _ (.head _)⟩
  have hfin : ∀ h', (hideAll s.heap [D]).StaysIn h' → Keep [D] s.heap h' := fun h' q => keep_hide q
  clear X T
  dsimp only
  generalize hideAll s.heap [D] = h₀ at *
  walk_at "go"
  refine sub_list (x := f l[0]) (j := 0) N' (.head _) rfl (by simp [hl0]) (by simpa using by lia) ?_
  walk_at "go"
  rename Fr _ _ _ _ => F1
  rename News _ _ _ _ => N1
  refine set_list F1 N1 (by decide) (by first | exact nin1 (hl0) | exact nin2 (hl0) | exact allc (hl0) alln | simpa using hl0) (by simpa using by lia) ?_
  intro h2 F3 N3
  rw [← List.map_set] at N3
  walk_at "go"
  have hmem : ∀ a ∈ l.set 0 x, a ∈ x :: l := fun a ha => by
    rcases List.mem_or_eq_of_mem_set ha with e | e
    · exact .tail _ e
    · rw [e]; exact .head _
  refine siftup_ok (l := l.set 0 x) (f := f) (lt := lt) (ps := 0) X' T' F3.keep (N3 _ (.head _)).2.2 hA ?_ ?_ (N3 _ (.head _)).1 (fun b o e => F3.keep b o (hG' b o e)) hGD (by first | exact nin1 (hlen) | exact nin2 (hlen) | exact allc (hlen) alln | simpa using hlen) (by first | exact nin1 (hl0) | exact nin2 (hl0) | exact allc (hl0) alln | simpa using hl0) (fun a ha b hb => hc a (hmem a ha) b (hmem b hb)) ?_
  · show A.units + 3 + 300 < cLine; first | exact room3 hu (by decide) | lia
  · show A.depth + 1 + 1 < recursionLimit; first | exact room3 hroom (by decide) | lia
  intro h5 tk5 K5 e5
  have F5 := frKeep F3 K5 (by simpa using Ne.symm (N3 _ (.head _)).2.1) (by simpa using (N3 _ (.head _)).2.2)
  walk_at "go"
  exact hq _ _ ((hfin _ F3.keep).trans K5) e5
theorem heapreplace_max_ok {α : Type} [DecidableEq α] {f : α → Value} {l : List α} {x : α} {lt : α → α → Bool} (hl0 : 0 < l.length)
    (X : (hd.heap_1 w.params).In H) (T : Top p loose mean mg mb H) (st : H.StaysIn s.heap) (hD : H.get? D = none) (hA : A.handled = none) (hu : A.units + 400 < cLine) (hroom : A.depth + 2 < recursionLimit)
    (hl : s.heap.get? D = some (listOf (l.map f).toArray n)) (hG : Sub G s.heap.get?) (hGD : G D = none) (hlen : l.length < 2 ^ 20)
    (hc : ∀ a ∈ x :: l, ∀ b ∈ x :: l, Cmp w G (f a) (f b) (lt a b))
    (hq : ∀ h' tk', Keep [D] s.heap h' → h'.get? D = some (listOf ((siftupP (fun a b => lt b a) (l.set 0 x) 0).map f).toArray n) → Q (f l[0]) { s with heap := h', toks := tk' }) :
    wpAny (model PySem.Challenge.rw_mq0320_01.row.prog w) A (call (.ref 49) [.ref D, f x]) Q E s := by
  refine wpAny_call ?_
  have st' : H.StaysIn (hideAll s.heap [D]) := stays_hide st (by first | exact nin1 (hD) | exact nin2 (hD) | exact allc (hD) alln | simpa using hD)
  refine' callF [D] ?k6 ?k7 (X.keeps st) (T.nolimit.keeps st) (by first | exact room1 hroom | lia) ?k9 ?kB ?_ ?c5 ?c2 ?c3 ?c4
  case k6 => k_is
  case k7 => k_is
  case k9 => exact BindsTo.of_eq rfl
  case kB => exact locs rfl
  case c5 => decide
  case c2 => exact rfl
  case c3 => exact rfl
  case c4 => exact rfl
  intro L' h₁ F hk₁ hL
  have X' := X.keeps st'
  have T' := T.keeps st'
  have hG' : Sub G (hideAll s.heap [D]).get? := sub_hide hG (by first | exact nin1 (hGD) | exact nin2 (hGD) | exact allc (hGD) alln | simpa using hGD)
  have N' : News (hideAll s.heap [D]) L' h₁ [(D, listOf (l.map f).toArray n)] := fun p hp => by
    rw [List.mem_singleton.mp hp]
    exact ⟨hk₁ _ _ hl, by rw [hL]; exact Nat.ne_of_lt (Heap.lt_size hl), hideAll_none _ (.head _)⟩
  have hfin : ∀ h', (hideAll s.heap [D]).StaysIn h' → Keep [D] s.heap h' := fun h' q => keep_hide q
  clear X T
  dsimp only
  generalize hideAll s.heap [D] = h₀ at *
  walk_at "go"
  refine sub_list (x := f l[0]) (j := 0) N' (.head _) rfl (by simp [hl0]) (by simpa using by lia) ?_
  walk_at "go"
  rename Fr _ _ _ _ => F1
  rename News _ _ _ _ => N1
  refine set_list F1 N1 (by decide) (by first | exact nin1 (hl0) | exact nin2 (hl0) | exact allc (hl0) alln | simpa using hl0) (by simpa using by lia) ?_
  intro h2 F3 N3
  rw [← List.map_set] at N3
  walk_at "go"
  have hmem : ∀ a ∈ l.set 0 x, a ∈ x :: l := fun a ha => by
    rcases List.mem_or_eq_of_mem_set ha with e | e
    · exact .tail _ e
    · rw [e]; exact .head _
  refine siftup_max_ok (l := l.set 0 x) (f := f) (lt := lt) (ps := 0) X' T' F3.keep (N3 _ (.head _)).2.2 hA ?_ ?_ (N3 _ (.head _)).1 (fun b o e => F3.keep b o (hG' b o e)) hGD (by first | exact nin1 (hlen) | exact nin2 (hlen) | exact allc (hlen) alln | simpa using hlen) (by first | exact nin1 (hl0) | exact nin2 (hl0) | exact allc (hl0) alln | simpa using hl0) (fun a ha b hb => hc a (hmem a ha) b (hmem b hb)) ?_
  · show A.units + 3 + 300 < cLine; first | exact room3 hu (by decide) | lia
  · show A.depth + 1 + 1 < recursionLimit; first | exact room3 hroom (by decide) | lia
  intro h5 tk5 K5 e5
  have F5 := frKeep F3 K5 (by simpa using Ne.symm (N3 _ (.head _)).2.1) (by simpa using (N3 _ (.head _)).2.2)
  walk_at "go"
  exact hq _ _ ((hfin _ F3.keep).trans K5) e5
theorem heappush_ok {α : Type} [DecidableEq α] {f : α → Value} {l : List α} {x : α} {lt : α → α → Bool}
    (X : (hd.heap_1 w.params).In H) (T : Top p loose mean mg mb H) (st : H.StaysIn s.heap) (hD : H.get? D = none) (hA : A.handled = none) (hu : A.units + 400 < cLine) (hroom : A.depth + 2 < recursionLimit)
    (hl : s.heap.get? D = some (listOf (l.map f).toArray n)) (hG : Sub G s.heap.get?) (hGD : G D = none) (hlen : l.length + 1 < 2 ^ 20)
    (hc : ∀ a ∈ x :: l, ∀ b ∈ x :: l, Cmp w G (f a) (f b) (lt a b))
    (hq : ∀ h' tk' n', Keep [D] s.heap h' → h'.get? D = some (listOf ((sdLoop lt x 0 (l ++ [x]) l.length).map f).toArray n') → Q .none { s with heap := h', toks := tk' }) :
    wpAny (model PySem.Challenge.rw_mq0320_01.row.prog w) A (call (.ref 21) [.ref D, f x]) Q E s := by
  refine wpAny_call ?_
  have st' : H.StaysIn (hideAll s.heap [D]) := stays_hide st (by first | exact nin1 (hD) | exact nin2 (hD) | exact allc (hD) alln | simpa using hD)
  refine' callF [D] ?k6 ?k7 (X.keeps st) (T.nolimit.keeps st) (by first | exact room1 hroom | lia) ?k9 ?kB ?_ ?c5 ?c2 ?c3 ?c4
  case k6 => k_is
  case k7 => k_is
  case k9 => exact BindsTo.of_eq rfl
  case kB => exact locs rfl
  case c5 => decide
  case c2 => exact rfl
  case c3 => exact rfl
  case c4 => exact rfl
  intro L' h₁ F hk₁ hL
  have X' := X.keeps st'
  have T' := T.keeps st'
  have hG' : Sub G (hideAll s.heap [D]).get? := sub_hide hG (by first | exact nin1 (hGD) | exact nin2 (hGD) | exact allc (hGD) alln | simpa using hGD)
  have N' : News (hideAll s.heap [D]) L' h₁ [(D, listOf (l.map f).toArray n)] := fun p hp => by
    rw [List.mem_singleton.mp hp]
    exact ⟨hk₁ _ _ hl, by rw [hL]; exact Nat.ne_of_lt (Heap.lt_size hl), hideAll_none _ (.head _)⟩
  have hfin : ∀ h', (hideAll s.heap [D]).StaysIn h' → Keep [D] s.heap h' := fun h' q => keep_hide q
  clear X T
  dsimp only
  generalize hideAll s.heap [D] = h₀ at *
  walk_at "go"
  have zD := N' _ (.head _)
  refine append_at zD.1 (fun h2 hs ho => ?_) (by rw [sizeLine_eq]; simp; lia)
  have F2 := frKeep F (Keep.ofSame hs) (by first | exact nin1 (Ne.symm zD.2.1) | exact nin2 (Ne.symm zD.2.1) | exact allc (Ne.symm zD.2.1) alln | simpa using Ne.symm zD.2.1) (by first | exact nin1 (zD.2.2) | exact nin2 (zD.2.2) | exact allc (zD.2.2) alln | simpa using zD.2.2)
  have ho2 : h2.get? D = some (listOf ((l ++ [x]).map f).toArray (n + 1)) := by rw [ho]; simp
  have N2 := newsOne N' ho2
  clear F N'
  walk_at "go"
  refine len_list (PySem.IsL.isList (n := n + 1) (N2 _ (.head _)).1) (by simp; lia) ?_
  walk_at "go"
  have e0 : ((((l ++ [x]).map f).toArray.size : Nat) : Int) - 1 = (l.length : Int) := by simp
  rw [e0]
  have hmem : ∀ a ∈ l ++ [x], a ∈ x :: l := fun a ha => by simpa [or_comm] using ha
  refine siftdown_ok (l := l ++ [x]) (f := f) (lt := lt) (new := x) (sp := 0) X' T' F2.keep zD.2.2 hA ?_ ?_ (N2 _ (.head _)).1 (fun b o e => F2.keep b o (hG' b o e)) hGD (by simp; omega) (by simp) (by simp) (fun a ha b hb => hc a (hmem a ha) b (hmem b hb)) ?_
  · show A.units + 3 + 200 < cLine; first | exact room3 hu (by decide) | lia
  · show A.depth + 1 < recursionLimit; first | exact room2 hroom (by decide) | lia
  intro h5 tk5 K5 e5
  have F5 := frKeep1 F2 K5 zD.2
  walk_at "go"
  exact hq _ _ _ ((hfin _ F2.keep).trans K5) e5
theorem heappop_ok {α : Type} [DecidableEq α] {f : α → Value} {l : List α} {lt : α → α → Bool} (hl0 : 0 < l.length)
    (X : (hd.heap_1 w.params).In H) (T : Top p loose mean mg mb H) (st : H.StaysIn s.heap) (hD : H.get? D = none) (hA : A.handled = none) (hu : A.units + 400 < cLine) (hroom : A.depth + 2 < recursionLimit)
    (hl : s.heap.get? D = some (listOf (l.map f).toArray n)) (hG : Sub G s.heap.get?) (hGD : G D = none) (hlen : l.length < 2 ^ 20)
    (hc : ∀ a ∈ l, ∀ b ∈ l, Cmp w G (f a) (f b) (lt a b))
    (hq : ∀ h' tk' n', Keep [D] s.heap h' → h'.get? D = some (listOf ((popP lt l).map f).toArray n') → Q (f l[0]) { s with heap := h', toks := tk' }) :
    wpAny (model PySem.Challenge.rw_mq0320_01.row.prog w) A (call (.ref 28) [.ref D]) Q E s := by
  refine wpAny_call ?_
  have st' : H.StaysIn (hideAll s.heap [D]) := stays_hide st (by first | exact nin1 (hD) | exact nin2 (hD) | exact allc (hD) alln | simpa using hD)
  refine' callF [D] ?k6 ?k7 (X.keeps st) (T.nolimit.keeps st) (by first | exact room1 hroom | lia) ?k9 ?kB ?_ ?c5 ?c2 ?c3 ?c4
  case k6 => k_is
  case k7 => k_is
  case k9 => exact BindsTo.of_eq rfl
  case kB => exact locs rfl
  case c5 => decide
  case c2 => exact rfl
  case c3 => exact rfl
  case c4 => exact rfl
  intro L' h₁ F hk₁ hL
  have X' := X.keeps st'
  have T' := T.keeps st'
  have hG' : Sub G (hideAll s.heap [D]).get? := sub_hide hG (by first | exact nin1 (hGD) | exact nin2 (hGD) | exact allc (hGD) alln | simpa using hGD)
  have N' : News (hideAll s.heap [D]) L' h₁ [(D, listOf (l.map f).toArray n)] := fun p hp => by
    rw [List.mem_singleton.mp hp]
    exact ⟨hk₁ _ _ hl, by rw [hL]; exact Nat.ne_of_lt (Heap.lt_size hl), hideAll_none _ (.head _)⟩
  have hfin : ∀ h', (hideAll s.heap [D]).StaysIn h' → Keep [D] s.heap h' := fun h' q => keep_hide q
  clear X T
  dsimp only
  generalize hideAll s.heap [D] = h₀ at *
  refine oE (⟨l.dropLast, l.getLast (by intro e; rw [e] at hl0; cases hl0), (List.dropLast_concat_getLast _).symm⟩ : ∃ l' last, l = l' ++ [last]) fun l' q20994z1 => ?_; obtain ⟨last, rfl⟩ := q20994z1
  walk_at "go"
  refine kl_pop (news' := [(D, listOf (l'.map f).toArray (n + 1))]) F N' (p := l'.map f) (y := f last) (by simpa using kpa_last (f last) (l'.map f)) (.head (fun _ h => nomatch h)) (by rw [sizeLine_eq]; simp at hlen ⊢; lia) (fun h2 F2 N2 => ?_)
  walk_at "go"
  rename Fr _ _ _ _ => F3
  rename News _ _ _ _ => N3
  refine wpAny_truthy_list (PySem.IsL.isList (n := n + 1) (N3 _ (.head _)).1) (by simp at hlen ⊢; lia) ?_
  cases l' with
  | nil =>
    rw [show (!(List.map f ([] : List α)).toArray.isEmpty) = false from rfl]
    walk_at "go"
    exact hq _ _ (n + 1) (hfin _ F3.keep) (N3 _ (.head _)).1
  | cons y r =>
    rw [show (!(List.map f (y :: r)).toArray.isEmpty) = true by simp]
    walk_at "go"
    rename Fr _ _ _ _ => F4
    rename News _ _ _ _ => N4
    refine sub_list (x := f y) (j := 0) N4 (.head _) rfl (by simp) (by simp at hlen ⊢; lia) ?_
    walk_at "go"
    rename Fr _ _ _ _ => F5
    rename News _ _ _ _ => N5
    refine set_list F5 N5 (by decide) (by simp) (by simp at hlen ⊢; lia) ?_
    intro h6 F6 N6
    have N7 : News h₀ L' h6 [(D, listOf ((last :: r).map f).toArray (n + 1))] := N6
    clear N6
    walk_at "go"
    have hmem : ∀ a ∈ last :: r, a ∈ y :: r ++ [last] := fun a ha => by
      rcases List.mem_cons.mp ha with e | e
      · simp [e]
      · simp [e]
    refine siftup_ok (l := last :: r) (f := f) (lt := lt) (ps := 0) X' T' F6.keep (N7 _ (.head _)).2.2 hA ?_ ?_ (N7 _ (.head _)).1 (fun b o e => F6.keep b o (hG' b o e)) hGD (by simp at hlen ⊢; lia) (by simp) (fun a ha b hb => hc a (hmem a ha) b (hmem b hb)) ?_
    · show A.units + 3 + 300 < cLine; first | exact room3 hu (by decide) | lia
    · show A.depth + 1 + 1 < recursionLimit; first | exact room3 hroom (by decide) | lia
    intro h8 tk8 K8 e8
    have F8 := frKeep F6 K8 (by simpa using Ne.symm (N7 _ (.head _)).2.1) (by simpa using (N7 _ (.head _)).2.2)
    walk_at "go"
    refine hq _ _ (n + 1) ((hfin _ F6.keep).trans K8) ?_
    rw [e8, popP_snoc]
end
end
-- part Cmp
section
open PySem PySem.W PyProof.Rows PySem.Calls PySem.SeqAt
open PySem.AutoSeq1 (wpAny_loadPart')
open PySem.MeetsSeq PySem.MeetsSeq2 PySem.MeetsSeq3
set_option maxRecDepth 100000
set_option maxHeartbeats 4000000
noncomputable def lex : List (Bool × Bool) → Bool
  | [] => false
  | (e, c) :: r => if e then lex r else c
noncomputable def LtAt (A : Around) (s : Shared) (y x : Value) (b : Bool) : Prop :=
  ∀ (prog : Program) (w : World) (E : Value → Shared → Prop) (Q : Value → Shared → Prop), Q (.bool b) s → wpAny (model prog w) A (richCompare .Lt y x) Q E s
section
variable {A : Around} {s : Shared}
theorem EqAt.float {p q : UInt64} {t u : Tok} (ht : t ≠ 0) (hu : u ≠ 0) (htu : t = u → p = q) (hn : feq p p = true) (nb : NoneBooked s.heap) : EqAt A s (.float p t) (.float q u) (feq p q) := fun prog w E Q h => by
  have hrc : wpAny (model prog w) A (do truthOfDropped (← richCompare .Eq (.float p t) (.float q u))) Q E s :=
    wpAny_bind (show wpAny (model prog w) A (compareOp .Eq (.float p t) (.float q u)) _ E s from AutoFloatOps.eq_0 (wpAny_truthy_bool h))
  unfold eqBool
  refine wpAny_holding ?_
  refine wpAny_ite_split (fun hab => ?_) (fun hab => ?_)
  · have := eq_of_beq hab
    injection this with h1 h2
    subst h1
    rw [hn] at h
    exact wpAny_bind (wpAny_rule (wpAny_pure h))
  · dsimp only
    refine wpAny_bind ?_
    show wpAny _ A (isSame.created (p == q && !Float64.isNaN p) t u) _ E s
    unfold isSame.created
    refine wpAny_ite ?_
    split
    · rename_i h0; simp [ht, hu] at h0
    refine wpAny_ite ?_
    split
    · rename_i h0
      have h1 := eq_of_beq h0
      have h2 := htu h1
      subst h1 h2
      exact absurd (beq_self_eq_true _) hab
    refine wpAny_ite ?_
    split
    · refine wpAny_pure ?_
      simp only [Bool.false_eq_true, if_false]
      exact hrc
    · rename_i hpq
      have hpq' : p = q := by simp at hpq; exact hpq.1
      subst hpq'
      rw [hn] at h
      refine wpAny_bind (wpAny_sharingNotTold_none nb ?_)
      first | rw [if_neg Bool.false_ne_true] | simp only [Bool.false_eq_true, if_false]
      refine wpAny_bind (wpAny_sharingNotTold_none nb ?_)
      first | rw [if_neg Bool.false_ne_true] | simp only [Bool.false_eq_true, if_false]
      refine wpAny_bind (wpAny_rule (wpAny_bind (wpAny_askSetting (wpAny_pure ?_))))
      refine wpAny_ite ?_
      split
      · exact wpAny_pure h
      · exact hrc
theorem LtAt.float {p q : UInt64} {t u : Tok} : LtAt A s (.float p t) (.float q u) (flt p q) := fun prog w E Q h =>
  show wpAny (model prog w) A (compareOp .Lt (.float p t) (.float q u)) Q E s from AutoFloatOps.lt_0 h
theorem LtAt.int {p q : Int} {t u : Tok} : LtAt A s (.int p t) (.int q u) (decide (p < q)) := fun prog w E Q h =>
  show wpAny (model prog w) A (compareOp .Lt (.int p t) (.int q u)) Q E s from lt_int h
end
theorem lt_loopAt (l b : Addr) (items items2 : Array Value) (n n2 : Nat) (dd dd2 : Option Addr) (sl sl2 : Array (Option Value)) (hsz : items.size = items2.size) (e c : Nat → Bool) (k : Nat) :
    ∀ i : Nat, items.size - i = k → Meets (Builtin.«list.__eq__.loop» ⟨[.ref l, .ref b, rawInt i, rawInt 0], []⟩)
      (fun A R s => s.heap.get? l = some { cls := .type "list", dict := dd, data := .seq items n, slots := sl } ∧ s.heap.get? b = some { cls := .type "list", dict := dd2, data := .seq items2 n2, slots := sl2 } ∧
        (∀ j (h1 : j < items.size) (h2 : j < items2.size), EqAt A.in1 s items[j] items2[j] (e j)) ∧ (∀ j (h1 : j < items.size) (h2 : j < items2.size), LtAt A.in1 s items[j] items2[j] (c j)) ∧
        R (.ok (.ret (.bool (lex (((List.range items.size).drop i).map fun j => (e j, c j)))))) s) := by
  induction k with
  | zero =>
    intro i hk prog w A R s h
    obtain ⟨hp, g, d, tk, os⟩ := s; refine oAAAA h fun hl hb he hc h => ?_
    wp_walk using wpAny_loadPart' hl, wpAny_loadPart' hb
    have hi1 : items[((i : Nat) : Int).toNat]? = none := by simp; omega
    have hi2 : items2[((i : Nat) : Int).toNat]? = none := by simp; omega
    have hd : (List.range items.size).drop i = [] := by simp; omega
    rw [hd] at h
    rw [hi1, hi2]
    wp_walk using wpAny_loadPart' hl, wpAny_loadPart' hb
    show R (.ok (.ret (.bool (decide (items.size < items2.size))))) _
    rw [hsz]
    simpa [lex] using h
  | succ k ih =>
    intro i hk prog w A R s h
    obtain ⟨hp, g, d, tk, os⟩ := s; refine oAAAA h fun hl hb he hc h => ?_
    wp_walk using wpAny_loadPart' hl, wpAny_loadPart' hb
    have hlt : i < items.size := by omega
    have hlt2 : i < items2.size := by omega
    have hi1 : items[((i : Nat) : Int).toNat]? = some items[i] := by simp [hlt]
    have hi2 : items2[((i : Nat) : Int).toNat]? = some items2[i] := by simp [hlt2]
    have hd : (List.range items.size).drop i = i :: (List.range items.size).drop (i + 1) := by simp [List.drop_eq_getElem_cons, hlt]
    have hc1 : ((i : Int) + 1) = ((i + 1 : Nat) : Int) := by push_cast; rfl
    rw [hd, List.map_cons, lex] at h
    rw [hi1, hi2]
    refine wpAny_bind (he i hlt hlt2 prog w _ _ ?_)
    cases hb' : e i with
    | true =>
      rw [hb'] at h
      wp_walk
      rw [hc1]
      exact ⟨plainId_quiet plain_eq_loop _, codeAny_builtin entry_eq_loop (by
        rw [Around.under_plainId plain_eq_loop _]
        exact ih (i + 1) (by omega) prog w A R _ ⟨hl, hb, he, hc, by simpa using h⟩)⟩
    | false =>
      rw [hb'] at h
      wp_walk using wpAny_loadPart' hl, wpAny_loadPart' hb
      rw [hi1, hi2]
      refine wpAny_bind (hc i hlt hlt2 prog w _ _ ?_)
      wp_walk
      simpa using h
theorem list_ltAt (l b : Addr) (items items2 : Array Value) (n n2 : Nat) (dd dd2 : Option Addr) (sl sl2 : Array (Option Value)) (hsz : items.size = items2.size) (e c : Nat → Bool) :
    Meets (Builtin.«list.__lt__» ⟨[.ref l, .ref b], []⟩)
      (fun A R s => s.heap.get? l = some { cls := .type "list", dict := dd, data := .seq items n, slots := sl } ∧ s.heap.get? b = some { cls := .type "list", dict := dd2, data := .seq items2 n2, slots := sl2 } ∧
        (∀ j (h1 : j < items.size) (h2 : j < items2.size), EqAt A.in1 s items[j] items2[j] (e j)) ∧ (∀ j (h1 : j < items.size) (h2 : j < items2.size), LtAt A.in1 s items[j] items2[j] (c j)) ∧
        R (.ok (.ret (.bool (lex ((List.range items.size).map fun j => (e j, c j)))))) s) := by
  intro prog w A R s h
  obtain ⟨hp, g, d, tk, os⟩ := s; refine oAAAA h fun hl hb he hc h => ?_
  have f3 := AutoSeq1.sub_list_list
  wp_walk using wpAny_loadPart' hl, wpAny_loadPart' hb
  exact ⟨plainId_quiet plain_eq_loop _, codeAny_builtin entry_eq_loop (by
    rw [Around.under_plainId plain_eq_loop _]
    exact lt_loopAt l b items items2 n n2 dd dd2 sl sl2 hsz e c _ 0 rfl prog w A R _ ⟨hl, hb, he, hc, by simpa using h⟩)⟩
theorem tuple_ltAt (l b : Addr) (items items2 : Array Value) (n n2 : Nat) (dd dd2 : Option Addr) (sl sl2 : Array (Option Value)) (hsz : items.size = items2.size) (e c : Nat → Bool) :
    Meets (Builtin.«tuple.__lt__» ⟨[.ref l, .ref b], []⟩)
      (fun A R s => s.heap.get? l = some { cls := .type "tuple", dict := dd, data := .seq items n, slots := sl } ∧ s.heap.get? b = some { cls := .type "tuple", dict := dd2, data := .seq items2 n2, slots := sl2 } ∧
        (∀ j (h1 : j < items.size) (h2 : j < items2.size), (∀ i, i < j → e i = true) → EqAt A.in1 s items[j] items2[j] (e j)) ∧ (∀ j (h1 : j < items.size) (h2 : j < items2.size), (∀ i, i < j → e i = true) → e j = false → LtAt A.in1 s items[j] items2[j] (c j)) ∧
        R (.ok (.ret (.bool (lex ((List.range items.size).map fun j => (e j, c j)))))) s) :=
  .of_wp fun prog w A R s h => by
    obtain ⟨hp, g, d, tk, os⟩ := s; refine oAAAA h fun hl hb he hc h => ?_
    have f2 := AutoSeq1.sub_tuple_tuple
    have hZ : (items.toList.zip items2.toList).length = items.size := by simp [hsz]
    wp_walk using wpAny_loadPart' hl, wpAny_loadPart' hb, wpAny_forIn_list _ (fun rest b s' => b.1 = none ∧ s' = ⟨hp, g, d, tk, os⟩ ∧ ∃ i, rest = (items.toList.zip items2.toList).drop i ∧ (∀ j, j < i → e j = true) ∧
      R (.ok (.ret (.bool (lex (((List.range items.size).drop i).map fun j => (e j, c j)))))) ⟨hp, g, d, tk, os⟩) _
    case turn =>
      rintro ⟨y, x⟩ rest b s' ⟨hb', rfl, i, hz, hev, hR⟩
      have hlt : i < (items.toList.zip items2.toList).length := by
        rcases Nat.lt_or_ge i (items.toList.zip items2.toList).length with h' | h'
        · exact h'
        · rw [List.drop_of_length_le h'] at hz; cases hz
      have h1 : i < items.size := hZ ▸ hlt
      have h2 : i < items2.size := hsz ▸ h1
      rw [List.drop_eq_getElem_cons hlt] at hz
      injection hz with hyx hrest
      have hy : y = items[i] := by have := congrArg Prod.fst hyx; simpa using this
      have hx : x = items2[i] := by have := congrArg Prod.snd hyx; simpa using this
      subst hy hx
      have hd : (List.range items.size).drop i = i :: (List.range items.size).drop (i + 1) := by simp [List.drop_eq_getElem_cons, h1]
      rw [hd, List.map_cons, lex] at hR
      refine wpAny_bind (he i h1 h2 hev prog w _ _ ?_)
      cases hy : e i with
      | true =>
        rw [hy] at hR
        wp_walk
        exact ⟨rfl, rfl, i + 1, hrest, fun j hj => by rcases Nat.lt_succ_iff_lt_or_eq.mp hj with q | q; exact hev j q; rw [q]; exact hy, by simpa using hR⟩
      | false =>
        rw [hy] at hR
        rw [if_pos (show (!false) = true from rfl)]
        dsimp only
        refine wpAny_bind (wpAny_rule (wpAny_bind (hc i h1 h2 hev hy prog w _ _ ?_)))
        wp_walk
        exact ⟨_, rfl, by simpa using hR⟩
    case fin =>
      rintro ⟨b1, b2⟩ s' ⟨hb', rfl, i, hz, hev, hR⟩
      simp only at hb'
      subst hb'
      have hge : items.size ≤ i := by
        rcases Nat.lt_or_ge i (items.toList.zip items2.toList).length with h' | h'
        · rw [List.drop_eq_getElem_cons h'] at hz; cases hz
        · exact hZ ▸ h'
      rw [List.drop_of_length_le (by first | exact nin1 (hge) | exact nin2 (hge) | exact allc (hge) alln | simpa using hge)] at hR
      wp_walk
      exact ⟨_, rfl, by simpa [Builtin.Tuple.tupleCompareSizes, lex, hsz] using hR⟩
    case h =>
      exact ⟨rfl, rfl, 0, rfl, fun j hj => absurd hj (Nat.not_lt_zero _), by simpa using h⟩
section
variable {A : Around} {s : Shared}
theorem LtAt.lists {l b : Addr} {items items2 : Array Value} {e c : Nat → Bool} (hl : s.heap.IsList l items) (hb : s.heap.IsList b items2) (hsz : items.size = items2.size) (hu : A.units < cLine)
    (he : ∀ j (h1 : j < items.size) (h2 : j < items2.size), EqAt A.in1 s items[j] items2[j] (e j)) (hc : ∀ j (h1 : j < items.size) (h2 : j < items2.size), LtAt A.in1 s items[j] items2[j] (c j)) :
    LtAt A s (.ref l) (.ref b) (lex ((List.range items.size).map fun j => (e j, c j))) := fun prog w E Q h => by
  refine oEAAE (id hl) fun q11023z0 ho hcl n hd => ?_; obtain ⟨cls, dd, data, sl⟩ := q11023z0
  refine oEAAE (id hb) fun q11087z0 ho2 hc2 n2 hd2 => ?_; obtain ⟨cls2, dd2, data2, sl2⟩ := q11087z0
  simp only at hcl hd hc2 hd2
  subst hcl hd hc2 hd2
  exact richCompare_meets_room (op := .Lt) ⟨_, ho, rfl⟩ ⟨_, ho2, rfl⟩ F.slot_list_lt F.entry_list_lt (F.args_list_lt_2 _ _) (list_ltAt l b items items2 n n2 dd dd2 sl sl2 hsz e c)
    ⟨ho, ho2, he, hc, show Value.bool _ ≠ Value.notImplemented ∧ Q (.bool _) s from ⟨(fun x => nomatch x), h⟩⟩ hu
theorem LtAt.tuples {l b : Addr} {items items2 : Array Value} {e c : Nat → Bool} (hl : s.heap.IsTuple l items) (hb : s.heap.IsTuple b items2) (hsz : items.size = items2.size) (hu : A.units < cLine)
    (he : ∀ j (h1 : j < items.size) (h2 : j < items2.size), (∀ i, i < j → e i = true) → EqAt A.in1 s items[j] items2[j] (e j)) (hc : ∀ j (h1 : j < items.size) (h2 : j < items2.size), (∀ i, i < j → e i = true) → e j = false → LtAt A.in1 s items[j] items2[j] (c j)) :
    LtAt A s (.ref l) (.ref b) (lex ((List.range items.size).map fun j => (e j, c j))) := fun prog w E Q h => by
  refine oEAAE (id hl) fun q12122z0 ho hcl n hd => ?_; obtain ⟨cls, dd, data, sl⟩ := q12122z0
  refine oEAAE (id hb) fun q12186z0 ho2 hc2 n2 hd2 => ?_; obtain ⟨cls2, dd2, data2, sl2⟩ := q12186z0
  simp only at hcl hd hc2 hd2
  subst hcl hd hc2 hd2
  exact richCompare_meets_room (op := .Lt) ⟨_, ho, rfl⟩ ⟨_, ho2, rfl⟩ F.slot_tuple_lt F.entry_tuple_lt (F.args_tuple_lt_2 _ _) (tuple_ltAt l b items items2 n n2 dd dd2 sl sl2 hsz e c)
    ⟨ho, ho2, he, hc, show Value.bool _ ≠ Value.notImplemented ∧ Q (.bool _) s from ⟨(fun x => nomatch x), h⟩⟩ hu
end
end
-- part Ent
section
open PySem PySem.W PyProof.Rows PySem.Calls PySem.SeqAt
set_option maxRecDepth 100000
set_option maxHeartbeats 4000000
noncomputable abbrev Key := List (UInt64 × Tok)
noncomputable def kvals (k : Key) : List Value := k.map fun p => .float p.1 p.2
noncomputable abbrev bits (k : Key) : List UInt64 := k.map (·.1)
noncomputable def KeyAt (G : PM) (v : Value) (k : Key) : Prop := ∃ a n, v = .ref a ∧ G a = some (listOf (kvals k).toArray n)
noncomputable def KOk (k : Key) : Prop := ∀ p ∈ k, p.2 ≠ 0 ∧ feq p.1 p.1 = true
noncomputable def Compat (k k' : Key) : Prop := ∀ p ∈ k, ∀ q ∈ k', p.2 = q.2 → p.1 = q.1
noncomputable def kLt (a b : List UInt64) : Bool := lex ((List.range a.length).map fun j => (feq (a.getD j 0) (b.getD j 0), flt (a.getD j 0) (b.getD j 0)))
noncomputable def kEq (a b : List UInt64) : Bool := (List.range a.length).all fun j => feq (a.getD j 0) (b.getD j 0)
noncomputable def Stat (G : PM) : Prop := G cStatics = some { cls := Value.none, data := Data.dict #[] }
theorem booked {G : PM} {h : Heap} (hS : Stat G) (hG : Sub G h.get?) : NoneBooked h :=
  ⟨fun _ => none, ⟨_, #[], 0, hG _ _ hS, rfl, fun _ he => by simp at he, fun _ => rfl⟩, rfl⟩
theorem KeyAt.mono {G G' : PM} {v : Value} {k : Key} (h : KeyAt G v k) (s : Sub G G') : KeyAt G' v k := let ⟨a, n, e, g⟩ := h; ⟨a, n, e, s _ _ g⟩
theorem kv_get {k : Key} {j : Nat} (h : j < (kvals k).toArray.size) : ∃ p, p ∈ k ∧ (kvals k).toArray[j] = .float p.1 p.2 ∧ p.1 = (bits k).getD j 0 ∧ k[j]? = some p := by
  have hj : j < k.length := by simpa [kvals] using h
  refine ⟨k[j], List.getElem_mem hj, by simp [kvals], ?_, List.getElem?_eq_getElem hj⟩
  simp [bits, hj]
theorem kvals_size (k : Key) : (kvals k).toArray.size = k.length := by simp [kvals]
theorem kvals_inj : ∀ {k k' : Key}, kvals k = kvals k' → k = k'
  | [], [], _ => rfl
  | [], _ :: _, h => by simp [kvals] at h
  | _ :: _, [], h => by simp [kvals] at h
  | (a, t) :: k, (b, u) :: k', h => by
    simp only [kvals, List.map_cons, List.cons.injEq, Value.float.injEq] at h
    refine oA h fun q2301z0 h' => ?_; clear h; obtain ⟨rfl, rfl⟩ := q2301z0
    rw [kvals_inj (k := k) (k' := k') h']
section
variable {A : Around} {s : Shared} {G : PM} {v v' : Value} {k k' : Key}
theorem key_items_eq (hk : KOk k) (hk' : KOk k') (hc : Compat k k') (nb : NoneBooked s.heap) :
    ∀ j (h1 : j < (kvals k).toArray.size) (h2 : j < (kvals k').toArray.size), EqAt A s (kvals k).toArray[j] (kvals k').toArray[j] (feq ((bits k).getD j 0) ((bits k').getD j 0)) := by
  intro j h1 h2
  refine oEAAA (kv_get h1) fun p hp e1 e2 _ => ?_
  refine oEAAA (kv_get h2) fun q hq e3 e4 _ => ?_
  rw [e1, e3, ← e2, ← e4]
  exact EqAt.float (hk p hp).1 (hk' q hq).1 (hc p hp q hq) (hk p hp).2 nb
theorem key_items_lt : ∀ j (h1 : j < (kvals k).toArray.size) (h2 : j < (kvals k').toArray.size), LtAt A s (kvals k).toArray[j] (kvals k').toArray[j] (flt ((bits k).getD j 0) ((bits k').getD j 0)) := by
  intro j h1 h2
  refine oEAAA (kv_get h1) fun p hp e1 e2 _ => ?_
  refine oEAAA (kv_get h2) fun q hq e3 e4 _ => ?_
  rw [e1, e3, ← e2, ← e4]
  exact LtAt.float
theorem kEq_self (hk : KOk k) : kEq (bits k) (bits k) = true := by
  unfold kEq
  rw [List.all_eq_true]
  intro j hj
  have hj' : j < k.length := by simpa using hj
  simp only [bits, List.getD_eq_getElem?_getD, List.getElem?_map, List.getElem?_eq_getElem hj', Option.map_some, Option.getD_some]
  exact (hk _ (List.getElem_mem hj')).2
theorem eqKey (hG : Sub G s.heap.get?) (hS : Stat G) (h1 : KeyAt G v k) (h2 : KeyAt G v' k') (hk : KOk k) (hk' : KOk k') (hc : Compat k k') (hl : k.length = k'.length) (hu : A.units + 10 < cLine) : EqAt A s v v' (kEq (bits k) (bits k')) := by
  refine oEEA h1 fun a n q3888z2 g1 => ?_; (try clear h1); obtain rfl := q3888z2
  refine oEEA h2 fun b n' q3923z2 g2 => ?_; (try clear h2); obtain rfl := q3923z2
  by_cases hab : a = b
  · subst hab
    rw [g1] at g2
    have e : kvals k = kvals k' := by
      have := congrArg (fun o : Option Obj => match o with | some ⟨_, _, .seq xs _, _⟩ => xs | _ => #[]) g2
      simpa using this
    have e2 := kvals_inj e
    subst e2
    rw [kEq_self hk]
    exact EqAt.same _
  · have := RcAt.lists (A := A) (s := s) (PySem.IsL.isList (n := n) (hG _ _ g1)) (PySem.IsL.isList (n := n') (hG _ _ g2)) (by rw [kvals_size, kvals_size, hl]) (by lia) (key_items_eq hk hk' hc (booked hS hG))
    refine EqAt.of_refs hab ?_
    rw [kvals_size] at this
    unfold kEq
    simpa [bits] using this
theorem ltKey (hG : Sub G s.heap.get?) (hS : Stat G) (h1 : KeyAt G v k) (h2 : KeyAt G v' k') (hk : KOk k) (hk' : KOk k') (hc : Compat k k') (hl : k.length = k'.length) (hu : A.units + 10 < cLine) : LtAt A s v v' (kLt (bits k) (bits k')) := by
  refine oEEA h1 fun a n q4827z2 g1 => ?_; (try clear h1); obtain rfl := q4827z2
  refine oEEA h2 fun b n' q4862z2 g2 => ?_; (try clear h2); obtain rfl := q4862z2
  have := LtAt.lists (A := A) (s := s) (PySem.IsL.isList (n := n) (hG _ _ g1)) (PySem.IsL.isList (n := n') (hG _ _ g2)) (by rw [kvals_size, kvals_size, hl]) (by omega) (key_items_eq hk hk' hc (booked hS hG)) key_items_lt
  rw [kvals_size] at this
  unfold kLt
  simpa [bits] using this
end
noncomputable def EntAt (G : PM) (v : Value) (k : Key) (o : Int) (rest : List Value) : Prop := ∃ a n kv t, v = .ref a ∧ G a = some { cls := .type "tuple", data := .seq (kv :: .int o t :: rest).toArray n } ∧ KeyAt G kv k
theorem EntAt.mono {G G' : PM} {v : Value} {k : Key} {o : Int} {r : List Value} (h : EntAt G v k o r) (s : Sub G G') : EntAt G' v k o r := let ⟨a, n, kv, t, e, g, x⟩ := h; ⟨a, n, kv, t, e, s _ _ g, x.mono s⟩
noncomputable def entLt (k : Key) (o : Int) (k' : Key) (o' : Int) : Bool := if kEq (bits k) (bits k') then decide (o < o') else kLt (bits k) (bits k')
theorem cmp_self {w : World} {G : PM} {v : Value} {k : Key} {o : Int} {r : List Value} (h : EntAt G v k o r) : Cmp w G v v false := by
  refine oEEEEAA h fun a n kv t q5918z4 g hkv => ?_; (try clear h); obtain rfl := q5918z4
  intro A Q E s hA hu hG hq
  have ht : s.heap.IsTuple a (kv :: .int o t :: r).toArray := ⟨_, hG _ _ g, rfl, n, rfl⟩
  have := LtAt.tuples (A := A) (s := s) (e := fun _ => true) (c := fun _ => false) ht ht rfl (by lia) (fun j h1 h2 _ => EqAt.same _) (fun j h1 h2 _ h3 => by cases h3)
  have e : lex ((List.range (kv :: .int o t :: r).toArray.size).map fun _ => (true, false)) = false := by
    generalize List.range _ = l
    induction l with
    | nil => rfl
    | cons x l ih => simpa [lex] using ih
  rw [e] at this
  exact this _ w E Q hq
theorem cmp_ent {w : World} {G : PM} {v v' : Value} {k k' : Key} {o o' : Int} {r r' : List Value} (hS : Stat G) (h1 : EntAt G v k o r) (h2 : EntAt G v' k' o' r') (hr : r.length = r'.length) (hk : KOk k) (hk' : KOk k') (hc : Compat k k') (hl : k.length = k'.length) (ho : o ≠ o') :
    Cmp w G v v' (entLt k o k' o') := by
  refine oEEEEAA h1 fun a n kv t q6836z4 g hkv => ?_; (try clear h1); obtain rfl := q6836z4
  refine oEEEEAA h2 fun a' n' kv' t' q6882z4 g' hkv' => ?_; (try clear h2); obtain rfl := q6882z4
  intro A Q E s hA hu hG hq
  have ht : s.heap.IsTuple a (kv :: .int o t :: r).toArray := ⟨_, hG _ _ g, rfl, n, rfl⟩
  have ht' : s.heap.IsTuple a' (kv' :: .int o' t' :: r').toArray := ⟨_, hG _ _ g', rfl, n', rfl⟩
  have := LtAt.tuples (A := A) (s := s) (e := fun j => if j = 0 then kEq (bits k) (bits k') else if j = 1 then (o == o') else true) (c := fun j => if j = 0 then kLt (bits k) (bits k') else decide (o < o')) ht ht' (by simp [hr]) (by lia) ?_ ?_
  · have e : lex ((List.range (kv :: .int o t :: r).toArray.size).map fun j => ((if j = 0 then kEq (bits k) (bits k') else if j = 1 then (o == o') else true), (if j = 0 then kLt (bits k) (bits k') else decide (o < o')))) = entLt k o k' o' := by
      have hs : (kv :: .int o t :: r).toArray.size = r.length + 2 := by simp
      rw [hs, List.range_succ_eq_map, List.range_succ_eq_map]
      simp only [List.map_cons, lex, entLt, if_true]
      split
      · have : (o == o') = false := by simpa using ho
        simp [lex, this]
      · rfl
    rw [e] at this
    exact this _ w E Q hq
  · intro j h1 h2 hb
    match j, h1, h2, hb with
    | 0, _, _, _ => exact eqKey hG hS hkv hkv' hk hk' hc hl (by show A.units + 1 + 10 < cLine; first | exact room3 hu (by decide) | omega)
    | 1, _, _, _ => exact EqAt.int_int o t o' t'
    | j + 2, _, _, hb =>
      have := hb 1 (by lia)
      simp at this
      exact absurd this ho
  · intro j h1 h2 hb he
    match j, h1, h2, hb, he with
    | 0, _, _, _, _ => exact ltKey hG hS hkv hkv' hk hk' hc hl (by show A.units + 1 + 10 < cLine; first | exact room3 hu (by decide) | omega)
    | 1, _, _, _, _ => exact LtAt.int
    | j + 2, _, _, hb, _ =>
      have := hb 1 (by omega)
      simp at this
      exact absurd this ho
end
-- part MM
section
open PySem PySem.W PyProof.Rows PySem.Calls PySem.SeqAt PySem.Flt
set_option maxRecDepth 100000
set_option maxHeartbeats 4000000
section
variable {prog : Program} {w : World} {A : Around} {E : Value → Shared → Prop} {s : Shared}
theorem args_max3 (a b c : Value) : argsOk "max" ⟨[a, b, c], []⟩ := by unfold argsOk; kernel_rfl
theorem args_min3 (a b c : Value) : argsOk "min" ⟨[a, b, c], []⟩ := by unfold argsOk; kernel_rfl
theorem call_max_three {a b c : Value} {Q : Value → Shared → Prop}
    (h : wpAny (model prog w) A.in1 (pyIter (.ref s.heap.objs.size)) (fun it s₂ => ∃ I fp wr n P St bt, it = .ref I ∧ Walks prog w A.in1 I fp wr n P St ∧ St 0 s₂.heap ∧ (∀ b ∈ fp, b < s₂.heap.objs.size) ∧ 0 < n ∧ CmpOf prog w A.in1 .Gt P bt ∧
      ∀ v h' tk, P (argBest bt (n - 1)) v → (∀ b o, b ∉ wr → s₂.heap.get? b = some o → h'.get? b = some o) → Q v { s₂ with heap := h', toks := tk }) E
      { s with heap := s.heap.push { cls := .type "tuple", data := .seq #[a, b, c] } }) :
    wpAny (model prog w) A (call (.builtin "max") [a, b, c]) Q E s := by
  have hname : (toString "max" ++ toString ".loop" : String) = "max.loop" := by decide
  refine call_function_tree F.kind_max F.plain_max F.entry_max (args_max3 _ _ _) ?_
  show wpAny _ A.in1 (Builtin.Builtins.bindParams "max" ["key", "default"] 0 ⟨[], []⟩ >>= _) _ _ s
  refine wpAny_bind (wpAny_of_eq (show Builtin.Builtins.bindParams "max" ["key", "default"] 0 ⟨[], []⟩ = pure [none, none] from rfl) ?_)
  show wpAny _ A.in1 (newTuple [a, b, c] >>= _) _ _ s
  refine wpAny_bind (wpAny_newObj_type ?_)
  refine wpAny_bind (wpAny_mono h (fun it s₂ h₂ => ?_) fun _ _ e => e)
  refine oEEEEEEEAAAAAA h₂ fun I fp wr n P St bt q1923z7 W hst hfp hn hcmp hQ => ?_; (try clear h₂); obtain rfl := q1923z7
  refine wpAny_bind (wpAny_newObj_type ?_)
  have hSf : s₂.heap.objs.size ∉ fp := fun hm => Nat.lt_irrefl _ (hfp _ hm)
  rw [hname]
  refine wpAny_pure ⟨plainId_quiet F.plain_max_loop _, codeAny_max_loop_first W bt hcmp s₂.heap.objs.size hSf hn (W.frame _ _ _ hst fun b _ o e => Heap.get?_push_of_some _ e) (Heap.get?_push_size _ rfl) fun v h' tk hP hk => ?_⟩
  exact hQ v h' tk hP fun b o hbw e => hk b o hbw (Nat.ne_of_lt (Heap.lt_size e)) (Heap.get?_push_of_some _ e)
theorem call_min_three {a b c : Value} {Q : Value → Shared → Prop}
    (h : wpAny (model prog w) A.in1 (pyIter (.ref s.heap.objs.size)) (fun it s₂ => ∃ I fp wr n P St bt, it = .ref I ∧ Walks prog w A.in1 I fp wr n P St ∧ St 0 s₂.heap ∧ (∀ b ∈ fp, b < s₂.heap.objs.size) ∧ 0 < n ∧ CmpOf prog w A.in1 .Lt P bt ∧
      ∀ v h' tk, P (argBest bt (n - 1)) v → (∀ b o, b ∉ wr → s₂.heap.get? b = some o → h'.get? b = some o) → Q v { s₂ with heap := h', toks := tk }) E
      { s with heap := s.heap.push { cls := .type "tuple", data := .seq #[a, b, c] } }) :
    wpAny (model prog w) A (call (.builtin "min") [a, b, c]) Q E s := by
  have hname : (toString "min" ++ toString ".loop" : String) = "min.loop" := by decide
  refine call_function_tree F.kind_min F.plain_min F.entry_min (args_min3 _ _ _) ?_
  show wpAny _ A.in1 (Builtin.Builtins.bindParams "min" ["key", "default"] 0 ⟨[], []⟩ >>= _) _ _ s
  refine wpAny_bind (wpAny_of_eq (show Builtin.Builtins.bindParams "min" ["key", "default"] 0 ⟨[], []⟩ = pure [none, none] from rfl) ?_)
  show wpAny _ A.in1 (newTuple [a, b, c] >>= _) _ _ s
  refine wpAny_bind (wpAny_newObj_type ?_)
  refine wpAny_bind (wpAny_mono h (fun it s₂ h₂ => ?_) fun _ _ e => e)
  refine oEEEEEEEAAAAAA h₂ fun I fp wr n P St bt q3740z7 W hst hfp hn hcmp hQ => ?_; (try clear h₂); obtain rfl := q3740z7
  refine wpAny_bind (wpAny_newObj_type ?_)
  have hSf : s₂.heap.objs.size ∉ fp := fun hm => Nat.lt_irrefl _ (hfp _ hm)
  rw [hname]
  refine wpAny_pure ⟨plainId_quiet F.plain_min_loop _, codeAny_min_loop_first W bt hcmp s₂.heap.objs.size hSf hn (W.frame _ _ _ hst fun b _ o e => Heap.get?_push_of_some _ e) (Heap.get?_push_size _ rfl) fun v h' tk hP hk => ?_⟩
  exact hQ v h' tk hP fun b o hbw e => hk b o hbw (Nat.ne_of_lt (Heap.lt_size e)) (Heap.get?_push_of_some _ e)
noncomputable def max3V (a b c : Value) : Value := let x := if ltV a b then b else a; if ltV x c then c else x
noncomputable def min3V (a b c : Value) : Value := let x := if ltV b a then b else a; if ltV c x then c else x
theorem max_three_num {Q : Value → Shared → Prop} {a b c : Value} (hh : A.handled = none) (ha : NumV a) (hb : NumV b) (hc : NumV c)
    (h : ∀ h' tk, Keep [] s.heap h' → Q (max3V a b c) { s with heap := h', toks := tk }) :
    wpAny (model prog w) A (call (.builtin "max") [a, b, c]) Q E s := by
  have hT : (s.heap.push { cls := .type "tuple", data := .seq #[a, b, c] }).IsTuple s.heap.objs.size #[a, b, c] := ⟨_, Heap.get?_push_size _ rfl, rfl, 0, rfl⟩
  refine call_max_three (wpAny_pyIter_tuple hT ?_)
  have hsz : (s.heap.push { cls := .type "tuple", data := .seq #[a, b, c] }).objs.size = s.heap.objs.size + 1 := Heap.size_push ..
  refine ⟨_, [_, s.heap.objs.size], [_], _, _, _, _, rfl, Walks.tuple (A := A.in1) hh _ s.heap.objs.size (by rw [hsz]; exact Nat.ne_of_lt (Nat.lt_succ_self _)) #[a, b, c],
    ⟨⟨_, Heap.get?_push_size _ rfl, rfl, rfl⟩, hT.push _⟩, fun c hc => ?_, by simp, cmpOf_gt #[a, b, c] (by simp [ha, hb, hc]), fun v h' tk hP hk => ?_⟩
  · show c < ((s.heap.push _).push _).objs.size
    rw [Heap.size_push, hsz]
    rcases List.mem_cons.mp hc with rfl | hc
    · rw [hsz]; exact Nat.lt_succ_self _
    · rcases List.mem_cons.mp hc with rfl | hc
      · exact Nat.lt_succ_of_lt (Nat.lt_succ_self _)
      · cases hc
  · have hold : Keep [] s.heap h' := fun c o _ e => by
      refine hk c o (fun hm => ?_) (Heap.get?_push_of_some _ (Heap.get?_push_of_some _ e))
      rcases List.mem_cons.mp hm with e1 | hm
      · have := Heap.lt_size e; rw [e1, hsz] at this; exact Nat.lt_irrefl _ (Nat.lt_of_succ_lt this)
      · cases hm
    have := h h' tk hold
    have hv : v = max3V a b c := by
      unfold max3V
      cases hc1 : ltV a b <;> cases hc2 : ltV a c <;> cases hc3 : ltV b c <;> simp [argBest, hc1, hc2, hc3] at hP <;> subst hP <;> simp [hc1, hc2, hc3]
    rw [hv]; exact this
theorem min_three_num {Q : Value → Shared → Prop} {a b c : Value} (hh : A.handled = none) (ha : NumV a) (hb : NumV b) (hc : NumV c)
    (h : ∀ h' tk, Keep [] s.heap h' → Q (min3V a b c) { s with heap := h', toks := tk }) :
    wpAny (model prog w) A (call (.builtin "min") [a, b, c]) Q E s := by
  have hT : (s.heap.push { cls := .type "tuple", data := .seq #[a, b, c] }).IsTuple s.heap.objs.size #[a, b, c] := ⟨_, Heap.get?_push_size _ rfl, rfl, 0, rfl⟩
  refine call_min_three (wpAny_pyIter_tuple hT ?_)
  have hsz : (s.heap.push { cls := .type "tuple", data := .seq #[a, b, c] }).objs.size = s.heap.objs.size + 1 := Heap.size_push ..
  refine ⟨_, [_, s.heap.objs.size], [_], _, _, _, _, rfl, Walks.tuple (A := A.in1) hh _ s.heap.objs.size (by rw [hsz]; exact Nat.ne_of_lt (Nat.lt_succ_self _)) #[a, b, c],
    ⟨⟨_, Heap.get?_push_size _ rfl, rfl, rfl⟩, hT.push _⟩, fun c hc => ?_, by simp, cmpOf_lt #[a, b, c] (by simp [ha, hb, hc]), fun v h' tk hP hk => ?_⟩
  · show c < ((s.heap.push _).push _).objs.size
    rw [Heap.size_push, hsz]
    rcases List.mem_cons.mp hc with rfl | hc
    · rw [hsz]; exact Nat.lt_succ_self _
    · rcases List.mem_cons.mp hc with rfl | hc
      · exact Nat.lt_succ_of_lt (Nat.lt_succ_self _)
      · cases hc
  · have hold : Keep [] s.heap h' := fun c o _ e => by
      refine hk c o (fun hm => ?_) (Heap.get?_push_of_some _ (Heap.get?_push_of_some _ e))
      rcases List.mem_cons.mp hm with e1 | hm
      · have := Heap.lt_size e; rw [e1, hsz] at this; exact Nat.lt_irrefl _ (Nat.lt_of_succ_lt this)
      · cases hm
    have := h h' tk hold
    have hv : v = min3V a b c := by
      unfold min3V
      cases hc1 : ltV b a <;> cases hc2 : ltV c a <;> cases hc3 : ltV c b <;> simp [argBest, hc1, hc2, hc3] at hP <;> subst hP <;> simp [hc1, hc2, hc3]
    rw [hv]; exact this
end
end
-- part RGB
section
open PySem PySem.W PyProof.Rows PySem.Calls PySem.Flt
set_option maxRecDepth 100000
set_option maxHeartbeats 4000000
theorem fillRGB : True := by
  w_top off
  trivial
section
variable {R G B : UInt64} {t1 t2 t3 : Tok} {i j k : Nat}
theorem ltV_X (h1 : X R i) (h2 : X G j) : ltV (.float R t1) (.float G t2) = decide (i < j) := by
  show (Float64.cmp R G == some Ordering.lt) = _
  rw [h1.cmp h2]
  rcases Nat.lt_trichotomy i j with q | q | q
  · rw [Nat.compare_eq_lt.mpr q]; simp [q]
  · subst q; simp
  · rw [Nat.compare_eq_gt.mpr q]; simp; lia
theorem max3_X (h1 : X R i) (h2 : X G j) (h3 : X B k) : ∃ M t, max3V (.float R t1) (.float G t2) (.float B t3) = .float M t ∧ X M (max i (max j k)) := by
  unfold max3V
  simp only [ltV_X h1 h2]
  by_cases q : i < j
  · simp only [q, decide_true, if_true, ltV_X h2 h3]
    by_cases q2 : j < k
    · simp only [q2, decide_true, if_true]
      exact ⟨B, t3, rfl, by rw [show max i (max j k) = k by lia]; exact h3⟩
    · simp only [q2, decide_false, Bool.false_eq_true, if_false]
      exact ⟨G, t2, rfl, by rw [show max i (max j k) = j by lia]; exact h2⟩
  · simp only [q, decide_false, Bool.false_eq_true, if_false, ltV_X h1 h3]
    by_cases q2 : i < k
    · simp only [q2, decide_true, if_true]
      exact ⟨B, t3, rfl, by rw [show max i (max j k) = k by lia]; exact h3⟩
    · simp only [q2, decide_false, Bool.false_eq_true, if_false]
      exact ⟨R, t1, rfl, by rw [show max i (max j k) = i by lia]; exact h1⟩
theorem min3_X (h1 : X R i) (h2 : X G j) (h3 : X B k) : ∃ M t, min3V (.float R t1) (.float G t2) (.float B t3) = .float M t ∧ X M (min i (min j k)) := by
  unfold min3V
  simp only [ltV_X h2 h1]
  by_cases q : j < i
  · simp only [q, decide_true, if_true, ltV_X h3 h2]
    by_cases q2 : k < j
    · simp only [q2, decide_true, if_true]
      exact ⟨B, t3, rfl, by rw [show min i (min j k) = k by lia]; exact h3⟩
    · simp only [q2, decide_false, Bool.false_eq_true, if_false]
      exact ⟨G, t2, rfl, by rw [show min i (min j k) = j by lia]; exact h2⟩
  · simp only [q, decide_false, Bool.false_eq_true, if_false, ltV_X h3 h1]
    by_cases q2 : k < i
    · simp only [q2, decide_true, if_true]
      exact ⟨B, t3, rfl, by rw [show min i (min j k) = k by lia]; exact h3⟩
    · simp only [q2, decide_false, Bool.false_eq_true, if_false]
      exact ⟨R, t1, rfl, by rw [show min i (min j k) = i by lia]; exact h1⟩
theorem eqX (h1 : X R i) (h2 : X G j) : (Float64.cmp R G == some Ordering.eq) = decide (i = j) := by
  rw [h1.cmp h2]
  rcases Nat.lt_trichotomy i j with q | q | q
  · rw [Nat.compare_eq_lt.mpr q]; simp; lia
  · subst q; simp
  · rw [Nat.compare_eq_gt.mpr q]; simp; lia
theorem leX (h1 : X R i) (h2 : X G j) : (Float64.cmp R G == some Ordering.lt || Float64.cmp R G == some Ordering.eq) = decide (i ≤ j) := by
  rw [h1.cmp h2]
  rcases Nat.lt_trichotomy i j with q | q | q
  · rw [Nat.compare_eq_lt.mpr q]; simp; lia
  · subst q; simp
  · rw [Nat.compare_eq_gt.mpr q]; simp; omega
theorem nzX (h1 : X R i) (h : 0 < i) : ¬ Float64.isZero R = true := by
  refine oEEAA h1.dec fun m e hd _ hm => ?_
  unfold Float64.isZero
  rw [hd]
  cases m with
  | zero => have := hm.mp rfl; lia
  | succ m => simp
end
theorem frac_one {n : Nat} (h : 0 < n) : Float64.ofFrac false n n = Float64.one := by
  rw [ofFrac_same (n' := 1) (d' := 1) h (by decide) (by lia)]
  decide +kernel
theorem hue_code (r g b : Nat) (hw : wd3 r g b ≠ 0) :
    (if r = mx3 r g b then Float64.sub (Float64.ofFrac false (mx3 r g b - b) (wd3 r g b)) (Float64.ofFrac false (mx3 r g b - g) (wd3 r g b))
      else if g = mx3 r g b then Float64.sub (Float64.add c2 (Float64.ofFrac false (mx3 r g b - r) (wd3 r g b))) (Float64.ofFrac false (mx3 r g b - b) (wd3 r g b))
      else Float64.sub (Float64.add c4 (Float64.ofFrac false (mx3 r g b - g) (wd3 r g b))) (Float64.ofFrac false (mx3 r g b - r) (wd3 r g b))) =
    hue0 (sect r g b).1 (Float64.ofFrac false (sect r g b).2 (wd3 r g b)) := by
  have h1 : ∀ y : Nat, y = mn3 r g b → Float64.ofFrac false (mx3 r g b - y) (wd3 r g b) = Float64.one := fun y e => by rw [e]; exact frac_one (Nat.pos_of_ne_zero hw)
  unfold sect
  by_cases q1 : r = mx3 r g b
  · rw [if_pos q1, if_pos q1]
    by_cases q2 : b = mn3 r g b
    · rw [if_pos q2, h1 b q2]; rfl
    · rw [if_neg q2, h1 g (by unfold mx3 mn3 wd3 at *; lia)]; rfl
  · rw [if_neg q1, if_neg q1]
    by_cases q2 : g = mx3 r g b
    · rw [if_pos q2, if_pos q2]
      by_cases q3 : b = mn3 r g b
      · rw [if_pos q3, h1 b q3]; rfl
      · rw [if_neg q3, h1 r (by unfold mx3 mn3 wd3 at *; lia)]; rfl
    · rw [if_neg q2, if_neg q2]
      by_cases q3 : r = mn3 r g b
      · rw [if_pos q3, h1 r q3]; rfl
      · rw [if_neg q3, h1 g (by unfold mx3 mn3 wd3 at *; lia)]; rfl
section
variable {M : Model} {A : Around} {E : Value → Shared → Prop} {s : Shared} {prog : Program} {w : World} {a b : UInt64} {t u : Tok} {Q : Value → Shared → Prop}
theorem fdiv (hz : ¬ Float64.isZero b = true) (h : Q (.float (Float64.div a b) s.toks) { s with toks := s.toks + 1 }) : wpAny (model prog w) A (binaryOp .Div (.float a t) (.float b u)) Q E s := AutoFloatOps.truediv_1 hz h
theorem fmodu (hz : ¬ Float64.isZero b = true) (h : Q (.float (Float64.divmod a b).2 s.toks) { s with toks := s.toks + 1 }) : wpAny (model prog w) A (binaryOp .Mod (.float a t) (.float b u)) Q E s := AutoFloatOps.mod_1 hz h
end
theorem minl (b t : Nat) (h : b ≤ t) : min b (2 * t - b) = b := by lia
theorem minr (b t : Nat) (h : ¬ b ≤ t) : min b (2 * t - b) = 2 * t - b := by lia
section
variable {w : World} {A : Around} {s : Shared} {H : Heap} {p : Program} {loose : List Str} {mean : ExcName → Option Value} {mg mb : Str → Option Value} {Q E : Value → Shared → Prop}
noncomputable def hlsObj (h l s : UInt64) (t1 t2 t3 : Nat) : Obj := { cls := .type "tuple", data := .seq #[.float h t1, .float l t2, .float s t3] 0 }
noncomputable def RGBI1 (s : Shared) (L' : Addr) (R : UInt64) (G : UInt64) (B : UInt64) (M : UInt64) (m : UInt64) (tr : Tok) (tg : Tok) (tb : Tok) (tM : Tok) (top : Nat) (r : Nat) (g : Nat) (b : Nat) (ZZ : Flow → Shared → Prop) : Prop := ∀ (tS tl tR tk : Nat), ∀ (h5 : Heap), ∀ (m5 : Str → Option Value), (Fr s.heap L' h5 m5) → (s.toks < tS) → (tS < tk) → (s.toks < tl) → (tl < tk) → (m5 "r" = some (.float R tr)) → (m5 "g" = some (.float G tg)) → (m5 "b" = some (.float B tb)) → (m5 "maxc" = some (.float M tM)) → (m5 "rangec" = some (.float (Float64.sub M m) tR)) → (m5 "l" = some (.float (ligOf top r g b) tl)) → (m5 "s" = some (.float (satOf top r g b) tS)) → ZZ (.next) ({ s with heap := h5, toks := tk })
noncomputable def RGBI2 (s : Shared) (L' : Addr) (top : Nat) (r : Nat) (g : Nat) (b : Nat) (tk : Nat) (tl : Nat) (tS : Nat) (ZZ : Flow → Shared → Prop) : Prop := ∀ (tH tk' : Nat), ∀ (h5 : Heap), ∀ (m5 : Str → Option Value), (Fr s.heap L' h5 m5) → (tk ≤ tk') → (m5 "l" = some (.float (ligOf top r g b) tl)) → (m5 "s" = some (.float (satOf top r g b) tS)) → (m5 "h" = some (.float (hue0 (sect r g b).1 (Float64.ofFrac false (sect r g b).2 (wd3 r g b))) tH)) → ZZ (.next) ({ s with heap := h5, toks := tk' })
theorem rgb_ok {R G B : UInt64} {tr tg tb : Tok} {top v r g b : Nat}
    (X₀ : (hd.heap_1 w.params).In H) (T : Top p loose mean mg mb H) (st : H.StaysIn s.heap) (hA : A.handled = none) (hu : A.units + 100 < cLine) (hroom : A.depth < recursionLimit)
    (htv : top * (2 * v) = 2 ^ 14) (hr : r ≤ top) (hg : g ≤ top) (hb : b ≤ top) (xr : X R (r * (2 * v))) (xg : X G (g * (2 * v))) (xb : X B (b * (2 * v)))
    (hq : ∀ (h' : Heap) (tk' : Nat) (a : Addr) (t1 t2 t3 : Nat), Keep [] s.heap h' → s.heap.get? a = none → h'.get? a = some (hlsObj (hueOf r g b) (ligOf top r g b) (satOf top r g b) t1 t2 t3) → s.toks < t1 → s.toks < t2 → s.toks < t3 → t1 < tk' → t2 < tk' → t3 < tk' →
      Q (.ref a) { s with heap := h', toks := tk' }) :
    wpAny (model PySem.Challenge.rw_mq0320_01.row.prog w) A (call (.ref 103) [.float R tr, .float G tg, .float B tb]) Q E s := by
  refine wpAny_call ?_
  refine' callF (binds := [("r", .float R tr), ("g", .float G tg), ("b", .float B tb)]) [] ?k6 ?k7 (X₀.keeps st) (T.nolimit.keeps st) (by first | exact room1 hroom | omega) ?k9 ?kB ?_ ?c5 ?c2 ?c3 ?c4
  case k6 => k_is
  case k7 => k_is
  case k9 => exact BindsTo.of_eq rfl
  case kB => exact locs rfl
  case c5 => decide
  case c2 => exact rfl
  case c3 => exact rfl
  case c4 => exact rfl
  intro L' h₁ F hk₁ hL
  have X' := X₀.keeps st
  have T' := T.keeps st
  have F0 : Fr s.heap L' h₁ _ := F
  have N' : News s.heap L' h₁ [] := fun p hp => nomatch hp
  clear X₀ T F
  dsimp only [List.length_cons, List.length_nil]
  have hv0 : 0 < v := by
    rcases Nat.eq_zero_or_pos v with e | e
    · rw [e] at htv; simp at htv
    · exact e
  have ht0 : 0 < top := by
    rcases Nat.eq_zero_or_pos top with e | e
    · rw [e] at htv; simp at htv
    · exact e
  walk_at "got"
  refine wpAny_with_toks (n := s.toks + 3) (by (try dsimp only); lia) ?_
  refine max_three_num hA (.float _ _) (.float _ _) (.float _ _) fun h2 tk2 K2 htk2 => ?_
  have htk2' : s.toks + 3 ≤ tk2 := htk2
  refine oEEA (max3_X (t1 := tr) (t2 := tg) (t3 := tb) xr xg xb) fun M tM eM xM => ?_
  rw [eM]
  have F2 := frKeep0 F0 K2
  have N2 := newsKeep0 N' K2
  clear F0 N' htk2
  walk_at "got"
  refine wpAny_with_toks (n := s.toks + 3) (by (try dsimp only); lia) ?_
  refine min_three_num hA (.float _ _) (.float _ _) (.float _ _) fun h3 tk3 K3 htk3 => ?_
  have htk3' : s.toks + 3 ≤ tk3 := htk3
  refine oEEA (min3_X (t1 := tr) (t2 := tg) (t3 := tb) xr xg xb) fun m tm em xm => ?_
  rw [em]
  rename Fr _ _ _ _ => F3
  rename News _ _ _ _ => N3
  have F4 := frKeep0 F3 K3
  have N4 := newsKeep0 N3 K3
  clear F3 N3 htk3
  have eM : max (r * (2 * v)) (max (g * (2 * v)) (b * (2 * v))) = mx3 r g b * (2 * v) := by
    unfold mx3; rw [Nat.mul_max_mul_right, Nat.mul_max_mul_right]
  have em : min (r * (2 * v)) (min (g * (2 * v)) (b * (2 * v))) = mn3 r g b * (2 * v) := by
    unfold mn3; rw [Nat.mul_min_mul_right, Nat.mul_min_mul_right]
  rw [eM] at xM
  rw [em] at xm
  have hMt : mx3 r g b ≤ top := by rcases mx3_or r g b with q | q | q <;> rw [q] <;> assumption
  have hmM : mn3 r g b ≤ mx3 r g b := Nat.le_trans (mm3 r g b).2.2.2.1 (mm3 r g b).1
  have hMu : mx3 r g b * (2 * v) ≤ 2 ^ 14 := by rw [← htv]; exact Nat.mul_le_mul_right _ hMt
  have hmu : mn3 r g b * (2 * v) ≤ mx3 r g b * (2 * v) := Nat.mul_le_mul_right _ hmM
  have xS : X (Float64.add M m) (bo3 r g b * (2 * v)) := by
    have := X.add xM xm (by lia)
    rw [← Nat.add_mul] at this; exact this
  have xD : X (Float64.sub M m) (wd3 r g b * (2 * v)) := by
    have := X.sub xM xm (by lia) hmu
    rw [← Nat.sub_mul] at this; exact this
  have eL : Float64.div (Float64.add M m) 4611686018427387904 = ligOf top r g b := by
    show Float64.div (Float64.add M m) c2 = _
    rw [X.div xS c2_X (by decide)]
    unfold ligOf
    refine ofFrac_same (by decide) (by lia) ?_
    rw [show bo3 r g b * (2 * v) * (2 * top) = bo3 r g b * 2 * (top * (2 * v)) by ac_rfl, htv]
    lia
  have xL : X (ligOf top r g b) (bo3 r g b * v) := by
    unfold ligOf
    refine X.ofFrac (by lia) ?_ ?_
    · have : bo3 r g b * (2 * v) ≤ 2 * 2 ^ 14 := by unfold bo3; rw [Nat.add_mul]; lia
      rw [show bo3 r g b * (2 * v) = 2 * (bo3 r g b * v) by ac_rfl] at this
      lia
    · rw [← htv]; ac_rfl
  repeat' (first | ((fail_if_success (with_reducible refine isIf ?_)); walk_at "go2") | (dsimp only; (fail_if_success (with_reducible refine isIf ?_)); walk_at "go2"))
  refine fdiv (nzX c2_X (by decide)) ?_
  rw [eL]
  dsimp only
  repeat' (first | ((fail_if_success (with_reducible refine isIf ?_)); walk_at "go2") | (dsimp only; (fail_if_success (with_reducible refine isIf ?_)); walk_at "go2"))
  by_cases hw : wd3 r g b = 0
  · have e1 : mn3 r g b * (2 * v) = mx3 r g b * (2 * v) := by
      have : mn3 r g b = mx3 r g b := Nat.le_antisymm hmM (Nat.sub_eq_zero_iff_le.mp hw)
      rw [this]
    walk_at "got"
    refine AutoFloatOps.eq_0 ?_
    rw [eqX xm xM, decide_eq_true e1]
    walk_at "got"
    rename Fr _ _ _ _ => F9
    rename News _ _ _ _ => N9
    have z := N9 _ (.head _)
    have eh : hueOf r g b = 0 := by unfold hueOf; rw [if_pos hw]; decide +kernel
    have es : satOf top r g b = 0 := by unfold satOf; rw [if_pos hw]; decide +kernel
    refine hq _ _ _ _ _ _ (fun b o _ e => F9.keep b o e) z.2.2 (by rw [eh, es]; exact z.1) ?_ ?_ ?_ ?_ ?_ ?_
    all_goals ((try dsimp only); lia)
  have e1 : ¬ mn3 r g b * (2 * v) = mx3 r g b * (2 * v) := by
    intro q
    have := Nat.eq_of_mul_eq_mul_right (by lia) q
    exact hw (by unfold wd3; rw [this, Nat.sub_self])
  have heq : ∀ y : Nat, y * (2 * v) = mx3 r g b * (2 * v) ↔ y = mx3 r g b := fun y => ⟨fun q => Nat.eq_of_mul_eq_mul_right (by lia) q, fun q => by rw [q]⟩
  have hwp : 0 < wd3 r g b := Nat.pos_of_ne_zero hw
  have hbo : 0 < bo3 r g b := Nat.lt_of_lt_of_le hwp (Nat.le_trans (Nat.sub_le _ _) (Nat.le_add_right _ _))
  have hnz : ¬ Float64.isZero (Float64.sub M m) = true := nzX xD (Nat.mul_pos hwp (by lia))
  have hle : (Float64.cmp (ligOf top r g b) 4602678819172646912 == some Ordering.lt || Float64.cmp (ligOf top r g b) 4602678819172646912 == some Ordering.eq) = decide (bo3 r g b ≤ top) := by
    have := leX xL ch_X
    rw [show (4602678819172646912 : UInt64) = ch from rfl, this]
    have : (2 : Nat) ^ 13 = top * v := by
      have : top * (2 * v) = 2 * (top * v) := by ac_rfl
      lia
    rw [this]
    refine decide_eq_decide.mpr ⟨fun q => Nat.le_of_mul_le_mul_right q hv0, fun q => Nat.mul_le_mul_right _ q⟩
  have hbt : bo3 r g b ≤ 2 * top := (sat_den hr hg hb hw).2
  have hs1 : bo3 r g b ≤ top → Float64.div (Float64.sub M m) (Float64.add M m) = satOf top r g b := fun q => by
    rw [X.div xD xS (Nat.mul_pos hbo (by lia))]
    unfold satOf
    rw [if_neg hw, minl _ _ q]
    exact ofFrac_same (Nat.mul_pos hbo (by lia)) hbo (by ac_rfl)
  have xC : X (Float64.sub (Float64.sub 4611686018427387904 M) m) ((2 * top - bo3 r g b) * (2 * v)) := by
    have x1 := X.sub c2_X xM (by decide) (by lia)
    have x2 := X.sub x1 xm (by omega) (by lia)
    have e : 2 * 2 ^ 14 - mx3 r g b * (2 * v) - mn3 r g b * (2 * v) = (2 * top - bo3 r g b) * (2 * v) := by
      rw [← htv, Nat.sub_mul, show bo3 r g b = mx3 r g b + mn3 r g b from rfl, Nat.add_mul, Nat.sub_sub, Nat.mul_assoc]
    rw [e] at x2
    exact x2
  have hc0 : 0 < 2 * top - bo3 r g b := Nat.lt_of_lt_of_le hwp (Nat.le_trans (sat_den hr hg hb hw).1 (Nat.min_le_right _ _))
  have hs2 : ¬ bo3 r g b ≤ top → Float64.div (Float64.sub M m) (Float64.sub (Float64.sub 4611686018427387904 M) m) = satOf top r g b := fun q => by
    have h2 := hc0
    rw [X.div xD xC (Nat.mul_pos h2 (by lia))]
    unfold satOf
    rw [if_neg hw, minr _ _ q]
    exact ofFrac_same (Nat.mul_pos h2 (by lia)) h2 (by ac_rfl)
  have xrc : ∀ (Y : UInt64) (y : Nat), X Y (y * (2 * v)) → y ≤ mx3 r g b → Float64.div (Float64.sub M Y) (Float64.sub M m) = Float64.ofFrac false (mx3 r g b - y) (wd3 r g b) := fun Y y hY hy => by
    have := X.sub xM hY (by lia) (Nat.mul_le_mul_right _ hy)
    rw [← Nat.sub_mul] at this
    rw [X.div this xD (Nat.mul_pos hwp (by lia))]
    exact ofFrac_same (Nat.mul_pos hwp (by lia)) hwp (by ac_rfl)
  have hrc := xrc R r xr (mm3 r g b).1
  have hgc := xrc G g xg (mm3 r g b).2.1
  have hbc := xrc B b xb (mm3 r g b).2.2.1
  have hfin : (Float64.divmod (Float64.div (hue0 (sect r g b).1 (Float64.ofFrac false (sect r g b).2 (wd3 r g b))) 4618441417868443648) 4607182418800017408).2 = hueOf r g b := by
    unfold hueOf; rw [if_neg hw]; rfl
  walk_at "got"
  refine AutoFloatOps.eq_0 ?_
  rw [eqX xm xM, decide_eq_false e1]
  repeat' (first | ((fail_if_success (with_reducible refine isIf ?_)); walk_at "go2") | (dsimp only; (fail_if_success (with_reducible refine isIf ?_)); walk_at "go2"))
  refine cutC (RGBI1 s L' R G B M m tr tg tb tM top r g b) ?_ ?_
  · intro Pz mkP
    walk_at "got"
    refine AutoFloatOps.le_0 ?_
    by_cases q : bo3 r g b ≤ top
    · rw [hle, decide_eq_true q]
      walk_at "got"
      refine fdiv (nzX xS (Nat.mul_pos hbo (by lia))) ?_
      rw [hs1 q]
      walk_at "got"
      rename Fr _ _ _ _ => F9
      refine mkP _ _ (fun _ zz => zz _ _ _ _ _ _ F9 (?_) (?_) (?_) (?_) rfl rfl rfl rfl rfl rfl rfl)
      all_goals ((try dsimp only); lia)
    · rw [hle, decide_eq_false q]
      walk_at "got"
      refine fdiv (nzX xC (Nat.mul_pos hc0 (by lia))) ?_
      rw [hs2 q]
      walk_at "got"
      rename Fr _ _ _ _ => F9
      refine mkP _ _ (fun _ zz => zz _ _ _ _ _ _ F9 (?_) (?_) (?_) (?_) rfl rfl rfl rfl rfl rfl rfl)
      all_goals ((try dsimp only); lia)
  intro tS tl tR tk h5 m5 F5 b1 b2 b3 b4 l1 l2 l3 l4 l5 l6 l7
  have F6 := frKnown F5 [("r", .float R tr), ("g", .float G tg), ("b", .float B tb), ("maxc", .float M tM), ("rangec", .float (Float64.sub M m) tR), ("l", .float (ligOf top r g b) tl), ("s", .float (satOf top r g b) tS)] (by first | exact allc l1 (allc l2 (allc l3 (allc l4 (allc l5 (allc l6 (allc l7 alln)))))) | simp [l1, l2, l3, l4, l5, l6, l7])
  have N6 : News s.heap L' h5 [] := fun p hp => nomatch hp
  clear F5
  dsimp only
  repeat' (first | ((fail_if_success (with_reducible refine isIf ?_)); walk_at "go2") | (dsimp only; (fail_if_success (with_reducible refine isIf ?_)); walk_at "go2"))
  refine fdiv hnz ?_
  rw [hrc]
  dsimp only
  repeat' (first | ((fail_if_success (with_reducible refine isIf ?_)); walk_at "go2") | (dsimp only; (fail_if_success (with_reducible refine isIf ?_)); walk_at "go2"))
  refine fdiv hnz ?_
  rw [hgc]
  dsimp only
  repeat' (first | ((fail_if_success (with_reducible refine isIf ?_)); walk_at "go2") | (dsimp only; (fail_if_success (with_reducible refine isIf ?_)); walk_at "go2"))
  refine fdiv hnz ?_
  rw [hbc]
  dsimp only
  repeat' (first | ((fail_if_success (with_reducible refine isIf ?_)); walk_at "go2") | (dsimp only; (fail_if_success (with_reducible refine isIf ?_)); walk_at "go2"))
  rename Fr _ _ _ _ => F7
  refine cutC (RGBI2 s L' top r g b tk tl tS) ?_ ?_
  · intro Pz mkP
    have hc := hue_code r g b hw
    walk_at "got"
    refine AutoFloatOps.eq_0 ?_
    rw [eqX xr xM]
    by_cases q1 : r = mx3 r g b
    · rw [if_pos q1] at hc
      rw [decide_eq_true ((heq r).mpr q1)]
      walk_at "got"
      rename Fr _ _ _ _ => F9
      refine mkP _ _ (fun _ zz => zz _ _ _ _ F9 (?_) rfl rfl (by rw [← hc]; rfl))
      all_goals ((try dsimp only); lia)
    rw [if_neg q1] at hc
    rw [decide_eq_false (fun z => q1 ((heq r).mp z))]
    walk_at "got"
    refine AutoFloatOps.eq_0 ?_
    rw [eqX xg xM]
    by_cases q2 : g = mx3 r g b
    · rw [if_pos q2] at hc
      rw [decide_eq_true ((heq g).mpr q2)]
      walk_at "got"
      rename Fr _ _ _ _ => F9
      refine mkP _ _ (fun _ zz => zz _ _ _ _ F9 (?_) rfl rfl (by rw [← hc]; rfl))
      all_goals ((try dsimp only); lia)
    · rw [if_neg q2] at hc
      rw [decide_eq_false (fun z => q2 ((heq g).mp z))]
      walk_at "got"
      rename Fr _ _ _ _ => F9
      refine mkP _ _ (fun _ zz => zz _ _ _ _ F9 (?_) rfl rfl (by rw [← hc]; rfl))
      all_goals ((try dsimp only); lia)
  intro tH tk' h7 m7 F8 b5 l1 l2 l3
  have F9 := frKnown F8 [("l", .float (ligOf top r g b) tl), ("s", .float (satOf top r g b) tS), ("h", .float (hue0 (sect r g b).1 (Float64.ofFrac false (sect r g b).2 (wd3 r g b))) tH)] (by first | exact allc l1 (allc l2 (allc l3 alln)) | simp [l1, l2, l3])
  have N9 : News s.heap L' h7 [] := fun p hp => nomatch hp
  clear F8 F7
  dsimp only
  repeat' (first | ((fail_if_success (with_reducible refine isIf ?_)); walk_at "go2") | (dsimp only; (fail_if_success (with_reducible refine isIf ?_)); walk_at "go2"))
  refine fdiv (nzX c6_X (by decide)) ?_
  repeat' (first | ((fail_if_success (with_reducible refine isIf ?_)); walk_at "go2") | (dsimp only; (fail_if_success (with_reducible refine isIf ?_)); walk_at "go2"))
  refine fmodu (nzX one_X (by decide)) ?_
  rw [hfin]
  dsimp only
  repeat' (first | ((fail_if_success (with_reducible refine isIf ?_)); walk_at "go2") | (dsimp only; (fail_if_success (with_reducible refine isIf ?_)); walk_at "go2"))
  rename Fr _ _ _ _ => F9
  rename News _ _ _ _ => N9
  have z := N9 _ (.head _)
  refine hq _ _ _ _ _ _ (fun b o _ e => F9.keep b o e) z.2.2 z.1 ?_ ?_ ?_ ?_ ?_ ?_
  all_goals ((try dsimp only); lia)
end
end
-- part Way
section
open PySem PySem.W PyProof.Rows PySem.Calls PySem.Flt
set_option maxRecDepth 100000
set_option maxHeartbeats 4000000
theorem fillWay : True := by
  w_top off
  trivial
section
variable {w : World} {A : Around} {s : Shared} {H : Heap} {G : PM} {p : Program} {loose : List Str} {mean : ExcName → Option Value} {mg mb : Str → Option Value} {Q E : Value → Shared → Prop}
noncomputable def pairObj (p : Int × Int) (t1 t2 : Nat) : Obj := { cls := .type "tuple", data := .seq #[.int p.1 t1, .int p.2 t2] 0 }
noncomputable def wayOf (r g b : Nat) : Int × Int := if wd3 r g b = 0 then (0, 1) else (wayP (sect r g b).1 (sect r g b).2 (wd3 r g b), wd3 r g b)
theorem wayOf_eq (r g b : Nat) : wayOf r g b = if wd3 r g b = 0 then (0, 1) else ((if b = mn3 r g b then (if r = mx3 r g b then (g : Int) - mn3 r g b else (wd3 r g b : Int) + mx3 r g b - r)
    else if r = mn3 r g b then (if g = mx3 r g b then 2 * (wd3 r g b : Int) + b - mn3 r g b else 3 * (wd3 r g b : Int) + mx3 r g b - g)
    else (if b = mx3 r g b then 4 * (wd3 r g b : Int) + r - mn3 r g b else 5 * (wd3 r g b : Int) + mx3 r g b - b)), (wd3 r g b : Int)) := by
  unfold wayOf
  by_cases hw : wd3 r g b = 0
  · rw [if_pos hw, if_pos hw]
  rw [if_neg hw, if_neg hw]
  refine Prod.ext ?_ rfl
  refine oAAAAA (mm3 r g b) fun r1 g1 b1 r0 g0 b0 => ?_
  have hM := mx3_or r g b
  have hm := mn3_or r g b
  have hW : (wd3 r g b : Int) = mx3 r g b - mn3 r g b := Int.ofNat_sub (Nat.le_trans r0 r1)
  have hne : mx3 r g b ≠ mn3 r g b := fun q => hw (by unfold wd3; rw [q]; exact Nat.sub_self _)
  dsimp only
  unfold sect
  rw [hW]
  clear hw hW
  have e1 := Int.ofNat_sub r1
  have e2 := Int.ofNat_sub g1
  have e3 := Int.ofNat_sub b1
  generalize mx3 r g b = M at *
  generalize mn3 r g b = m at *
  by_cases q1 : r = M
  · rw [if_pos q1]
    by_cases q2 : b = m
    · rw [if_pos q2, if_pos q2, if_pos q1]
      show ((M : Int) - m) - ((M - g : Nat) : Int) = _
      rw [e2]; clear hM hm e1 e2 e3; lia
    · rw [if_neg q2, if_neg q2, if_neg (fun z => hne (q1.symm.trans z))]
      show 5 * ((M : Int) - m) + ((M - b : Nat) : Int) = _
      rw [e3]
      clear hM hm e1 e2 e3
      split
      · lia
      · lia
  · rw [if_neg q1]
    by_cases q2 : g = M
    · rw [if_pos q2]
      by_cases q3 : b = m
      · rw [if_pos q3, if_pos q3, if_neg q1]
        show ((M : Int) - m) + ((M - r : Nat) : Int) = _
        rw [e1]; clear hM hm e1 e2 e3; lia
      · have q4 : r = m := by
          rcases hm with z | z | z
          · exact z.symm
          · exact absurd (q2.symm.trans z.symm) hne
          · exact absurd z.symm q3
        rw [if_neg q3, if_neg q3, if_pos q4, if_pos q2]
        show 3 * ((M : Int) - m) - ((M - b : Nat) : Int) = _
        rw [e3]; clear hM hm e1 e2 e3; lia
    · have q4 : b = M := by
        rcases hM with z | z | z
        · exact absurd z.symm q1
        · exact absurd z.symm q2
        · exact z.symm
      have q5 : ¬ b = m := fun z => hne (q4.symm.trans z)
      rw [if_neg q2, if_neg q5]
      by_cases q3 : r = m
      · rw [if_pos q3, if_pos q3, if_neg q2]
        show 3 * ((M : Int) - m) + ((M - g : Nat) : Int) = _
        rw [e2]; clear hM hm e1 e2 e3; lia
      · rw [if_neg q3, if_neg q3, if_pos q4]
        show 5 * ((M : Int) - m) - ((M - r : Nat) : Int) = _
        rw [e1]; clear hM hm e1 e2 e3; lia
theorem max3_int {r g b : Nat} {t1 t2 t3 : Tok} : ∃ t, max3V (.int r t1) (.int g t2) (.int b t3) = .int (mx3 r g b) t := by
  have hl : ∀ (a b : Int) (t u : Tok), ltV (.int a t) (.int b u) = decide (a < b) := fun _ _ _ _ => rfl
  unfold max3V mx3
  simp only [hl]
  by_cases q : (r : Int) < g
  · simp only [q, decide_true, if_true, hl]
    by_cases q2 : (g : Int) < b
    · simp only [q2, decide_true, if_true]; exact ⟨t3, by congr 1; lia⟩
    · simp only [q2, decide_false, Bool.false_eq_true, if_false]; exact ⟨t2, by congr 1; lia⟩
  · simp only [q, decide_false, Bool.false_eq_true, if_false, hl]
    by_cases q2 : (r : Int) < b
    · simp only [q2, decide_true, if_true]; exact ⟨t3, by congr 1; lia⟩
    · simp only [q2, decide_false, Bool.false_eq_true, if_false]; exact ⟨t1, by congr 1; lia⟩
theorem min3_int {r g b : Nat} {t1 t2 t3 : Tok} : ∃ t, min3V (.int r t1) (.int g t2) (.int b t3) = .int (mn3 r g b) t := by
  have hl : ∀ (a b : Int) (t u : Tok), ltV (.int a t) (.int b u) = decide (a < b) := fun _ _ _ _ => rfl
  unfold min3V mn3
  simp only [hl]
  by_cases q : (g : Int) < r
  · simp only [q, decide_true, if_true, hl]
    by_cases q2 : (b : Int) < g
    · simp only [q2, decide_true, if_true]; exact ⟨t3, by congr 1; lia⟩
    · simp only [q2, decide_false, Bool.false_eq_true, if_false]; exact ⟨t2, by congr 1; lia⟩
  · simp only [q, decide_false, Bool.false_eq_true, if_false, hl]
    by_cases q2 : (b : Int) < r
    · simp only [q2, decide_true, if_true]; exact ⟨t3, by congr 1; lia⟩
    · simp only [q2, decide_false, Bool.false_eq_true, if_false]; exact ⟨t1, by congr 1; lia⟩
theorem pair_at {h : Heap} {a : Addr} {x y : Int} {t u : Nat} {p : Int × Int} (e : h.get? a = some { cls := .type "tuple", data := .seq #[.int x t, .int y u] 0 }) (hp : p = (x, y)) : h.get? a = some (pairObj p t u) := by subst hp; exact e
theorem way_ok {tr tg tb : Tok} {r g b : Nat}
    (X₀ : (hd.heap_1 w.params).In H) (T : Top p loose mean mg mb H) (st : H.StaysIn s.heap) (hA : A.handled = none) (hu : A.units + 100 < cLine) (hroom : A.depth + 0 < recursionLimit)
    (hq : ∀ (h' : Heap) (tk' : Nat) (a : Addr) (t1 t2 : Nat), Keep [] s.heap h' → s.heap.get? a = none → h'.get? a = some (pairObj (wayOf r g b) t1 t2) →
      Q (.ref a) { s with heap := h', toks := tk' }) :
    wpAny (model PySem.Challenge.rw_mq0320_01.row.prog w) A (call (.ref 110) [.int r tr, .int g tg, .int b tb]) Q E s := by
  refine wpAny_call ?_
  refine' callF (binds := [("r", .int r tr), ("g", .int g tg), ("b", .int b tb)]) [] ?k6 ?k7 (X₀.keeps st) (T.nolimit.keeps st) (by first | exact room1 hroom | lia) ?k9 ?kB ?_ ?c5 ?c2 ?c3 ?c4
  case k6 => k_is
  case k7 => k_is
  case k9 => exact BindsTo.of_eq rfl
  case kB => exact locs rfl
  case c5 => decide
  case c2 => exact rfl
  case c3 => exact rfl
  case c4 => exact rfl
  intro L' h₁ F hk₁ hL
  have X' := X₀.keeps st
  have T' := T.keeps st
  have F0 : Fr s.heap L' h₁ _ := F
  have N0 : News s.heap L' h₁ [] := fun p hp => nomatch hp
  clear X₀ T F
  dsimp only [List.length_cons, List.length_nil]
  walk_at "go"
  refine min_three_num hA (.int _ _) (.int _ _) (.int _ _) fun h2 tk2 K2 => ?_
  refine oE (min3_int (r := r) (g := g) (b := b) (t1 := tr) (t2 := tg) (t3 := tb)) fun tm em => ?_
  rw [em]
  have F2 := frKeep0 F0 K2
  have N2 := newsKeep0 N0 K2
  clear F0 N0
  walk_at "go"
  refine max_three_num hA (.int _ _) (.int _ _) (.int _ _) fun h3 tk3 K3 => ?_
  refine oE (max3_int (r := r) (g := g) (b := b) (t1 := tr) (t2 := tg) (t3 := tb)) fun tM eM => ?_
  rw [eM]
  rename Fr _ _ _ _ => F3
  rename News _ _ _ _ => N3
  have F4 := frKeep0 F3 K3
  have N4 := newsKeep0 N3 K3
  clear F3 N3
  walk_at "go"
  all_goals (
    rename Fr _ _ _ _ => F9
    rename News _ _ _ _ => N9
    have z := N9 _ (.head _)
    refine hq _ _ _ _ _ (fun b o _ e => F9.keep b o e) z.2.2 (pair_at z.1 ?_)
    clear z N9 F9 K2 K3 hq)
  all_goals (rw [wayOf_eq]; clear em eM)
  all_goals (
    have hle : mn3 r g b ≤ mx3 r g b := Nat.le_trans (mm3 r g b).2.2.2.1 (mm3 r g b).1
    have hW : wd3 r g b = mx3 r g b - mn3 r g b := rfl
    clear hu hroom
    generalize wd3 r g b = W at *
    generalize mx3 r g b = M at *
    generalize mn3 r g b = m at *)
  all_goals (first | (rw [if_pos (by lia)]) | (rw [if_neg (by lia)]; (refine Prod.ext ?_ (by dsimp only; lia)); dsimp only))
  · rw [if_pos (by lia), if_pos (by lia)]
  · rw [if_pos (by lia), if_neg (by lia)]; lia
  · rw [if_neg (by lia), if_pos (by lia), if_pos (by lia)]; lia
  · rw [if_neg (by lia), if_pos (by lia), if_neg (by lia)]; lia
  · rw [if_neg (by lia), if_neg (by lia), if_pos (by lia)]; lia
  · rw [if_neg (by lia), if_neg (by lia), if_neg (by lia)]; lia
end
end
-- part Base3
section
open PySem PySem.W PyProof.Rows PySem.Calls
set_option maxRecDepth 100000
end
-- part Told
section
open PySem PySem.W PyProof.Rows PySem.Calls PySem.Flt
set_option maxRecDepth 100000
set_option maxHeartbeats 4000000
theorem fillTold : True := by
  w_top off
  trivial
section
variable {w : World} {A : Around} {s : Shared} {H : Heap} {G : PM} {p : Program} {loose : List Str} {mean : ExcName → Option Value} {mg mb : Str → Option Value} {Q E : Value → Shared → Prop}
noncomputable def rowObj (r g b : Nat) (pl : Int) (t1 t2 t3 t4 : Nat) (n : Nat) : Obj := listOf [.int r t1, .int g t2, .int b t3, .int pl t4].toArray n
theorem mx3_of {M : Int} {r g b : Nat} (h1 : M ∈ [(r : Int), (g : Int), (b : Int)]) (h2 : ∀ a, a ∈ [(r : Int), (g : Int), (b : Int)] → a ≤ M) : M = (mx3 r g b : Nat) := by
  have e := mm3 r g b
  refine Int.le_antisymm ?_ ?_
  · rcases List.mem_cons.mp h1 with rfl | h1
    · exact Int.ofNat_le.mpr e.1
    rcases List.mem_cons.mp h1 with rfl | h1
    · exact Int.ofNat_le.mpr e.2.1
    rw [List.mem_singleton.mp h1]
    exact Int.ofNat_le.mpr e.2.2.1
  · rcases mx3_or r g b with q | q | q <;> rw [q]
    · exact h2 _ (.head _)
    · exact h2 _ (.tail _ (.head _))
    · exact h2 _ (.tail _ (.tail _ (.head _)))
theorem mn3_of {M : Int} {r g b : Nat} (h1 : M ∈ [(r : Int), (g : Int), (b : Int)]) (h2 : ∀ a, a ∈ [(r : Int), (g : Int), (b : Int)] → M ≤ a) : M = (mn3 r g b : Nat) := by
  have e := mm3 r g b
  refine Int.le_antisymm ?_ ?_
  · rcases mn3_or r g b with q | q | q <;> rw [q]
    · exact h2 _ (.head _)
    · exact h2 _ (.tail _ (.head _))
    · exact h2 _ (.tail _ (.tail _ (.head _)))
  · rcases List.mem_cons.mp h1 with rfl | h1
    · exact Int.ofNat_le.mpr e.2.2.2.1
    rcases List.mem_cons.mp h1 with rfl | h1
    · exact Int.ofNat_le.mpr e.2.2.2.2.1
    rw [List.mem_singleton.mp h1]
    exact Int.ofNat_le.mpr e.2.2.2.2.2
theorem told_ok {R : Addr} {r g b top n : Nat} {pl : Int} {t1 t2 t3 t4 : Nat} {tt : Tok}
    (X₀ : (hd.heap_1 w.params).In H) (T : Top p loose mean mg mb H) (st : H.StaysIn s.heap) (hA : A.handled = none) (hu : A.units + 200 < cLine) (hroom : A.depth + 2 < recursionLimit)
    (hR : s.heap.get? R = some (rowObj r g b pl t1 t2 t3 t4 n))
    (hq : ∀ (h' : Heap) (tk' : Nat) (a a1 a2 a3 : Addr) (u1 u2 u3 u4 u5 u6 : Nat), Keep [] s.heap h' → s.heap.get? a = none → h'.get? a = some (listOf [.ref a1, .ref a2, .ref a3].toArray 0) →
      h'.get? a1 = some (pairObj (toldH r g b) u1 u2) → h'.get? a2 = some (pairObj (toldL top r g b) u3 u4) → h'.get? a3 = some (pairObj (toldS top r g b) u5 u6) → s.heap.get? a1 = none → s.heap.get? a2 = none → s.heap.get? a3 = none →
      Q (.ref a) { s with heap := h', toks := tk' }) :
    wpAny (model PySem.Challenge.rw_mq0320_01.row.prog w) A (call (.ref 117) [.ref R, .int top tt]) Q E s := by
  refine wpAny_call ?_
  refine' callF (binds := [("row", .ref R), ("top", .int top tt)]) [] ?k6 ?k7 (X₀.keeps st) (T.nolimit.keeps st) (by first | exact room1 hroom | omega) ?k9 ?kB ?_ ?c5 ?c2 ?c3 ?c4
  case k6 => k_is
  case k7 => k_is
  case k9 => exact BindsTo.of_eq rfl
  case kB => exact locs rfl
  case c5 => decide
  case c2 => exact rfl
  case c3 => exact rfl
  case c4 => exact rfl
  intro L' h₁ F hk₁ hL
  have X' := X₀.keeps st
  have T' := T.keeps st
  have F0 : Fr s.heap L' h₁ _ := F
  have N0 : News s.heap L' h₁ [] := fun p hp => nomatch hp
  clear X₀ T F
  dsimp only [List.length_cons, List.length_nil]
  have hi4 : IntsAre [.int r t1, .int g t2, .int b t3, .int pl t4] [(r : Int), (g : Int), (b : Int), pl] := .cons _ _ (.cons _ _ (.cons _ _ (.cons _ _ .nil)))
  have hi3 : IntsAre [.int r t1, .int g t2, .int b t3] [(r : Int), (g : Int), (b : Int)] := .cons _ _ (.cons _ _ (.cons _ _ .nil))
  walk_at "go"
  rename Fr _ _ _ _ => F1
  rename News _ _ _ _ => N1
  refine kmk_slice_lit (zs := [.int r t1, .int g t2, .int b t3]) F1 N1 (PySem.IsL.isList (n := n) (F1.keep _ _ hR)) .none (.int 3 _) rfl ?_ (by with_unfolding_all rfl) (by intro _; with_unfolding_all rfl) (by show 4 ≤ sizeLine; decide)
  intro D1 h2 F2 N2 hD1
  clear F1 N1 hD1
  walk_at "go"
  rename Fr _ _ _ _ => F1
  rename News _ _ _ _ => N1
  refine kso_max F1 N1 (PySem.IsL.isList (n := 0) (N1 _ (.head _)).1) hi3 (by show 0 < 3; decide) hA ?_
  intro h3 M t tk F3 N3 hM1 hM2
  have e : M = (mx3 r g b : Nat) := mx3_of hM1 hM2
  subst e
  have N4 := newsTail N3
  clear F1 N1 N3 hM1 hM2
  walk_at "go"
  rename Fr _ _ _ _ => F1
  rename News _ _ _ _ => N1
  refine kmk_slice_lit (zs := [.int r t1, .int g t2, .int b t3]) F1 N1 (PySem.IsL.isList (n := n) (F1.keep _ _ hR)) .none (.int 3 _) rfl ?_ (by with_unfolding_all rfl) (by intro _; with_unfolding_all rfl) (by show 4 ≤ sizeLine; decide)
  intro D1 h2 F2 N2 hD1
  clear F1 N1 hD1
  walk_at "go"
  rename Fr _ _ _ _ => F1
  rename News _ _ _ _ => N1
  refine kso_min F1 N1 (PySem.IsL.isList (n := 0) (N1 _ (.head _)).1) hi3 (by show 0 < 3; decide) hA ?_
  intro h3 M t tk F3 N3 hM1 hM2
  have e : M = (mn3 r g b : Nat) := mn3_of hM1 hM2
  subst e
  have N4 := newsTail N3
  clear F1 N1 N3 hM1 hM2
  walk_at "go"
  rename Fr _ _ _ _ => F1
  rename News _ _ _ _ => N1
  refine kmk_slice_lit (zs := [.int r t1, .int g t2, .int b t3]) F1 N1 (PySem.IsL.isList (n := n) (F1.keep _ _ hR)) .none (.int 3 _) rfl ?_ (by with_unfolding_all rfl) (by intro _; with_unfolding_all rfl) (by show 4 ≤ sizeLine; decide)
  intro D1 h2 F2 N2 hD1
  clear F1 N1 hD1
  walk_at "go"
  rename Fr _ _ _ _ => F1
  rename News _ _ _ _ => N1
  refine kso_max F1 N1 (PySem.IsL.isList (n := 0) (N1 _ (.head _)).1) hi3 (by show 0 < 3; decide) hA ?_
  intro h3 M t tk F3 N3 hM1 hM2
  have e : M = (mx3 r g b : Nat) := mx3_of hM1 hM2
  subst e
  have N4 := newsTail N3
  clear F1 N1 N3 hM1 hM2
  walk_at "go"
  rename Fr _ _ _ _ => F1
  rename News _ _ _ _ => N1
  refine kmk_slice_lit (zs := [.int r t1, .int g t2, .int b t3]) F1 N1 (PySem.IsL.isList (n := n) (F1.keep _ _ hR)) .none (.int 3 _) rfl ?_ (by with_unfolding_all rfl) (by intro _; with_unfolding_all rfl) (by show 4 ≤ sizeLine; decide)
  intro D1 h2 F2 N2 hD1
  clear F1 N1 hD1
  walk_at "go"
  rename Fr _ _ _ _ => F1
  rename News _ _ _ _ => N1
  refine kso_min F1 N1 (PySem.IsL.isList (n := 0) (N1 _ (.head _)).1) hi3 (by show 0 < 3; decide) hA ?_
  intro h3 M t tk F3 N3 hM1 hM2
  have e : M = (mn3 r g b : Nat) := mn3_of hM1 hM2
  subst e
  have N4 := newsTail N3
  clear F1 N1 N3 hM1 hM2
  repeat' (first | walk_at "unp" | ((fail_if_success (with_reducible refine isIfE ?_)); walk_at "go1") | (dsimp only; (fail_if_success (with_reducible refine isIfE ?_)); walk_at "go1"))
  rename Fr _ _ _ _ => F1
  rename News _ _ _ _ => N1
  refine cutV F1 (fun v h => ∃ (D : Addr) (u5 u6 : Nat), v = .ref D ∧ News s.heap L' h [(D, pairObj (toldS top r g b) u5 u6)]) ?_ ?_
  · walk_at "go"
    · refine min_two_ints hA fun h' tk hk => ?_
      rename Fr _ _ _ _ => F1
      rename News _ _ _ _ => N1
      have F2 := frKeep (D := []) F1 (fun b o _ e => hk b o e) (by simp) (by simp)
      have N2 := newsKeep (D := []) N1 (fun b o _ e => hk b o e) (by simp)
      clear F1 N1
      have e : toldS top r g b = ((mx3 r g b : Int) - mn3 r g b, min ((mx3 r g b : Int) + mn3 r g b) (2 * top - ((mx3 r g b : Int) + mn3 r g b))) := by
        unfold toldS
        rw [if_neg (by unfold wd3; omega)]
        refine Prod.ext ?_ ?_ <;> dsimp only [wd3, bo3] <;> lia
      split
      · rename_i q
        walk_at "go"
        rename Fr _ _ _ _ => F3
        rename News _ _ _ _ => N3
        have z := N3 _ (.head _)
        refine ⟨_, _, rfl, F3, _, _, _, rfl, newsCons (fun p hp => nomatch hp) (pair_at z.1 ?_) z.2.1 z.2.2⟩
        rw [e]; refine Prod.ext rfl ?_; dsimp only; omega
      · rename_i q
        walk_at "go"
        rename Fr _ _ _ _ => F3
        rename News _ _ _ _ => N3
        have z := N3 _ (.head _)
        refine ⟨_, _, rfl, F3, _, _, _, rfl, newsCons (fun p hp => nomatch hp) (pair_at z.1 ?_) z.2.1 z.2.2⟩
        rw [e]; refine Prod.ext rfl ?_; dsimp only; lia
    · rename Fr _ _ _ _ => F3
      rename News _ _ _ _ => N3
      have z := N3 _ (.head _)
      refine ⟨_, _, rfl, F3, _, _, _, rfl, newsCons (fun p hp => nomatch hp) (pair_at z.1 ?_) z.2.1 z.2.2⟩
      unfold toldS; rw [if_pos (by unfold wd3; omega)]
  rintro v h' tk' F2 ⟨D, u5, u6, rfl, N2⟩
  clear F1 N1
  walk_at "go"
  rename Fr _ _ _ _ => F1
  refine sub_at (j := 0) (F1.keep _ _ hR) rfl rfl (by simp) ?_
  walk_at "go"
  refine sub_at (j := 1) (F1.keep _ _ hR) rfl rfl (by simp) ?_
  walk_at "go"
  refine sub_at (j := 2) (F1.keep _ _ hR) rfl rfl (by simp) ?_
  walk_at "go"
  rename News _ _ _ _ => N1
  refine way_ok X' T' F1.keep hA ?_ ?_ ?_
  · show A.units + 3 + 100 < cLine; first | exact room3 hu (by decide) | omega
  · show A.depth + 1 + 0 < recursionLimit; first | exact room3 hroom (by decide) | omega
  intro h3 tk3 a v1 v2 K3 ha e3
  have F3 := frKeep0 F1 K3
  have N3 := newsFresh F1 ha e3 (newsKeep0 N1 K3)
  clear F1 N1 e3 ha K3
  unfold pairObj at N3
  walk_at "go"
  rename Fr _ _ _ _ => F4
  rename News _ _ _ _ => N4
  have z0 := N4 _ (.head _)
  have z1 := N4 _ (.tail _ (.head _))
  have z2 := N4 _ (.tail _ (.tail _ (.head _)))
  have z4 := N4 _ (.tail _ (.tail _ (.tail _ (.tail _ (.head _)))))
  refine hq _ _ _ _ _ _ _ _ _ _ _ _ (fun b o _ e => F4.keep b o e) z0.2.2 z0.1 (pair_at z2.1 ?_) (pair_at z1.1 ?_) z4.1 z2.2.2 z1.2.2 z4.2.2
  · unfold toldH wayOf; split <;> rfl
  · unfold toldL; refine Prod.ext ?_ rfl; dsimp only [bo3]; lia
end
end
-- part Ahead
section
open PySem PySem.W PyProof.Rows PySem.Calls PySem.Flt
set_option maxRecDepth 100000
set_option maxHeartbeats 4000000
theorem fillAhead : True := by
  w_top off
  trivial
section
variable {w : World} {A : Around} {s : Shared} {H : Heap} {G : PM} {p : Program} {loose : List Str} {mean : ExcName → Option Value} {mg mb : Str → Option Value} {Q E : Value → Shared → Prop}
noncomputable def aheadP : List (Int × Int) → List (Int × Int) → Bool
  | x :: xs, y :: ys => if x.1 * y.2 ≠ y.1 * x.2 then decide (x.1 * y.2 < y.1 * x.2) else aheadP xs ys
  | _, _ => false
noncomputable def FracsAt (G : PM) (a : Addr) (xs : List (Int × Int)) : Prop := ∃ (rs : List Value) (n : Nat), G a = some (listOf rs.toArray n) ∧ rs.length = xs.length ∧ ∀ (j : Nat) (x : Int × Int), xs[j]? = some x → ∃ (c : Addr) (t u : Nat), rs[j]? = some (Value.ref c) ∧ G c = some (pairObj x t u)
theorem FracsAt.mono {G G' : PM} {a : Addr} {xs : List (Int × Int)} (h : FracsAt G a xs) (s : Sub G G') : FracsAt G' a xs :=
  let ⟨rs, n, e, l, k⟩ := h; ⟨rs, n, s _ _ e, l, fun j x hx => let ⟨c, t, u, e1, e2⟩ := k j x hx; ⟨c, t, u, e1, s _ _ e2⟩⟩
noncomputable def zipObj (f0 : Value) (TI TO : Addr) : Obj := { cls := .type "zip", dict := none, data := .fields #[f0, .bool false, .bool false, .ref TI, .ref TO], slots := #[] }
noncomputable def prObj (a b : Value) : Obj := { cls := .type "tuple", data := .seq #[a, b] }
noncomputable def IsLi (o : Obj) (l : Addr) (i : Nat) : Prop := o.cls = .type "list_iterator" ∧ o.data = .fields #[.ref l, .int i 0]
theorem isTup_pair {h : Heap} {a : Addr} {x : Int × Int} {t u : Nat} (e : h.get? a = some (pairObj x t u)) : IsTup h a #[.int x.1 t, .int x.2 u] := ⟨_, e, rfl, _, rfl⟩
theorem isTup_pair' {h : Heap} {a : Addr} {x y : Value} (e : IsPair h a x y) : IsTup h a #[x, y] := ⟨_, e, rfl, _, rfl⟩
noncomputable def AheadI1 (s : Shared) (L' : Addr) (a1 : Addr) (a2 : Addr) (xs : List (Int × Int)) (ys : List (Int × Int)) (k : Nat) (ZZ : Value → Shared → Prop) : Prop := ∀ (z TI TO i1 i2 : Addr), ∀ (j : Nat), ∀ (h' : Heap), ∀ (tk' : Nat), ∀ (m : Str → Option Value), ∀ (u1 u2 : Value), ∀ (o1 o2 : Obj), (Fr s.heap L' h' m) → (ZipApart z TI TO i1 i2 a1 a2) → (News s.heap L' h' [(z, zipObj .none TI TO), (TI, prObj (.ref i1) (.ref i2)), (TO, prObj u1 u2), (i1, o1), (i2, o2)]) → (IsLi o1 a1 j) → (IsLi o2 a2 j) → (j + k = xs.length) → (aheadP (xs.drop j) (ys.drop j) = aheadP xs ys) → ZZ (.ref z) ({ s with heap := h', toks := tk' })
theorem ahead_ok {a1 a2 : Addr} {xs ys : List (Int × Int)}
    (X₀ : (hd.heap_1 w.params).In H) (T : Top p loose mean mg mb H) (st : H.StaysIn s.heap) (hA : A.handled = none) (hu : A.units + 200 < cLine) (hroom : A.depth + 1 < recursionLimit)
    (h1 : FracsAt s.heap.get? a1 xs) (h2 : FracsAt s.heap.get? a2 ys) (hl : xs.length = ys.length) (hd1 : ∀ x ∈ xs, 0 ≤ x.2 ∧ x.2 ≤ 1536) (hd2 : ∀ x ∈ ys, 0 ≤ x.2 ∧ x.2 ≤ 1536)
    (hq : ∀ (h' : Heap) (tk' : Nat), Keep [] s.heap h' → Q (.bool (aheadP xs ys)) { s with heap := h', toks := tk' }) :
    wpAny (model PySem.Challenge.rw_mq0320_01.row.prog w) A (call (.ref 124) [.ref a1, .ref a2]) Q E s := by
  refine wpAny_call ?_
  refine' callF (binds := [("one", .ref a1), ("two", .ref a2)]) [] ?k6 ?k7 (X₀.keeps st) (T.nolimit.keeps st) (by first | exact room1 hroom | lia) ?k9 ?kB ?_ ?c5 ?c2 ?c3 ?c4
  case k6 => k_is
  case k7 => k_is
  case k9 => exact BindsTo.of_eq rfl
  case kB => exact locs rfl
  case c5 => decide
  case c2 => exact rfl
  case c3 => exact rfl
  case c4 => exact rfl
  intro L' h₁ F hk₁ hL
  have X' := X₀.keeps st
  have T' := T.keeps st
  have F0 : Fr s.heap L' h₁ _ := F
  have N0 : News s.heap L' h₁ [] := fun p hp => nomatch hp
  clear X₀ T F
  dsimp only [List.length_cons, List.length_nil]
  refine oEEAA h1 fun rs n1 g1 hr1 k1 => ?_; (try clear h1)
  refine oEEAA h2 fun rs' n2 g2 hr2 k2 => ?_; (try clear h2)
  walk_at "go"
  refine for_myC (AheadI1 s L' a1 a2 xs ys) ?_ ?_
  · walk_at "go"
    rename Fr _ _ _ _ => F1
    have b1 : a1 < h₁.objs.size := Heap.lt_size (F1.keep _ _ g1)
    have b2 : a2 < h₁.objs.size := Heap.lt_size (F1.keep _ _ g2)
    refine call_zip_2 (PySem.IsL.isList (n := n1) (F1.keep _ _ g1)) (PySem.IsL.isList (n := n2) (F1.keep _ _ g2)) fun h' e1 e2 e3 ⟨o1, e4, c4⟩ ⟨o2, e5, c5⟩ hsz hk => ?_
    have F2 := F1.keeps hk
    have hf : ∀ c, h₁.objs.size ≤ c → c ≠ L' ∧ s.heap.get? c = none := fun c hc => fresh_base F1 (Heap.get?_none_of_le hc)
    have N2 : News s.heap L' h' [(h₁.objs.size + 4, zipObj .none (h₁.objs.size + 2) (h₁.objs.size + 3)), (h₁.objs.size + 2, prObj (.ref h₁.objs.size) (.ref (h₁.objs.size + 1))), (h₁.objs.size + 3, prObj .none .none), (h₁.objs.size, o1), (h₁.objs.size + 1, o2)] :=
      newsCons (newsCons (newsCons (newsCons (newsCons (fun p hp => nomatch hp) e5 (hf _ (Nat.le_add_right _ _)).1 (hf _ (Nat.le_add_right _ _)).2) e4 (hf _ (Nat.le_refl _)).1 (hf _ (Nat.le_refl _)).2) e3 (hf _ (Nat.le_add_right _ _)).1 (hf _ (Nat.le_add_right _ _)).2) e2 (hf _ (Nat.le_add_right _ _)).1 (hf _ (Nat.le_add_right _ _)).2) e1 (hf _ (Nat.le_add_right _ _)).1 (hf _ (Nat.le_add_right _ _)).2
    walk_at "go"
    exact wpAny_pyIter_zip e1 ⟨xs.length, fun _ zz => zz _ _ _ _ _ 0 h' _ _ _ _ o1 o2 F2 (zipApart_new b1 b2) N2 c4 c5 (by lia) rfl⟩
  · intro k z TI TO i1 i2 j h' tk' m u1 u2 o1 o2 F1 D N1 c4 c5 hj hP
    intro Bz mkB
    have z1 := N1 _ (.head _)
    have z2 := N1 _ (.tail _ (.head _))
    have z3 := N1 _ (.tail _ (.tail _ (.head _)))
    have z4 := N1 _ (.tail _ (.tail _ (.tail _ (.head _))))
    have z5 := N1 _ (.tail _ (.tail _ (.tail _ (.tail _ (.head _)))))
    have il1 := PySem.IsL.isList (n := n1) (F1.keep _ _ g1)
    have il2 := PySem.IsL.isList (n := n2) (F1.keep _ _ g2)
    have hkeep : ∀ h2 : Heap, (∀ c o, c ≠ z → c ≠ TO → c ≠ i1 → c ≠ i2 → h'.get? c = some o → h2.get? c = some o) → Keep [z, TO, i1, i2] h' h2 := fun h2 q c o hc e => by
      simp only [List.mem_cons, List.not_mem_nil, or_false, not_or] at hc
      exact q c o hc.1 hc.2.1 hc.2.2.1 hc.2.2.2 e
    have hL4 : L' ∉ [z, TO, i1, i2] := by simp [z1.2.1.symm, z3.2.1.symm, z4.2.1.symm, z5.2.1.symm]
    have hN4 : ∀ d ∈ [z, TO, i1, i2], s.heap.get? d = none := by
      intro d hd
      simp only [List.mem_cons, List.not_mem_nil, or_false] at hd
      rcases hd with rfl | rfl | rfl | rfl
      · exact z1.2.2
      · exact z3.2.2
      · exact z4.2.2
      · exact z5.2.2
    rcases Nat.eq_zero_or_pos k with rfl | hk
    · refine wpAny_pyNext_zip_end hA D z1.1 z2.1 z3.1 ⟨o1, z4.1, c4⟩ ⟨o2, z5.1, c5⟩ il1 il2 (.inl (by simp; lia)) fun h2 q => ?_
      have F2 := frKeep F1 (hkeep h2 q) hL4 hN4
      have N2 : News s.heap L' h2 [] := fun p hp => nomatch hp
      clear F1
      have e : aheadP xs ys = false := by
        rw [← hP, List.drop_of_length_le (by lia), List.drop_of_length_le (by lia)]; rfl
      rw [e] at hq
      walk_at "go"
      exact hq _ _ fun b o _ e => F2.keep b o e
    · have hjx : j < xs.length := by lia
      have hjy : j < ys.length := by lia
      refine oEEEA (k1 j _ (List.getElem?_eq_getElem hjx)) fun c1 t1 t2 r1 p1 => ?_
      refine oEEEA (k2 j _ (List.getElem?_eq_getElem hjy)) fun c2 t3 t4 r2 p2 => ?_
      rw [List.drop_eq_getElem_cons hjx, List.drop_eq_getElem_cons hjy] at hP
      have dx := hd1 _ (List.getElem_mem hjx)
      have dy := hd2 _ (List.getElem_mem hjy)
      generalize xs[j] = x at *
      generalize ys[j] = y at *
      have m1 : IntMulOk x.1 y.2 := IntMulOk.of_right (intBits_le_64 (by lia) (by lia))
      have m2 : IntMulOk y.1 x.2 := IntMulOk.of_right (intBits_le_64 (by lia) (by lia))
      have ip1 := isTup_pair p1
      have ip2 := isTup_pair p2
      refine wpAny_pyNext_zip_item D z1.1 z2.1 z3.1 ⟨o1, z4.1, c4⟩ ⟨o2, z5.1, c5⟩ il1 il2 (x := .ref c1) (y := .ref c2) (by first | exact nin1 (r1) | exact nin2 (r1) | exact allc (r1) alln | simpa using r1) (by first | exact nin1 (r2) | exact nin2 (r2) | exact allc (r2) alln | simpa using r2) fun h2 f1 f2 ⟨o3, f3, d3⟩ ⟨o4, f4, d4⟩ f5 f6 f7 => ?_
      have F2 := frKeep F1 (hkeep h2 f7) hL4 hN4
      have hT := fresh_base F1 (Heap.get?_none_of_le (Nat.le_refl _))
      dsimp only
      refine wpAny_letOwnedTupleGo_zip f1 fun h3 g3 K3 => ?_
      have KK := Keep.ofSame K3
      have F3 := frKeep1 F2 KK z1.2
      have N3 : News s.heap L' h3 [(h'.objs.size, prObj (.ref c1) (.ref c2)), (z, zipObj .none TI TO), (TI, prObj (.ref i1) (.ref i2)), (TO, prObj (.ref c1) (.ref c2)), (i1, o3), (i2, o4)] := by
        have hzT : h'.objs.size ≠ z := Nat.ne_of_gt (Heap.lt_size z1.1)
        refine newsCons (newsCons (newsCons (newsCons (newsCons (newsCons (fun p hp => nomatch hp) (KK _ _ ?_ f4) z5.2.1 z5.2.2) (KK _ _ ?_ f3) z4.2.1 z4.2.2) (KK _ _ ?_ f2) z3.2.1 z3.2.2) (KK _ _ ?_ (f7 _ _ D.TIz D.TITO D.TIi1 D.TIi2 z2.1)) z2.2.1 z2.2.2) g3 z1.2.1 z1.2.2) (KK _ _ ?_ f5) hT.1 hT.2
        · simpa using D.i2z
        · simpa using D.i1z
        · simpa using D.TOz
        · simpa using D.TIz
        · simpa using hzT
      clear F1 F2 N1
      unfold prObj zipObj at N3
      walk_at "go"
      · rename Fr _ _ _ _ => F4
        have e : aheadP xs ys = decide (x.1 * y.2 < y.1 * x.2) := by
          rw [← hP]; unfold aheadP; rw [if_pos (by assumption)]
        rw [e] at hq
        dsimp only
        exact hq _ _ fun b o _ e => F4.keep b o e
      · rename Fr _ _ _ _ => F4
        rename News _ _ _ _ => N4
        have N5 := newsTail N4
        refine mkB (k - 1) _ (by lia) (fun _ zz => zz z TI TO i1 i2 (j + 1) _ _ _ _ _ o3 o4 F4 D N5 d3 d4 (by lia) (?_))
        rw [← hP]
        conv => rhs; unfold aheadP
        rw [if_neg (fun q => q (by assumption))]
end
end
-- part Ord
section
open PySem PySem.W PyProof.Rows PySem.Calls PySem.Flt
set_option maxRecDepth 100000
set_option maxHeartbeats 4000000
theorem fillOrd : True := by
  w_top off
  trivial
section
variable {w : World} {A : Around} {s : Shared} {H : Heap} {G : PM} {p : Program} {loose : List Str} {mean : ExcName → Option Value} {mg mb : Str → Option Value} {Q E : Value → Shared → Prop}
noncomputable def insAt (bef : Nat → Nat → Bool) (x : Nat) : List Nat → List Nat
  | [] => [x]
  | y :: ys => if bef x y then x :: y :: ys else y :: insAt bef x ys
noncomputable def ordP (bef : Nat → Nat → Bool) (n : Nat) : List Nat := (List.range n).foldl (fun acc x => insAt bef x acc) []
theorem ordP_succ (bef : Nat → Nat → Bool) (n : Nat) : ordP bef (n + 1) = insAt bef n (ordP bef n) := by
  unfold ordP; rw [List.range_succ, List.foldl_append]; rfl
theorem insAt_perm (bef : Nat → Nat → Bool) (x : Nat) : ∀ l : List Nat, (insAt bef x l).Perm (x :: l)
  | [] => .refl _
  | y :: ys => by
    unfold insAt
    split
    · exact .refl _
    · exact ((insAt_perm bef x ys).cons y).trans (.swap _ _ _)
theorem ordP_perm (bef : Nat → Nat → Bool) : ∀ n : Nat, (ordP bef n).Perm (List.range n)
  | 0 => .refl _
  | n + 1 => by
    rw [ordP_succ, List.range_succ]
    exact (insAt_perm bef n _).trans (((ordP_perm bef n).cons n).trans (List.perm_append_comm (l₁ := [n]) (l₂ := List.range n)))
theorem ordP_length (bef : Nat → Nat → Bool) (n : Nat) : (ordP bef n).length = n := by rw [(ordP_perm bef n).length_eq, List.length_range]
theorem insAt_at {bef : Nat → Nat → Bool} {x : Nat} : ∀ {l : List Nat} {k : Nat}, k ≤ l.length → (∀ i y, i < k → l[i]? = some y → bef x y = false) → (∀ y, l[k]? = some y → bef x y = true) → insAt bef x l = l.take k ++ x :: l.drop k
  | [], k, hk, h1, h2 => by
    have : k = 0 := by simpa using hk
    subst this; rfl
  | y :: ys, 0, hk, h1, h2 => by
    unfold insAt; rw [if_pos (h2 y rfl)]; rfl
  | y :: ys, k + 1, hk, h1, h2 => by
    unfold insAt
    rw [if_neg (by rw [h1 0 y (by lia) rfl]; decide), insAt_at (l := ys) (k := k) (by first | exact nin1 (hk) | exact nin2 (hk) | exact allc (hk) alln | simpa using hk) (fun i z hi hz => h1 (i + 1) z (by lia) (by first | exact nin1 (hz) | exact nin2 (hz) | exact allc (hz) alln | simpa using hz)) (fun z hz => h2 z (by first | exact nin1 (hz) | exact nin2 (hz) | exact allc (hz) alln | simpa using hz))]
    rfl
noncomputable def ToldsAt (G : PM) (a : Addr) (xss : List (List (Int × Int))) : Prop := ∃ (rs : List Value) (n : Nat), G a = some (listOf rs.toArray n) ∧ rs.length = xss.length ∧ ∀ (j : Nat) (xs : List (Int × Int)), xss[j]? = some xs → ∃ c : Addr, rs[j]? = some (Value.ref c) ∧ FracsAt G c xs
noncomputable def befOf (xss : List (List (Int × Int))) (f : Bool) (p q : Nat) : Bool := if f then aheadP (xss.getD q []) (xss.getD p []) else aheadP (xss.getD p []) (xss.getD q [])
noncomputable def IntsOf (vs : List Value) (l : List Nat) : Prop := IntsAre vs (l.map fun x : Nat => (x : Int))
theorem IntsOf.get {vs : List Value} {l : List Nat} (h : IntsOf vs l) {j y : Nat} (e : l[j]? = some y) : ∃ t, vs[j]? = some (.int y t) := by
  unfold IntsOf at h
  generalize hn : (l.map fun x : Nat => (x : Int)) = ns at h
  have e' : ns[j]? = some (y : Int) := by rw [← hn]; simp [e]
  clear hn e
  induction h generalizing j with
  | nil => simp at e'
  | cons n t h ih =>
    cases j with
    | zero => simp at e'; exact ⟨t, by simp [e']⟩
    | succ j => simpa using ih (by first | exact nin1 (e') | exact nin2 (e') | exact allc (e') alln | simpa using e')
theorem IntsOf.ins {vs : List Value} {l : List Nat} (h : IntsOf vs l) (k x : Nat) (t : Tok) : IntsOf (vs.take k ++ .int x t :: vs.drop k) (l.take k ++ x :: l.drop k) := by
  unfold IntsOf at *
  rw [List.map_append, List.map_cons, List.map_take, List.map_drop]
  have h1 := h.take k
  have h2 := h.drop k
  generalize (l.map fun x : Nat => (x : Int)).take k = n1 at *
  generalize vs.take k = v1 at *
  induction h1 with
  | nil => exact .cons _ _ h2
  | cons n t h ih => exact .cons _ _ ih
theorem IntsOf.len {vs : List Value} {l : List Nat} (h : IntsOf vs l) : vs.length = l.length := by
  have := IntsAre.length h; simpa using this
theorem small_n {n : Nat} (h : n < 2 ^ 20) : Builtin.Range.small 0 (n : Int) 1 = true := small_one (by lia) (by lia) (by lia) (by lia)
noncomputable def OrdI1 (s : Shared) (L' : Addr) (ta : Addr) (xss : List (List (Int × Int))) (fall : Bool) (c : Nat) (ZZ : Value → Shared → Prop) : Prop := ∀ (I P : Addr), ∀ (j nn : Nat), ∀ (vs : List Value), ∀ (h' : Heap), ∀ (tk' : Nat), ∀ (m : Str → Option Value), (I ≠ P) → (Fr s.heap L' h' m) → (News s.heap L' h' [(P, listOf vs.toArray nn), (I, riObj j c 1)]) → (m "places" = some (.ref P)) → (m "told" = some (.ref ta)) → (m "falling" = some (.bool fall)) → (j + c = xss.length) → (IntsOf vs (ordP (befOf xss fall) j)) → ZZ (.ref I) ({ s with heap := h', toks := tk' })
noncomputable def OrdI2 (s : Shared) (L' : Addr) (I : Addr) (P : Addr) (ta : Addr) (j : Nat) (c : Nat) (nn : Nat) (vs : List Value) (xss : List (List (Int × Int))) (fall : Bool) (ZZ : Flow → Shared → Prop) : Prop := ∀ (k : Nat), ∀ (h' : Heap), ∀ (tk' : Nat), ∀ (m : Str → Option Value), ∀ (tp tq : Tok), (Fr s.heap L' h' m) → (News s.heap L' h' [(P, listOf vs.toArray nn), (I, riObj (j + 1 : Nat) (c - 1 : Nat) 1)]) → (m "places" = some (.ref P)) → (m "told" = some (.ref ta)) → (m "falling" = some (.bool fall)) → (m "place" = some (.int j tp)) → (m "k" = some (.int k tq)) → (k ≤ j) → ((∀ i y, i < k → (ordP (befOf xss fall) j)[i]? = some y → befOf xss fall j y = false)) → ((∀ y, (ordP (befOf xss fall) j)[k]? = some y → befOf xss fall j y = true)) → ZZ (.next) ({ s with heap := h', toks := tk' })
noncomputable def OrdI3 (s : Shared) (L' : Addr) (I : Addr) (P : Addr) (ta : Addr) (j : Nat) (c : Nat) (nn : Nat) (vs : List Value) (xss : List (List (Int × Int))) (fall : Bool) (c' : Nat) (ZZ : Shared → Prop) : Prop := ∀ (k : Nat), ∀ (h' : Heap), ∀ (tk' : Nat), ∀ (m : Str → Option Value), ∀ (tp tq : Tok), (Fr s.heap L' h' m) → (News s.heap L' h' [(P, listOf vs.toArray nn), (I, riObj (j + 1 : Nat) (c - 1 : Nat) 1)]) → (m "places" = some (.ref P)) → (m "told" = some (.ref ta)) → (m "falling" = some (.bool fall)) → (m "place" = some (.int j tp)) → (m "k" = some (.int k tq)) → (k + c' = j) → (∀ i y, i < k → (ordP (befOf xss fall) j)[i]? = some y → befOf xss fall j y = false) → ZZ ({ s with heap := h', toks := tk' })
theorem order_ok {ta : Addr} {xss : List (List (Int × Int))} {fall : Bool} {d : Nat}
    (X₀ : (hd.heap_1 w.params).In H) (T : Top p loose mean mg mb H) (st : H.StaysIn s.heap) (hA : A.handled = none) (hu : A.units + 300 < cLine) (hroom : A.depth + 2 < recursionLimit)
    (h1 : ToldsAt s.heap.get? ta xss) (hl : ∀ xs ∈ xss, xs.length = d ∧ ∀ x ∈ xs, 0 ≤ x.2 ∧ x.2 ≤ 1536) (hn : xss.length < 2 ^ 20)
    (hq : ∀ (h' : Heap) (tk' : Nat) (a : Addr) (vs : List Value) (n : Nat), Keep [] s.heap h' → s.heap.get? a = none → h'.get? a = some (listOf vs.toArray n) → IntsOf vs (ordP (befOf xss fall) xss.length) → Q (.ref a) { s with heap := h', toks := tk' }) :
    wpAny (model PySem.Challenge.rw_mq0320_01.row.prog w) A (call (.ref 131) [.ref ta, .bool fall]) Q E s := by
  refine wpAny_call ?_
  refine' callF (binds := [("told", .ref ta), ("falling", .bool fall)]) [] ?k6 ?k7 (X₀.keeps st) (T.nolimit.keeps st) (by first | exact room1 hroom | lia) ?k9 ?kB ?_ ?c5 ?c2 ?c3 ?c4
  case k6 => k_is
  case k7 => k_is
  case k9 => exact BindsTo.of_eq rfl
  case kB => exact locs rfl
  case c5 => decide
  case c2 => exact rfl
  case c3 => exact rfl
  case c4 => exact rfl
  intro L' h₁ F hk₁ hL
  have X' := X₀.keeps st
  have T' := T.keeps st
  have F0 : Fr s.heap L' h₁ _ := F
  have N0 : News s.heap L' h₁ [] := fun p hp => nomatch hp
  clear X₀ T F
  dsimp only [List.length_cons, List.length_nil]
  refine oEEAA h1 fun rs n1 g1 hr1 k1 => ?_; (try clear h1)
  have hL' := PySem.IsL.isList (n := n1) g1
  walk_at "go"
  rename Fr _ _ _ _ => F1
  rename News _ _ _ _ => N1
  refine for_myC (OrdI1 s L' ta xss fall) ?_ ?_
  · walk_at "go"
    refine len_list (PySem.IsL.isList (n := n1) (F1.keep _ _ g1)) (by simp; lia) ?_
    walk_at "go"
    refine call_range_1 ?_
    walk_at "go"
    have hsz : (rs.toArray.size : Int) = (xss.length : Int) := by simp [hr1]
    rw [hsz]
    refine wpAny_pyIter_range (IsRange.new ..) (small_n hn) ?_
    have e3 : Builtin.Range.rangeSize 0 (xss.length : Int) 1 = (xss.length : Int) := by rw [rangeSize_one]; split <;> lia
    rw [e3]
    have z := N1 _ (.head _)
    refine ⟨xss.length, fun _ zz => zz _ _ 0 0 ([]) _ _ _ (?_) ((F1.push _).push _) (?_) rfl rfl rfl (by lia) IntsAre.nil⟩
    · have hlt := Heap.lt_size z.1
      intro e
      simp only [Heap.size_push] at e
      exact Nat.ne_of_gt (Nat.lt_succ_of_lt hlt) e
    · refine newsCons (newsCons (fun p hp => nomatch hp) (Heap.get?_push_size _ rfl) ?_ ?_) (Heap.get?_push_of_some _ (Heap.get?_push_of_some _ z.1)) z.2.1 z.2.2
      · exact (fresh_base (F1.push _) (Heap.get?_none_of_le (Nat.le_refl _))).1
      · exact (fresh_base (F1.push _) (Heap.get?_none_of_le (Nat.le_refl _))).2
  · intro c I P j nn vs h' tk' m hIP F2 N2 l1 l2 l3 hj hI
    intro Bz mkB
    have zP := N2 _ (.head _)
    have zI := N2 _ (.tail _ (.head _))
    rcases Nat.eq_zero_or_pos c with rfl | hc
    · refine wpAny_pyNext_range_end hA zI.1 (by simp) fun h2 hx => ?_
      have F3 := frKeep F2 (Keep.ofExt hx) (by first | exact nin1 (Ne.symm zI.2.1) | exact nin2 (Ne.symm zI.2.1) | exact allc (Ne.symm zI.2.1) alln | simpa using Ne.symm zI.2.1) (by first | exact nin1 (zI.2.2) | exact nin2 (zI.2.2) | exact allc (zI.2.2) alln | simpa using zI.2.2)
      have N3 : News s.heap L' h2 [] := fun p hp => nomatch hp
      have F4 := frKnown F3 [("places", .ref P)] (by first | exact allc l1 alln | simp [l1])
      clear F1 N1 F2 N2 F3
      walk_at "go"
      refine hq _ _ P vs nn (fun b o _ e => F4.keep b o e) zP.2.2 (Keep.ofExt hx _ _ (by first | exact nin1 (Ne.symm hIP) | exact nin2 (Ne.symm hIP) | exact allc (Ne.symm hIP) alln | simpa using Ne.symm hIP) zP.1) ?_
      rw [show xss.length = j by lia]; exact hI
    · refine wpAny_pyNext_range_item zI.1 (by lia) fun h2 hI2 hx => ?_
      have F3 := frKeep F2 (Keep.ofSame hx) (by first | exact nin1 (Ne.symm zI.2.1) | exact nin2 (Ne.symm zI.2.1) | exact allc (Ne.symm zI.2.1) alln | simpa using Ne.symm zI.2.1) (by first | exact nin1 (zI.2.2) | exact nin2 (zI.2.2) | exact allc (zI.2.2) alln | simpa using zI.2.2)
      have N3 : News s.heap L' h2 [(P, listOf vs.toArray nn), (I, riObj (j + 1 : Nat) (c - 1 : Nat) 1)] := by
        refine newsCons (newsCons (fun p hp => nomatch hp) ?_ zI.2.1 zI.2.2) (Keep.ofSame hx _ _ (by first | exact nin1 (Ne.symm hIP) | exact nin2 (Ne.symm hIP) | exact allc (Ne.symm hIP) alln | simpa using Ne.symm hIP) zP.1) zP.2.1 zP.2.2
        exact ri_ext hI2 (by lia) (by lia)
      have F4 := frKnown F3 [("places", .ref P), ("told", .ref ta), ("falling", .bool fall)] (by first | exact allc l1 (allc l2 (allc l3 alln)) | simp [l1, l2, l3])
      clear F1 N1 F2 N2 F3
      dsimp only
      refine letGo_name (wpAny_assign_Name ?_)
      walk_at "go"
      rename Fr _ _ _ _ => F5
      rename News _ _ _ _ => N5
      have hlen : (ordP (befOf xss fall) j).length = j := ordP_length _ _
      have hvl : vs.length = j := by rw [hI.len, hlen]
      refine cutC (OrdI2 s L' I P ta j c nn vs xss fall) ?_ ?_
      · intro Pz mkP
        refine while_myC (OrdI3 s L' I P ta j c nn vs xss fall) ?_ j ?_
        · intro c' k h3 tk3 m3 tp tq F6 N6 l1 l2 l3 l4 l5 hk hbef
          intro Bz mkB
          have F7 := frKnown F6 [("places", .ref P), ("told", .ref ta), ("falling", .bool fall), ("place", .int j tp), ("k", .int k tq)] (by first | exact allc l1 (allc l2 (allc l3 (allc l4 (allc l5 alln)))) | simp [l1, l2, l3, l4, l5])
          clear F5 N5 F6
          walk_at "go"
          refine len_list (PySem.IsL.isList (n := nn) (N6 _ (.head _)).1) (by simp; lia) ?_
          have hvz : (vs.toArray.size : Int) = (j : Int) := by simp [hvl]
          rw [hvz]
          rcases Nat.eq_zero_or_pos c' with rfl | hc'
          · walk_at "go"
            exact mkP _ _ (fun _ zz => zz k _ _ _ _ _ F7 N6 rfl rfl rfl rfl rfl (by lia) hbef (fun y hy => by rw [List.getElem?_eq_none (by lia)] at hy; cases hy))
          have hkl : k < (ordP (befOf xss fall) j).length := by lia
          refine oE (⟨_, List.getElem?_eq_getElem hkl⟩ : ∃ y, (ordP (befOf xss fall) j)[k]? = some y) fun y ey => ?_
          refine oE (hI.get ey) fun ty ey2 => ?_
          have hyj : y < j := List.mem_range.mp ((ordP_perm _ _).mem_iff.mp (List.mem_of_getElem? ey))
          have hjj : j < xss.length := by lia
          have hyy : y < xss.length := by lia
          refine oEA (k1 j _ (List.getElem?_eq_getElem hjj)) fun aj rj cj => ?_
          refine oEA (k1 y _ (List.getElem?_eq_getElem hyy)) fun ay ry cy => ?_
          have lj := hl _ (List.getElem_mem hjj)
          have ly := hl _ (List.getElem_mem hyy)
          have gj : xss[j] = xss.getD j [] := by simp [hjj]
          have gy : xss[y] = xss.getD y [] := by simp [hyy]
          rw [gj] at cj lj
          rw [gy] at cy ly
          walk_at "go"
          refine sub_at (j := j) (F7.keep _ _ g1) rfl rj (by lia) ?_
          walk_at "go"
          refine sub_at (j := k) (N6 _ (.head _)).1 rfl ey2 (by lia) ?_
          walk_at "go"
          refine sub_at (j := y) (F7.keep _ _ g1) rfl ry (by lia) ?_
          rcases fall with _ | _
          · walk_at "go"
            rename Fr _ _ _ _ => F8
            rename News _ _ _ _ => N8
            have fj := FracsAt.mono cj F8.keep
            have fy := FracsAt.mono cy F8.keep
            refine ahead_ok (xs := xss.getD j []) (ys := xss.getD y []) X' T' F8.keep hA ?_ ?_ fj fy (by rw [lj.1, ly.1]) lj.2 ly.2 ?_
            · show A.units + 3 + 200 < cLine; first | exact room3 hu (by decide) | lia
            · show A.depth + 1 + 1 < recursionLimit; first | exact room3 hroom (by decide) | lia
            intro h7 tk7 K7
            have F9 := frKeep0 F8 K7
            have N9 := newsKeep0 N8 K7
            clear F8 N8
            have eb : befOf xss false j y = aheadP (xss.getD j []) (xss.getD y []) := rfl
            cases hb : aheadP (xss.getD j []) (xss.getD y []) with
            | true =>
              rw [hb] at eb
              walk_at "go"
              refine mkP _ _ (fun _ zz => zz k _ _ _ _ _ F9 (?_) rfl rfl rfl rfl rfl (by lia) hbef (fun z hz => by rw [ey] at hz; cases hz; exact eb))
              first | exact N9 | exact newsTail N9
            | false =>
              rw [hb] at eb
              walk_at "go"
              rename Fr _ _ _ _ => F10
              rename News _ _ _ _ => N10
              refine mkB (c' - 1) _ (by lia) (fun _ zz => zz (k + 1) _ _ _ _ _ F10 (?_) rfl rfl rfl rfl rfl (by lia) (?_))
              · first | exact N10 | exact newsTail N10
              · intro i z hi hz
                rcases Nat.lt_or_eq_of_le (Nat.lt_succ_iff.mp hi) with q | rfl
                · exact hbef i z q hz
                · rw [ey] at hz; cases hz; exact eb
          · walk_at "go"
            rename Fr _ _ _ _ => F8
            rename News _ _ _ _ => N8
            have fj := FracsAt.mono cj F8.keep
            have fy := FracsAt.mono cy F8.keep
            refine ahead_ok (xs := xss.getD y []) (ys := xss.getD j []) X' T' F8.keep hA ?_ ?_ fy fj (by rw [ly.1, lj.1]) ly.2 lj.2 ?_
            · show A.units + 3 + 200 < cLine; first | exact room3 hu (by decide) | lia
            · show A.depth + 1 + 1 < recursionLimit; first | exact room3 hroom (by decide) | lia
            intro h7 tk7 K7
            have F9 := frKeep0 F8 K7
            have N9 := newsKeep0 N8 K7
            clear F8 N8
            have eb : befOf xss true j y = aheadP (xss.getD y []) (xss.getD j []) := rfl
            cases hb : aheadP (xss.getD y []) (xss.getD j []) with
            | true =>
              rw [hb] at eb
              walk_at "go"
              refine mkP _ _ (fun _ zz => zz k _ _ _ _ _ F9 (?_) rfl rfl rfl rfl rfl (by lia) hbef (fun z hz => by rw [ey] at hz; cases hz; exact eb))
              first | exact N9 | exact newsTail N9
            | false =>
              rw [hb] at eb
              walk_at "go"
              rename Fr _ _ _ _ => F10
              rename News _ _ _ _ => N10
              refine mkB (c' - 1) _ (by lia) (fun _ zz => zz (k + 1) _ _ _ _ _ F10 (?_) rfl rfl rfl rfl rfl (by lia) (?_))
              · first | exact N10 | exact newsTail N10
              · intro i z hi hz
                rcases Nat.lt_or_eq_of_le (Nat.lt_succ_iff.mp hi) with q | rfl
                · exact hbef i z q hz
                · rw [ey] at hz; cases hz; exact eb
        · exact (fun _ zz => zz 0 _ _ _ _ _ F5 N5 rfl rfl rfl rfl rfl (by lia) (fun i y hi => absurd hi (Nat.not_lt_zero _)))
      intro k h3 tk3 m3 tp tq F6 N6 l1 l2 l3 l4 l5 hk hbef haft
      have F7 := frKnown F6 [("places", .ref P), ("told", .ref ta), ("falling", .bool fall), ("place", .int j tp), ("k", .int k tq)] (by first | exact allc l1 (allc l2 (allc l3 (allc l4 (allc l5 alln)))) | simp [l1, l2, l3, l4, l5])
      clear F5 N5 F6
      dsimp only
      walk_at "go"
      have hkl2 : kl_ins vs k (.int j tp) = vs.take k ++ .int j tp :: vs.drop k := by
        unfold kl_ins
        rw [if_neg (by lia), show min (k : Int).toNat vs.length = k by lia]
      refine kl_insert (l := vs.take k ++ .int j tp :: vs.drop k) F7 N6 ?_ (by first | exact nin1 (hkl2) | exact nin2 (hkl2) | exact allc (hkl2) alln | simpa using hkl2) (.head ?_) ?_ ?_
      · simp only [Builtin.List.listFitsIndex, Bool.and_eq_true, decide_eq_true_eq]; lia
      · intro p hp; rw [List.mem_singleton.mp hp]; exact hIP
      · simp [sizeLine_eq]; lia
      intro h8 F8 N8
      walk_at "go"
      refine mkB (c - 1) _ (by lia) (fun _ zz => zz I P (j + 1) _ _ _ _ _ hIP F8 N8 rfl rfl rfl (by lia) (?_))
      rw [ordP_succ, insAt_at (by lia) hbef haft]
      exact hI.ins k j tp
end
end
-- part Base4
section
open PySem PySem.W PyProof.Rows PySem.Calls
set_option maxRecDepth 100000
set_option maxHeartbeats 4000000
theorem callFC {w : World} {A : Around} {s : Shared} {R : Result → Shared → Prop} {name qual : Str} {params : Arguments} {body : List Stmt} {scope : Scope} {dV kV doc pm cdv ct oc : Value} {an od : Option Addr} {osl : Array (Option Value)} {f : Addr} {args : Args} {binds : List (Str × Value)}
    (D : List Addr)
    (ho : (hd.heap_1 w.params).lookup f = some ⟨oc, od, .func (fnOf name qual params body scope dV kV doc pm an cdv ct), osl⟩) (hcd : codeIn (hd.heap_1 w.params) cdv qual = true)
    (X : (hd.heap_1 w.params).In s.heap) (lim : s.heap.NoLimit) (hroom : A.depth < recursionLimit)
    (hbind : BindsTo s (fnOf name qual params body scope dV kV doc pm an cdv ct) args binds)
    (hkind : (binds.all fun y => scope.names.lookup y.1 == some .local || scope.names.lookup y.1 == some .cell) = true)
    (hnd : ((cellsFrom 0 scope.names []).map (·.1)).Nodup)
    (h : ∀ L' h₁ tk cells, Fr (hideAll s.heap D) L' h₁ (bindL (envOfC qual scope L' f cdv).kindOf binds fun _ => none) → News (hideAll s.heap D) L' h₁ cells →
      CellsAre (bindC (envOfC qual scope L' f cdv).kindOf binds fun _ => none) (cellsFrom (L' + 1) scope.names []) cells → (∀ b o, s.heap.get? b = some o → h₁.get? b = some o) → L' = s.heap.objs.size → s.toks ≤ tk →
      wpAny (model PySem.Challenge.rw_mq0320_01.row.prog w) (A.deeper (envOfC qual scope L' f cdv)) (execs body (envOfC qual scope L' f cdv))
        (fun fl s' => R (.ok (.ret (match fl with | .ret v => v | _ => .none))) s') (fun _ _ => False)
        { s with heap := h₁, toks := tk })
    (hco : scope.isCoroutine = false) (hgen : scope.isGenerator = false) (hk : scope.kind = .function) :
    codeAny (model PySem.Challenge.rw_mq0320_01.row.prog w) A (.call (.ref f) args) R s := by
  refine codeAny_call_function hroom (X _ _ ho) rfl hco hgen rfl (codeRec_of X hcd) (hbind _ _ _ _ ?_)
  refine wpAny_with_toks (n := s.toks) (Nat.le_refl _) (wpAny_newFunctionEnv_cells hk (kindsX hkind _) fun env' he s' x htk => ?_)
  subst he
  refine ⟨lim.keeps x.toInCall.keep, codeAny_func ?_⟩
  refine oEEA x.done fun h₁ tk q2244z2 _ => ?_; obtain rfl := q2244z2
  have hk₁ := x.toInCall.keep
  refine oEA (Cl.news (h₀ := s.heap) (Nat.le_refl _) fun n c hm => ⟨x.cell n c (lookup_of_mem_nodup (cellsFrom_names scope.names 0 (s.heap.objs.size + 1) [] [] rfl ▸ hnd) hm), x.above n c hm⟩) fun cells NC Y => ?_
  refine wpAny_mono (h s.heap.objs.size h₁ tk cells ⟨x.toInCall.ns, fun b o e => hk₁ b o (of_hideAll _ e), Nat.le_of_eq (hideAll_size _ _)⟩ (fun p hp => ?_) Y hk₁ rfl htk) (fun fl s' hl => hl) fun _ _ y => y.elim
  refine ⟨(NC p hp).1, (NC p hp).2.1, ?_⟩
  cases q : (hideAll s.heap D).get? p.1 with
  | none => rfl
  | some o => have := of_hideAll _ q; rw [(NC p hp).2.2] at this; cases this
noncomputable abbrev lst (ys : List Value) (n : Nat) : Obj := listOf ys.toArray n
section
variable {prog : Program} {w : World} {A : Around} {E : Value → Shared → Prop} {R : Result → Shared → Prop} {s : Shared} {h₀ : Heap} {L : Addr} {m : Str → Option Value} {env : Env} {news : List (Addr × Obj)}
theorem compLoop_my {elt target iter : Expr} {scope : Scope} {pos : Pos} {it acc : Value} {env : Env} (I : Nat → Shared → Prop)
    (turn : ∀ n s, I n s → wpAny (model prog w) A (pyNext it) (fun r s₁ => match r with
      | none => R (.ok .next) s₁
      | some v => wpAny (model prog w) A (letOwnedTupleGo target it v) (fun _ s₁' => wpAny (model prog w) A (assign target env v) (fun _ s₂ => wpAny (model prog w) A (eval elt env) (fun x s₄ =>
              wpAny (model prog w) A (call (.builtin "list.append") [acc, x]) (fun _ s₅ => Box (∃ m, m < n ∧ I m s₅)) (fun _ _ => False) s₄) (fun _ _ => False) s₂) (fun _ _ => False) s₁') (fun _ _ => False) s₁) (fun _ _ => False) s)
    (n : Nat) (h : I n s) :
    codeAny (model prog w) A (.compLoop (.ListComp elt [⟨target, iter, [], 0⟩] scope pos) 0 it acc env) R s := by
  refine codeAny_loop rfl I (fun n s hI => ?_) n h
  show wpAny _ A ((compTurn (.ListComp elt [⟨target, iter, [], 0⟩] scope pos) 0 it acc env).onRaise (fun x => do noteFrame x env; theTreesLotGoes x)) _ _ s
  refine wpAny_noted ?_
  rw [compTurn_list]
  refine wpAny_bind (wpAny_standAt (wpAny_bind (wpAny_mono (turn n s hI) (fun r s₁ h₁ => ?_) fun _ _ h' => h'.elim)))
  cases r with
  | none => exact wpAny_pure h₁
  | some v =>
    refine wpAny_bind (wpAny_mono h₁ (fun _ s₂ h₂ => ?_) fun _ _ h' => h'.elim)
    refine wpAny_bind (wpAny_mono h₂ (fun _ s₂ h₂ => wpAny_bind (wpAny_pure ?_)) fun _ _ h' => h'.elim)
    exact wpAny_bind (wpAny_bind (wpAny_mono h₂ (fun x s₄ h₄ => wpAny_bind (wpAny_mono h₄ (fun _ s₅ h₅ => wpAny_pure (wpAny_pure ⟨rfl, h₅.out⟩)) fun _ _ h' => h'.elim)) fun _ _ h' => h'.elim))
theorem comp_block {elt target iter : Expr} {scope : Scope} {cl : List (Str × Addr)} {pos : Pos} {s₂ : Shared} {it : Value} (J : Addr → Addr → Nat → Shared → Prop) {RR : Value → Addr → Result → Shared → Prop}
    (hcell : ∀ y ∈ scope.names, y.2 ≠ .cell) (hkind : scope.kind = .function)
    (F : Fr h₀ L s₂.heap m) (N : News h₀ L s₂.heap news)
    (start : ∀ (C D : Addr) (h₁ : Heap) (oC : Obj) (m₂ : Str → Option Value), C ≠ D → (∀ p ∈ news, p.1 ≠ C ∧ p.1 ≠ D) → D = s₂.heap.objs.size → C = s₂.heap.objs.size + 1 → Fr h₀ L h₁ m → News h₀ L h₁ ((C, oC) :: (D, lst [] 0) :: news) → LCg.NsObj oC m₂ → ∃ n, J C D n { s₂ with heap := h₁ })
    (self : ∀ C D n s' (Q : Value → Shared → Prop) (E' : Value → Shared → Prop), J C D n s' → Q it s' → wpAny (model prog w) A (pyIter it) Q E' s')
    (turn : ∀ C D n s', J C D n s' → wpAny (model prog w) A (pyNext it) (fun r s₁ => match r with
      | none => RR (.ref D) C (.ok .next) s₁
      | some v => wpAny (model prog w) A (letOwnedTupleGo target it v) (fun _ s₁' => wpAny (model prog w) A (assign target (compEnvC scope cl C env) v) (fun _ s₂ => wpAny (model prog w) A (eval elt (compEnvC scope cl C env)) (fun x s₄ =>
              wpAny (model prog w) A (call (.builtin "list.append") [.ref D, x]) (fun _ s₅ => Box (∃ m, m < n ∧ J C D m s₅)) (fun _ _ => False) s₄) (fun _ _ => False) s₂) (fun _ _ => False) s₁') (fun _ _ => False) s₁) (fun _ _ => False) s') :
    wpAny (model prog w) A (newList []) (fun acc s₃ => wpAny (model prog w) A (newFunctionEnv scope env.globals cl [] env.qual none .none (some env)) (fun cenv s₄ =>
      codeAny (model prog w) A (.compStart (.ListComp elt [⟨target, iter, [], 0⟩] scope pos) 0 it acc { cenv with scope := relabel scope env }) (RR acc cenv.locals) s₄) E s₃) E s₂ := by
  refine wpAny_newObj_type (wpAny_newFunctionEnv hcell (by intro y hy; simp at hy) (fun h₁ hns₁ hsb₁ => ?_) hkind)
  dsimp only at hns₁ hsb₁ ⊢
  generalize hH2 : s₂.heap.push { cls := .type "list", dict := none, data := .seq ([] : List Value).toArray } = H2 at hns₁ hsb₁ ⊢
  have hC : H2.objs.size = s₂.heap.objs.size + 1 := by rw [← hH2, Heap.size_push]
  have hDC : s₂.heap.objs.size ≠ H2.objs.size := by rw [hC]; exact Nat.ne_of_lt (Nat.lt_succ_self _)
  have below : ∀ b, b < s₂.heap.objs.size → b ≠ H2.objs.size ∧ b ≠ s₂.heap.objs.size := fun b hb => ⟨by rw [hC]; exact Nat.ne_of_lt (Nat.lt_succ_of_lt hb), Nat.ne_of_lt hb⟩
  have old : ∀ b o, s₂.heap.get? b = some o → h₁.get? b = some o := fun b o e => hsb₁.extBut b o (below b (Heap.lt_size e)).1 (Heap.get?_push_of_some _ (hH2 ▸ Heap.get?_push_of_some _ e))
  have hacc : h₁.get? s₂.heap.objs.size = some (lst [] 0) := hsb₁.extBut _ _ hDC (Heap.get?_push_of_some _ (hH2 ▸ Heap.get?_push_size _ rfl))
  have fD := fresh_base F (Heap.get?_none_of_le (Nat.le_refl _))
  have fC := fresh_base (a := H2.objs.size) F (Heap.get?_none_of_le (by rw [hC]; exact Nat.le_succ _))
  refine oEA (LCg.ns_obj hns₁) fun oC heC hoC => ?_
  have N₁ : News h₀ L h₁ ((H2.objs.size, oC) :: (s₂.heap.objs.size, lst [] 0) :: news) :=
    newsCons (newsCons (N.grown old) hacc fD.1 fD.2) heC fC.1 fC.2
  refine oE (start H2.objs.size s₂.heap.objs.size h₁ oC _ (Ne.symm hDC) (fun p hp => below _ (Heap.lt_size (N p hp).1)) rfl hC (F.keeps old) N₁ hoC) fun n hJ => ?_
  have loop : codeAny (model prog w) A (.compLoop (.ListComp elt [⟨target, iter, [], 0⟩] scope pos) 0 it (.ref s₂.heap.objs.size) (compEnvC scope cl H2.objs.size env))
        (RR (.ref s₂.heap.objs.size) H2.objs.size) { s₂ with heap := h₁ } :=
    compLoop_my (fun n s => J H2.objs.size s₂.heap.objs.size n s) (fun n s hI => turn _ _ n s hI) n hJ
  exact codeAny_compStart_list loop (self _ _ n _ _ _ hJ loop)
theorem comp_my {elt target iter : Expr} {scope : Scope} {cl : List (Str × Addr)} {pos : Pos} {Q : Value → Shared → Prop} (J : Value → Shared → Addr → Addr → Nat → Shared → Prop)
    (hclos : closureFor scope env = pure cl) (hcell : ∀ y ∈ scope.names, y.2 ≠ .cell) (hkind : scope.kind = .function)
    (hnames : ∀ y ∈ scope.names, y.2 = .local → scope.names.lookup y.1 = some .local)
    (h : wpAny (model prog w) A (eval iter env) (fun x s₁ => wpAny (model prog w) A (pyIter x) (fun it s₂ => Box (∃ news, Fr h₀ L s₂.heap m ∧ News h₀ L s₂.heap news ∧
      (∀ (C D : Addr) (h₁ : Heap) (oC : Obj) (m₂ : Str → Option Value), C ≠ D → (∀ p ∈ news, p.1 ≠ C ∧ p.1 ≠ D) → D = s₂.heap.objs.size → C = s₂.heap.objs.size + 1 → Fr h₀ L h₁ m → News h₀ L h₁ ((C, oC) :: (D, lst [] 0) :: news) → LCg.NsObj oC m₂ → ∃ n, J it s₂ C D n { s₂ with heap := h₁ }))) E s₁) E s)
    (self : ∀ it s₂ C D n s' (Q : Value → Shared → Prop) (E' : Value → Shared → Prop), J it s₂ C D n s' → Q it s' → wpAny (model prog w) A (pyIter it) Q E' s')
    (turn : ∀ it s₂ C D n s', J it s₂ C D n s' → wpAny (model prog w) A (pyNext it) (fun r s₁ => match r with
      | none => ∃ m, s₁.heap.Ns C m ∧ ∀ h', Heap.SameBut C s₁.heap h' → Q (.ref D) { s₁ with heap := h' }
      | some v => wpAny (model prog w) A (letOwnedTupleGo target it v) (fun _ s₁' => wpAny (model prog w) A (assign target (compEnvC scope cl C env) v) (fun _ s₂' => wpAny (model prog w) A (eval elt (compEnvC scope cl C env)) (fun x s₄ =>
              wpAny (model prog w) A (call (.builtin "list.append") [.ref D, x]) (fun _ s₅ => Box (∃ m, m < n ∧ J it s₂ C D m s₅)) (fun _ _ => False) s₄) (fun _ _ => False) s₂') (fun _ _ => False) s₁') (fun _ _ => False) s₁) (fun _ _ => False) s')
    (hs : ∀ x, foldedSetIterable iter env x = pure x := by intro _; rfl) :
    wpAny (model prog w) A (eval (.ListComp elt [⟨target, iter, [], 0⟩] scope pos) env) Q E s := by
  rw [eval_ListComp]
  refine wpAny_comprehension_free (use := none) rfl hs hclos hkind hnames (wpAny_mono h (fun xv s₁ h₁ => wpAny_mono h₁ (fun it s₂ h₂ => ?_) fun _ _ e => e) fun _ _ e => e)
  refine oEAA h₂.out fun news F N st => ?_
  exact comp_block (J it s₂) hcell hkind F N st (self it s₂) (turn it s₂)
theorem comp_myA {elt target iter : Expr} {y : Str} {py spos : Pos} {scope : Scope} {cl : List (Str × Addr)} {pos : Pos} {Q : Flow → Shared → Prop} (J : Value → Shared → Addr → Addr → Nat → Shared → Prop)
    (hsw : swapsWith (.ListComp elt [⟨target, iter, [], 0⟩] scope pos) (some (.Name y py)) spos.line env = pure true)
    (hclos : closureFor scope env = pure cl) (hcell : ∀ y ∈ scope.names, y.2 ≠ .cell) (hkind : scope.kind = .function)
    (hnames : ∀ y ∈ scope.names, y.2 = .local → scope.names.lookup y.1 = some .local)
    (h : wpAny (model prog w) A (eval iter env) (fun x s₁ => wpAny (model prog w) A (pyIter x) (fun it s₂ => Box (∃ news, Fr h₀ L s₂.heap m ∧ News h₀ L s₂.heap news ∧
      (∀ (C D : Addr) (h₁ : Heap) (oC : Obj) (m₂ : Str → Option Value), C ≠ D → (∀ p ∈ news, p.1 ≠ C ∧ p.1 ≠ D) → D = s₂.heap.objs.size → C = s₂.heap.objs.size + 1 → Fr h₀ L h₁ m → News h₀ L h₁ ((C, oC) :: (D, lst [] 0) :: news) → LCg.NsObj oC m₂ → ∃ n, J it s₂ C D n { s₂ with heap := h₁ }))) E s₁) E s)
    (self : ∀ it s₂ C D n s' (Q : Value → Shared → Prop) (E' : Value → Shared → Prop), J it s₂ C D n s' → Q it s' → wpAny (model prog w) A (pyIter it) Q E' s')
    (turn : ∀ it s₂ C D n s', J it s₂ C D n s' → wpAny (model prog w) A (pyNext it) (fun r s₁ => match r with
      | none => wpAny (model prog w) A (assign (.Name y py) env (.ref D)) (fun _ s₁ => ∃ m, s₁.heap.Ns C m ∧ ∀ h', Heap.SameBut C s₁.heap h' → Q .next { s₁ with heap := h' }) E s₁
      | some v => wpAny (model prog w) A (letOwnedTupleGo target it v) (fun _ s₁' => wpAny (model prog w) A (assign target (compEnvC scope cl C env) v) (fun _ s₂' => wpAny (model prog w) A (eval elt (compEnvC scope cl C env)) (fun x s₄ =>
              wpAny (model prog w) A (call (.builtin "list.append") [.ref D, x]) (fun _ s₅ => Box (∃ m, m < n ∧ J it s₂ C D m s₅)) (fun _ _ => False) s₄) (fun _ _ => False) s₂') (fun _ _ => False) s₁') (fun _ _ => False) s₁) (fun _ _ => False) s')
    (hs : ∀ x, foldedSetIterable iter env x = pure x := by intro _; rfl) :
    wpAny (model prog w) A (exec (.Assign [.Name y py] (.ListComp elt [⟨target, iter, [], 0⟩] scope pos) spos) env) Q E s := by
  rw [exec_Assign_Name_used _ _ _ _ hsw]
  refine wpAny_bind (wpAny_standAt (wpAny_bind ?_))
  show wpAny _ A (do let _ ← comprehension (.ListComp elt [⟨target, iter, [], 0⟩] scope pos) scope env _ (newList []) false (eval iter env) (some (assign (.Name y py) env))) _ _ s
  refine wpAny_bind (wpAny_mono (wpAny_comprehension_free (use := some (assign (.Name y py) env)) (Q := fun _ s' => Q .next s') rfl hs hclos hkind hnames
    (wpAny_mono h (fun xv s₁ h₁ => wpAny_mono h₁ (fun it s₂ h₂ => ?_) fun _ _ e => e) fun _ _ e => e)) (fun _ s' hq => wpAny_pure (wpAny_pure hq)) fun _ _ e => e)
  refine oEAA h₂.out fun news F N st => ?_
  exact comp_block (J it s₂) hcell hkind F N st (self it s₂) (turn it s₂)
theorem comp_store {x : Str} {px : Pos} {scope : Scope} {cl : List (Str × Addr)} {C : Addr} {oC : Obj} {m₂ : Str → Option Value} {v : Value} {Q : Unit → Shared → Prop} (hx : scope.names.lookup x = some .local) (hkind : scope.kind = .function)
    (F : Fr h₀ L s.heap m) (N : News h₀ L s.heap ((C, oC) :: news)) (off : ∀ p ∈ news, p.1 ≠ C) (hC : LCg.NsObj oC m₂)
    (h : ∀ h' oC', Fr h₀ L h' m → News h₀ L h' ((C, oC') :: news) → LCg.NsObj oC' (fun y => if y = x then some v else m₂ y) → Q () { s with heap := h', toks := s.toks + 1 }) :
    wpAny (model prog w) A (assign (.Name x px) (compEnvC scope cl C env) v) Q E s := by
  have z := N _ (.head _)
  refine wpAny_assign_Name (wpAny_storeName_local (lookup_relabel_local hx) (hC.ns z.1) (fun h₃ hn₃ hs₃ => ?_) (by simp [compEnvC, relabel, hkind]))
  refine oEA (LCg.ns_obj hn₃) fun oC' heC hoC => ?_
  refine h h₃ oC' (F.change hs₃ z.2.1 z.2.2) ?_ hoC
  refine newsCons (fun p hp => ?_) heC z.2.1 z.2.2
  have q := N p (.tail _ hp)
  exact ⟨hs₃.extBut _ _ (off p hp) q.1, q.2⟩
end
end
-- part Base5
section
open PySem PySem.W PyProof.Rows PySem.Calls PySem.Flt
set_option maxRecDepth 100000
set_option maxHeartbeats 4000000
section
variable {prog : Program} {w : World} {A : Around} {E : Value → Shared → Prop} {s : Shared} {Q : Value → Shared → Prop}
theorem divNat {a b : Nat} {t u : Tok} (hA : A.handled = none) (hfit : a < 2 ^ 60) (h0 : 0 < b) (h : Q (.float (Float64.ofFrac false a b) s.toks) { s with toks := s.toks + 1 }) : wpAny (model prog w) A (binaryOp .Div (.int a t) (.int b u)) Q E s := by
  refine div_ii_fits hA ?_ (fun e => by lia) fun _ _ => ?_
  · refine Nat.lt_of_lt_of_le (m := 2 ^ 60) (by omega) (Nat.pow_le_pow_right (by decide) (by decide))
  · have e1 : decide ((a : Int) < 0) = false := decide_eq_false (by lia)
    have e2 : decide ((b : Int) < 0) = false := decide_eq_false (by lia)
    rw [e1, e2]
    exact h
end
noncomputable def GoFree (prog : Program) (w : World) (A : Around) (target : Expr) : Prop := ∀ (I ax : Addr) (oI : Obj) (j : Nat) (s : Shared) (v : Value) (Q : Unit → Shared → Prop) (E : Value → Shared → Prop), s.heap.get? I = some oI → IsLi oI ax j → Q () s → wpAny (model prog w) A (letOwnedTupleGo target (.ref I) v) Q E s
theorem goFree_name {prog : Program} {w : World} {A : Around} {x : Str} {px : Pos} : GoFree prog w A (.Name x px) := fun I ax oI j s v Q E _ _ h => letGo_name h
theorem goFree_tuple {prog : Program} {w : World} {A : Around} {el : List Expr} {k : Nat} {px : Pos} : GoFree prog w A (.Tuple el k px) := fun I ax oI j s v Q E e c h => by
  obtain ⟨cls, dict, data, sl⟩ := oI
  refine oA c fun c1 c2 => ?_; (try clear c)
  dsimp only at c1 c2
  subst c1 c2
  cases v with
  | ref T =>
    unfold letOwnedTupleGo
    refine wpAny_bind (wpAny_load e ?_)
    show wpAny _ _ (if (["enumerate", "zip", "dict_itemiterator", "dict_reverseitemiterator", "odict_iterator", "itertools.zip_longest", "itertools.pairwise"].contains "list_iterator" && _) = true then _ else _) Q E s
    rw [if_neg (by simp)]
    exact wpAny_pure h
  | _ => exact wpAny_of_eq (a := ()) rfl h
section
variable {prog : Program} {w : World} {A : Around} {E : Value → Shared → Prop} {s : Shared} {h₀ : Heap} {L : Addr} {m : Str → Option Value} {env : Env}
inductive CompY (h₀ : Heap) (L : Addr) (m : Str → Option Value) (C : Addr) (D : Addr) (I : Addr) (oI : Obj) (news : List (Addr × Obj)) (ys : List Value) (nn : Nat) (P : Nat → List Value → Nat → Prop) (j : Nat) (s₁ : Shared) : Value → Shared → Prop
  | mk {y : Value} {s₄ : Shared} : ∀ (h'' : Heap), ∀ (tk'' : Nat), ∀ (oC' : Obj), ∀ (m₂' : Str → Option Value), (s₄ = { s₁ with heap := h'', toks := tk'' }) → (Fr h₀ L h'' m) → (News h₀ L h'' ((C, oC') :: (D, lst ys nn) :: (I, oI) :: news)) → (LCg.NsObj oC' m₂') → (P (j + 1) (ys ++ [y]) tk'') → CompY h₀ L m C D I oI news ys nn P j s₁ y s₄
inductive CompL (prog : Program) (w : World) (A : Around) (h₀ : Heap) (L : Addr) (m : Str → Option Value) (env : Env) (elt target : Expr) (scope : Scope) (cl : List (Str × Addr)) (mf : Addr → Str → Option Value) (dt : Nat) (Fin : Value → Shared → Prop) (xv : Value) (s₁ : Shared) : Prop
  | mk : ∀ (ax : Addr), ∀ (its : List Value), ∀ (news : List (Addr × Obj)), ∀ (P : Nat → List Value → Nat → Prop), (xv = .ref ax) → (Fr h₀ L s₁.heap m) → (News h₀ L s₁.heap news) → ((∀ h', Fr h₀ L h' m → News h₀ L h' news → h'.IsList ax its.toArray)) → (its.length < 2 ^ 20) → (P 0 [] s₁.toks) → ((∀ (j : Nat) (v : Value) (C D I : Addr) (oC oI : Obj) (nn : Nat) (m₂ : Str → Option Value) (h' : Heap) (tk : Nat) (ys : List Value), its[j]? = some v → ys.length = j → P j ys tk → Fr h₀ L h' m → News h₀ L h' ((C, oC) :: (D, lst ys nn) :: (I, oI) :: news) → (∀ p ∈ (D, lst ys nn) :: (I, oI) :: news, p.1 ≠ C) → LCg.NsObj oC m₂ →
      wpAny (model prog w) A (assign target (compEnvC scope cl C env) v) (fun _ s₂ => wpAny (model prog w) A (eval elt (compEnvC scope cl C env)) (fun y s₄ => Box (CompY h₀ L m C D I oI news ys nn P j s₁ y s₄)) (fun _ _ => False) s₂) (fun _ _ => False) { s₁ with heap := h', toks := tk })) → ((∀ (D : Addr) (n : Nat) (h' : Heap) (tk' : Nat) (ys : List Value), Fr h₀ L h' (mf D) → News h₀ L h' ((D, lst ys n) :: news) → (∀ p ∈ news, p.1 ≠ D) → ys.length = its.length → P its.length ys tk' → Fin (.ref D) { s₁ with heap := h', toks := tk' + dt })) → CompL prog w A h₀ L m env elt target scope cl mf dt Fin xv s₁
inductive CompJ (prog : Program) (w : World) (A : Around) (h₀ : Heap) (L : Addr) (m : Str → Option Value) (env : Env) (elt target : Expr) (scope : Scope) (cl : List (Str × Addr)) (mf : Addr → Str → Option Value) (dt : Nat) (Fin : Value → Shared → Prop) (it : Value) (s₂ : Shared) (C D : Addr) (n : Nat) (s' : Shared) : Prop
  | mk : ∀ (I ax : Addr), ∀ (its : List Value), ∀ (news : List (Addr × Obj)), ∀ (P : Nat → List Value → Nat → Prop), ∀ (s₁ : Shared), ∀ (j : Nat), ∀ (ys : List Value), ∀ (nn : Nat), ∀ (h' : Heap), ∀ (tk' : Nat), ∀ (oI oC : Obj), ∀ (m₂ : Str → Option Value), (it = .ref I) → (s' = { s₁ with heap := h', toks := tk' }) → (Fr h₀ L h' m) → (News h₀ L h' ((C, oC) :: (D, lst ys nn) :: (I, oI) :: news)) → (IsLi oI ax j) → (LCg.NsObj oC m₂) → (j + n = its.length) → (ys.length = j) → (P j ys tk') → ((C ≠ D ∧ I ≠ C ∧ I ≠ D)) → ((∀ p ∈ news, p.1 ≠ C ∧ p.1 ≠ D ∧ p.1 ≠ I)) → ((∀ h', Fr h₀ L h' m → News h₀ L h' news → h'.IsList ax its.toArray)) → (its.length < 2 ^ 20) → ((∀ (j : Nat) (v : Value) (C D I : Addr) (oC oI : Obj) (nn : Nat) (m₂ : Str → Option Value) (h' : Heap) (tk : Nat) (ys : List Value), its[j]? = some v → ys.length = j → P j ys tk → Fr h₀ L h' m → News h₀ L h' ((C, oC) :: (D, lst ys nn) :: (I, oI) :: news) → (∀ p ∈ (D, lst ys nn) :: (I, oI) :: news, p.1 ≠ C) → LCg.NsObj oC m₂ →
      wpAny (model prog w) A (assign target (compEnvC scope cl C env) v) (fun _ s₂ => wpAny (model prog w) A (eval elt (compEnvC scope cl C env)) (fun y s₄ => Box (CompY h₀ L m C D I oI news ys nn P j s₁ y s₄)) (fun _ _ => False) s₂) (fun _ _ => False) { s₁ with heap := h', toks := tk })) → ((∀ (D : Addr) (n : Nat) (h' : Heap) (tk' : Nat) (ys : List Value), Fr h₀ L h' (mf D) → News h₀ L h' ((D, lst ys n) :: news) → (∀ p ∈ news, p.1 ≠ D) → ys.length = its.length → P its.length ys tk' → Fin (.ref D) { s₁ with heap := h', toks := tk' + dt })) → CompJ prog w A h₀ L m env elt target scope cl mf dt Fin it s₂ C D n s'
theorem comp_start {elt target : Expr} {scope : Scope} {cl : List (Str × Addr)} {mf : Addr → Str → Option Value} {dt : Nat} {Fin : Value → Shared → Prop} {xv : Value} {s₁ : Shared} (h : CompL prog w A h₀ L m env elt target scope cl mf dt Fin xv s₁) :
    wpAny (model prog w) A (pyIter xv) (fun it s₂ => Box (∃ news, Fr h₀ L s₂.heap m ∧ News h₀ L s₂.heap news ∧
      (∀ (C D : Addr) (h₁ : Heap) (oC : Obj) (m₂ : Str → Option Value), C ≠ D → (∀ p ∈ news, p.1 ≠ C ∧ p.1 ≠ D) → D = s₂.heap.objs.size → C = s₂.heap.objs.size + 1 → Fr h₀ L h₁ m → News h₀ L h₁ ((C, oC) :: (D, lst [] 0) :: news) → LCg.NsObj oC m₂ → ∃ n, CompJ prog w A h₀ L m env elt target scope cl mf dt Fin it s₂ C D n { s₂ with heap := h₁ }))) E s₁ := by
  obtain ⟨ax, its, news, P, rfl, F, N, src, hlen, hP0, item, fin⟩ := h
  refine wpAny_pyIter_list (src _ F N) ?_
  have fI := fresh_base F (Heap.get?_none_of_le (Nat.le_refl _))
  have N2 : News h₀ L (s₁.heap.push { cls := .type "list_iterator", data := .fields #[.ref ax, .int 0 0] }) ((s₁.heap.objs.size, { cls := .type "list_iterator", data := .fields #[.ref ax, .int 0 0] }) :: news) :=
    newsCons (N.grown fun _ _ e => Heap.get?_push_of_some _ e) (Heap.get?_push_size _ rfl) fI.1 fI.2
  refine ⟨_, F.push _, N2, fun C D h₁ oC m₂ hCD hap hD hC F1 N1 hoC => ⟨its.length, _, ax, its, news, P, s₁, 0, [], 0, h₁, s₁.toks, _, oC, m₂, rfl, rfl, F1, N1, ⟨rfl, rfl⟩, hoC, by lia, rfl, hP0, ⟨hCD, (hap _ (.head _)).1, (hap _ (.head _)).2⟩, ?_, src, hlen, item, fin⟩⟩
  intro p hp
  exact ⟨(hap p (.tail _ hp)).1, (hap p (.tail _ hp)).2, Nat.ne_of_lt (Heap.lt_size (N p hp).1)⟩
theorem comp_turn {elt target : Expr} {scope : Scope} {cl : List (Str × Addr)} {mf : Addr → Str → Option Value} {dt : Nat} {Fin : Value → Shared → Prop} {RR : Addr → Addr → Shared → Prop} (hA : A.handled = none) (hgo : GoFree prog w A target)
    (hRR : ∀ C D s' oC m₂ ys nn news, Fr h₀ L s'.heap m → News h₀ L s'.heap ((C, oC) :: (D, lst ys nn) :: news) → C ≠ D → (∀ p ∈ news, p.1 ≠ C) → LCg.NsObj oC m₂ → (∀ h', Fr h₀ L h' (mf D) → News h₀ L h' ((D, lst ys nn) :: news) → Fin (.ref D) { s' with heap := h', toks := s'.toks + dt }) → RR C D s')
    (it : Value) (s₂ : Shared) (C D : Addr) (n : Nat) (s' : Shared) (h : CompJ prog w A h₀ L m env elt target scope cl mf dt Fin it s₂ C D n s') :
    wpAny (model prog w) A (pyNext it) (fun r s₁ => match r with
      | none => RR C D s₁
      | some v => wpAny (model prog w) A (letOwnedTupleGo target it v) (fun _ s₁' => wpAny (model prog w) A (assign target (compEnvC scope cl C env) v) (fun _ s₂' => wpAny (model prog w) A (eval elt (compEnvC scope cl C env)) (fun x s₄ =>
              wpAny (model prog w) A (call (.builtin "list.append") [.ref D, x]) (fun _ s₅ => Box (∃ m', m' < n ∧ CompJ prog w A h₀ L m env elt target scope cl mf dt Fin it s₂ C D m' s₅)) (fun _ _ => False) s₄) (fun _ _ => False) s₂') (fun _ _ => False) s₁') (fun _ _ => False) s₁) (fun _ _ => False) s' := by
  obtain ⟨I, ax, its, news, P, s₁, j, ys, nn, h', tk', oI, oC, m₂, rfl, rfl, F, N, hLi, hoC, hj, hyl, hP, ⟨a1, a2, a3⟩, ap, src, hlen, item, fin⟩ := h
  have zC := N _ (.head _)
  have zD := N _ (.tail _ (.head _))
  have zI := N _ (.tail _ (.tail _ (.head _)))
  have Nn : News h₀ L h' news := newsTail (newsTail (newsTail N))
  have hl := src h' F Nn
  rcases Nat.eq_zero_or_pos n with rfl | hn
  · refine wpAny_pyNext_list_end hA ⟨oI, zI.1, hLi⟩ hl (by simp; lia) fun h2 hx => ?_
    have K := Keep.ofExt hx
    have F2 := frKeep1 F K zI.2
    have N2 : News h₀ L h2 ((C, oC) :: (D, lst ys nn) :: news) := newsCons (newsCons (newsKeep Nn K (fun p hp => by first | exact nin1 ((ap p hp).2.2) | exact nin2 ((ap p hp).2.2) | exact allc ((ap p hp).2.2) alln | simpa using (ap p hp).2.2)) (K _ _ (by first | exact nin1 (Ne.symm a3) | exact nin2 (Ne.symm a3) | exact allc (Ne.symm a3) alln | simpa using Ne.symm a3) zD.1) zD.2.1 zD.2.2) (K _ _ (by first | exact nin1 (Ne.symm a2) | exact nin2 (Ne.symm a2) | exact allc (Ne.symm a2) alln | simpa using Ne.symm a2) zC.1) zC.2.1 zC.2.2
    refine hRR C D _ oC m₂ ys nn news F2 N2 a1 (fun p hp => (ap p hp).1) hoC fun h3 F3 N3 => ?_
    exact fin D nn h3 tk' ys F3 N3 (fun p hp => (ap p hp).2.1) (by lia) (by rw [show its.length = j by lia]; exact hP)
  · have hjl : j < its.length := by lia
    refine wpAny_pyNext_list_item (x := its[j]) ⟨oI, zI.1, hLi⟩ hl (by simp [hjl]) fun h2 hI2 hx => ?_
    refine oEA hI2 fun oI2 eI2 cI2 => ?_; (try clear hI2)
    have K := Keep.ofSame hx
    have F2 := frKeep1 F K zI.2
    have N2 : News h₀ L h2 ((C, oC) :: (D, lst ys nn) :: (I, oI2) :: news) := newsCons (newsCons (newsCons (newsKeep Nn K (fun p hp => by first | exact nin1 ((ap p hp).2.2) | exact nin2 ((ap p hp).2.2) | exact allc ((ap p hp).2.2) alln | simpa using (ap p hp).2.2)) eI2 zI.2.1 zI.2.2) (K _ _ (by first | exact nin1 (Ne.symm a3) | exact nin2 (Ne.symm a3) | exact allc (Ne.symm a3) alln | simpa using Ne.symm a3) zD.1) zD.2.1 zD.2.2) (K _ _ (by first | exact nin1 (Ne.symm a2) | exact nin2 (Ne.symm a2) | exact allc (Ne.symm a2) alln | simpa using Ne.symm a2) zC.1) zC.2.1 zC.2.2
    dsimp only
    refine hgo I ax oI2 (j + 1) _ _ _ _ eI2 cI2 ?_
    refine wpAny_mono (item j its[j] C D I oC oI2 nn m₂ h2 tk' ys (List.getElem?_eq_getElem hjl) hyl hP F2 N2 ?_ hoC) (fun _ s3 h3 => wpAny_mono h3 (fun y s4 h4 => ?_) fun _ _ x => x) fun _ _ x => x
    · exact allc (Ne.symm a1) (allc (a2) (fun p hp => (ap p hp).1))
    · obtain ⟨h5, tk5, oC', m₂', rfl, F5, N5, hoC', hP5⟩ := h4.out
      have zD5 := N5 _ (.tail _ (.head _))
      refine append_at zD5.1 (fun h6 hs6 e6 => ?_) (by rw [sizeLine_eq]; simp; lia)
      have K6 := Keep.ofSame hs6
      have F6 := frKeep1 F5 K6 zD5.2
      have zC5 := N5 _ (.head _)
      have zI5 := N5 _ (.tail _ (.tail _ (.head _)))
      have Nn5 : News h₀ L h5 news := newsTail (newsTail (newsTail N5))
      have N6 : News h₀ L h6 ((C, oC') :: (D, lst (ys ++ [y]) (nn + 1)) :: (I, oI2) :: news) := newsCons (newsCons (newsCons (newsKeep Nn5 K6 (fun p hp => by first | exact nin1 ((ap p hp).2.1) | exact nin2 ((ap p hp).2.1) | exact allc ((ap p hp).2.1) alln | simpa using (ap p hp).2.1)) (K6 _ _ (by first | exact nin1 (a3) | exact nin2 (a3) | exact allc (a3) alln | simpa using a3) zI5.1) zI5.2.1 zI5.2.2) (by rw [e6, List.push_toArray]) zD5.2.1 zD5.2.2) (K6 _ _ (by first | exact nin1 (a1) | exact nin2 (a1) | exact allc (a1) alln | simpa using a1) zC5.1) zC5.2.1 zC5.2.2
      exact ⟨n - 1, by lia, I, ax, its, news, P, s₁, j + 1, ys ++ [y], nn + 1, h6, tk5, oI2, oC', m₂', rfl, rfl, F6, N6, cI2, hoC', by lia, by simp [hyl], hP5, ⟨a1, a2, a3⟩, ap, src, hlen, item, fin⟩
theorem comp_self {elt target : Expr} {scope : Scope} {cl : List (Str × Addr)} {mf : Addr → Str → Option Value} {dt : Nat} {Fin : Value → Shared → Prop} (it : Value) (s₂ : Shared) (C D : Addr) (n : Nat) (s' : Shared) (Q : Value → Shared → Prop) (E' : Value → Shared → Prop)
    (h : CompJ prog w A h₀ L m env elt target scope cl mf dt Fin it s₂ C D n s') (hq : Q it s') : wpAny (model prog w) A (pyIter it) Q E' s' := by
  obtain ⟨I, ax, its, news, P, s₁, j, ys, nn, h', tk', oI, oC, m₂, rfl, rfl, F, N, hLi, r⟩ := h
  exact wpAny_pyIter_listiter ⟨oI, (N _ (.tail _ (.tail _ (.head _)))).1, hLi⟩ hq
theorem comp_list {elt target iter : Expr} {scope : Scope} {cl : List (Str × Addr)} {pos : Pos} {Q : Value → Shared → Prop} (F₀ : Fr h₀ L s.heap m) (hA : A.handled = none) (hgo : GoFree prog w A target)
    (hclos : closureFor scope env = pure cl) (hcell : ∀ y ∈ scope.names, y.2 ≠ .cell) (hkind : scope.kind = .function)
    (hnames : ∀ y ∈ scope.names, y.2 = .local → scope.names.lookup y.1 = some .local)
    (h : wpAny (model prog w) A (eval iter env) (CompL prog w A h₀ L m env elt target scope cl (fun _ => m) 0 Q) E s)
    (hs : ∀ x, foldedSetIterable iter env x = pure x := by intro _; rfl) :
    wpAny (model prog w) A (eval (.ListComp elt [⟨target, iter, [], 0⟩] scope pos) env) Q E s := by
  refine comp_my (CompJ prog w A h₀ L m env elt target scope cl (fun _ => m) 0 Q) hclos hcell hkind hnames (wpAny_mono h (fun x s₁ h₁ => comp_start h₁) fun _ _ x => x) comp_self (comp_turn hA hgo ?_) hs
  intro C D s' oC m₂ ys nn news F N hCD off hoC fin
  refine ⟨m₂, hoC.ns (N _ (.head _)).1, fun h' hs' => ?_⟩
  have zC := N _ (.head _)
  have K := Keep.ofSame hs'
  refine fin h' (frKeep1 F K zC.2) (newsKeep (newsTail N) K ?_)
  intro p hp
  rcases List.mem_cons.mp hp with rfl | hp
  · simpa using Ne.symm hCD
  · simpa using off p hp
theorem comp_listA {elt target iter : Expr} {y : Str} {py spos : Pos} {scope : Scope} {cl : List (Str × Addr)} {pos : Pos} {Q : Flow → Shared → Prop} (F₀ : Fr h₀ L s.heap m) (hA : A.handled = none) (hgo : GoFree prog w A target) (hL : env.locals = L)
    (hsw : swapsWith (.ListComp elt [⟨target, iter, [], 0⟩] scope pos) (some (.Name y py)) spos.line env = pure true)
    (hclos : closureFor scope env = pure cl) (hcell : ∀ y ∈ scope.names, y.2 ≠ .cell) (hkind : scope.kind = .function)
    (hnames : ∀ y ∈ scope.names, y.2 = .local → scope.names.lookup y.1 = some .local)
    (hy : env.kindOf y = some .local) (hp : (env.scope.kind == .class || (env.scope.kind == .module && env.locals != env.globals)) = false)
    (h : wpAny (model prog w) A (eval iter env) (CompL prog w A h₀ L m env elt target scope cl (fun D z => if z = y then some (.ref D) else m z) 1 (fun _ s' => Q .next s')) E s)
    (hs : ∀ x, foldedSetIterable iter env x = pure x := by intro _; rfl) :
    wpAny (model prog w) A (exec (.Assign [.Name y py] (.ListComp elt [⟨target, iter, [], 0⟩] scope pos) spos) env) Q E s := by
  subst hL
  refine comp_myA (CompJ prog w A h₀ env.locals m env elt target scope cl (fun D z => if z = y then some (.ref D) else m z) 1 (fun _ s' => Q .next s')) hsw hclos hcell hkind hnames (wpAny_mono h (fun x s₁ h₁ => comp_start h₁) fun _ _ x => x) comp_self (comp_turn hA hgo (RR := fun C D s₁ => wpAny (model prog w) A (assign (.Name y py) env (.ref D)) (fun _ s₁ => ∃ m, s₁.heap.Ns C m ∧ ∀ h', Heap.SameBut C s₁.heap h' → Q .next { s₁ with heap := h' }) E s₁) ?_) hs
  intro C D s' oC m₂ ys nn news F N hCD off hoC fin
  have zC := N _ (.head _)
  refine wpAny_assign_Name (wpAny_storeName_local hy F.ns (fun h₂ hn₂ hs₂ => ?_) hp)
  refine ⟨m₂, (hoC.ns zC.1).sameBut hs₂ zC.2.1, fun h' hs' => ?_⟩
  have hL₀ : h₀.get? env.locals = none := Heap.get?_none_of_le F.above
  have F₂ : Fr h₀ env.locals h₂ (fun z => if z = y then some (.ref D) else m z) := ⟨hn₂, fun b o e => hs₂.extBut b o (fun q => by rw [q, hL₀] at e; cases e) (F.keep b o e), F.above⟩
  have K := Keep.ofSame hs'
  have N2 : News h₀ env.locals h₂ ((D, lst ys nn) :: news) := fun p hp => ⟨hs₂.extBut _ _ (newsTail N p hp).2.1 (newsTail N p hp).1, (newsTail N p hp).2⟩
  refine fin h' (frKeep1 F₂ K zC.2) (newsKeep N2 K ?_)
  intro p hp
  rcases List.mem_cons.mp hp with rfl | hp
  · simpa using Ne.symm hCD
  · simpa using off p hp
end
end
-- part Key
section
open PySem PySem.W PyProof.Rows PySem.Calls PySem.Flt
set_option maxRecDepth 100000
set_option maxHeartbeats 4000000
theorem fillKey : True := by
  w_top off
  trivial
section
variable {w : World} {A : Around} {s : Shared} {H : Heap} {G : PM} {p : Program} {loose : List Str} {mean : ExcName → Option Value} {mg mb : Str → Option Value} {Q E : Value → Shared → Prop}
noncomputable def partOf (top r g b : Nat) (j : Nat) : UInt64 := if j = 0 then hueOf r g b else if j = 1 then ligOf top r g b else satOf top r g b
theorem key_ok {R P : Addr} {r g b top v n np : Nat} {pl : Int} {t1 t2 t3 t4 : Nat} {tt : Tok} {pvs : List Value} {pick : List Nat}
    (X₀ : (hd.heap_1 w.params).In H) (T : Top p loose mean mg mb H) (st : H.StaysIn s.heap) (hA : A.handled = none) (hu : A.units + 300 < cLine) (hroom : A.depth + 2 < recursionLimit)
    (hR : s.heap.get? R = some (rowObj r g b pl t1 t2 t3 t4 n)) (hP : s.heap.get? P = some (listOf pvs.toArray np)) (hpi : IntsOf pvs pick) (hp3 : ∀ j ∈ pick, j < 3) (hpl : pick.length < 2 ^ 20)
    (htv : top * (2 * v) = 2 ^ 14) (hr : r ≤ top) (hg : g ≤ top) (hb : b ≤ top)
    (hq : ∀ (h' : Heap) (tk' : Nat) (a : Addr) (k : Key) (n : Nat), Keep [] s.heap h' → s.heap.get? a = none → h'.get? a = some (listOf (kvals k).toArray n) → bits k = pick.map (partOf top r g b) → (∀ p ∈ k, s.toks < p.2 ∧ p.2 < tk') → s.toks ≤ tk' →
      Q (.ref a) { s with heap := h', toks := tk' }) :
    wpAny (model PySem.Challenge.rw_mq0320_01.row.prog w) A (call (.ref 143) [.ref R, .int top tt, .ref P]) Q E s := by
  have hv0 : 0 < v := by
    rcases Nat.eq_zero_or_pos v with e | e
    · rw [e] at htv; simp at htv
    · exact e
  have ht0 : 0 < top := by
    rcases Nat.eq_zero_or_pos top with e | e
    · rw [e] at htv; simp at htv
    · exact e
  have ht1 : top ≤ 2 ^ 14 := by
    rw [← htv]; exact Nat.le_mul_of_pos_right _ (by lia)
  have hX : ∀ y : Nat, y ≤ top → X (Float64.ofFrac false y top) (y * (2 * v)) := fun y hy => by
    refine X.ofFrac ht0 ?_ ?_
    · have : y * (2 * v) ≤ top * (2 * v) := Nat.mul_le_mul_right _ hy
      lia
    · rw [← htv]; ac_rfl
  refine wpAny_call ?_
  refine' callFC (binds := [("row", .ref R), ("top", .int top tt), ("pick", .ref P)]) [] ?k6 ?k7 (X₀.keeps st) (T.nolimit.keeps st) (by first | exact room1 hroom | lia) ?k9 ?kB ?kD ?_ ?c2 ?c3 ?c4
  case k6 => k_is
  case k7 => k_is
  case k9 => exact BindsTo.of_eq rfl
  case kB => exact rfl
  case kD => decide +kernel
  case c2 => exact rfl
  case c3 => exact rfl
  case c4 => exact rfl
  intro L' h₁ tk₁ cells F N Y hk₁ hL htk₁
  have X' := X₀.keeps st
  have T' := T.keeps st
  have F0 : Fr s.heap L' h₁ _ := F
  have N0 : News s.heap L' h₁ cells := N
  clear X₀ T F N
  k_cells Y
  walk_at "got"
  refine sub_at (j := 0) (F0.keep _ _ hR) rfl rfl (by simp) ?_
  walk_at "got"
  refine divNat hA (by lia) ht0 ?_
  dsimp only
  walk_at "got"
  refine sub_at (j := 1) (F0.keep _ _ hR) rfl rfl (by simp) ?_
  walk_at "got"
  refine divNat hA (by lia) ht0 ?_
  dsimp only
  walk_at "got"
  refine sub_at (j := 2) (F0.keep _ _ hR) rfl rfl (by simp) ?_
  walk_at "got"
  refine divNat hA (by lia) ht0 ?_
  dsimp only
  walk_at "got"
  refine rgb_ok (top := top) (v := v) (r := r) (g := g) (b := b) X' T' F0.keep hA ?_ ?_ htv hr hg hb ?_ ?_ ?_ ?_
  · show A.units + 3 + 100 < cLine; first | exact room3 hu (by decide) | lia
  · show A.depth + 1 < recursionLimit; first | exact room2 hroom (by decide) | lia
  · exact hX r hr
  · exact hX g hg
  · exact hX b hb
  intro h2 tk2 a u1 u2 u3 K2 ha e2 c1 c2 c3 c4 c5 c6
  dsimp only at c1 c2 c3 ha
  have F2 := frKeep0 F0 K2
  have N2 := newsFresh F0 ha e2 (newsKeep0 N0 K2)
  clear F0 N0
  walk_at "got"
  rename Fr _ _ _ _ => F3
  rename News _ _ _ _ => N3
  refine oEA (⟨_, rfl, F3⟩ : ∃ m, m "pick" = some (.ref P) ∧ Fr s.heap L' _ m) fun m hm F4 => ?_
  refine oEA (⟨_, by assumption, N3⟩ : ∃ oc : Obj, oc.data = .cell (some (.ref a)) ∧ News s.heap L' _ [(a, hlsObj (hueOf r g b) (ligOf top r g b) (satOf top r g b) u1 u2 u3), (L' + 1, oc)]) fun oc hoc N4 => ?_
  have F5 := frKnown F4 [("pick", .ref P)] (by first | exact allc hm alln | simp [hm])
  clear F3 N3 F4
  refine comp_list F5 hA goFree_name (by with_unfolding_all rfl) (by decide) (by rfl) (by decide) ?_
  walk_at "got"
  rename News _ _ _ _ => N6
  refine ⟨P, pvs, _, fun j ys tk => ∃ k : Key, ys = kvals k ∧ bits k = (pick.take j).map (partOf top r g b) ∧ (∀ p ∈ k, s.toks < p.2 ∧ p.2 < tk2) ∧ tk2 ≤ tk, rfl, F5, N6, fun h' F N => PySem.IsL.isList (F.keep _ _ hP), ?_, ⟨[], rfl, rfl, (fun p hp => by cases hp), Nat.le_refl _⟩, ?_, ?_⟩
  · rw [hpi.len]; exact hpl
  · rintro j v C D I oC oI nn m₂ h' tk ys hj hyl ⟨k, rfl, hk1, hk2, hk3⟩ F7 N7 off hoC
    have hjp : j < pick.length := by
      rw [← hpi.len]
      rcases Nat.lt_or_ge j pvs.length with q | q
      · exact q
      · rw [List.getElem?_eq_none q] at hj; cases hj
    refine oE (hpi.get (List.getElem?_eq_getElem hjp)) fun t ht => ?_
    rw [hj] at ht
    cases ht
    have h3 := hp3 _ (List.getElem_mem hjp)
    refine comp_store rfl rfl F7 N7 off hoC fun h8 oC8 F8 N8 hoC8 => ?_
    refine oEA (⟨_, hoC8, by simp⟩ : ∃ m8, LCg.NsObj oC8 m8 ∧ m8 "part" = some (.int (pick[j] : Nat) t)) fun m8 hoC9 hx9 => ?_
    clear F7 N7 hoC8 N6
    dsimp only
    walk_at "got"
    have hti : ∃ (tu : Nat), s.toks < tu ∧ tu < tk2 ∧ [Value.float (hueOf r g b) u1, .float (ligOf top r g b) u2, .float (satOf top r g b) u3][pick[j]]? = some (.float (partOf top r g b pick[j]) tu) := by
      generalize pick[j] = i at h3
      have : i = 0 ∨ i = 1 ∨ i = 2 := by lia
      rcases this with rfl | rfl | rfl
      · exact ⟨u1, by lia, c4, rfl⟩
      · exact ⟨u2, by lia, c5, rfl⟩
      · exact ⟨u3, by lia, c6, rfl⟩
    refine oEAA hti fun tu b1 b2 b3 => ?_; (try clear hti)
    have zt := N8 _ (.tail _ (.tail _ (.tail _ (.head _))))
    refine item_tupleL (l := [.float (hueOf r g b) u1, .float (ligOf top r g b) u2, .float (satOf top r g b) u3]) (j := pick[j]) ⟨_, zt.1, rfl, _, rfl⟩ (by lia) (by lia) ?_ b3 ?_
    · unfold seqIndex?
      generalize pick[j] = i at h3
      have : i = 0 ∨ i = 1 ∨ i = 2 := by lia
      rcases this with rfl | rfl | rfl <;> rfl
    refine ⟨h8, _, oC8, m8, rfl, F8, N8, hoC9, k ++ [(partOf top r g b pick[j], tu)], by simp [kvals], ?_, ?_, by lia⟩
    · rw [List.take_succ_eq_append_getElem hjp, List.map_append, ← hk1]; simp [bits]
    · intro p hp
      rcases List.mem_append.mp hp with hp | hp
      · exact hk2 p hp
      · rw [List.mem_singleton.mp hp]; exact ⟨b1, b2⟩
  · rintro D nn h' tk' ys F7 N7 off hyl ⟨k, rfl, hk1, hk2, hk3⟩
    have zD := N7 _ (.head _)
    rw [hpi.len, List.take_length] at hk1
    clear F5 N6
    dsimp only
    walk_at "got"
    refine hq _ _ D k nn (fun b o _ e => F7.keep b o e) zD.2.2 zD.1 hk1 (fun p hp => ⟨(hk2 p hp).1, ?_⟩) ?_
    · exact Nat.lt_of_lt_of_le (hk2 p hp).2 (by (try dsimp only); omega)
    · (try dsimp only); lia
end
end
-- part Read
section
open PySem PySem.W PyProof.Rows PySem.Calls PySem.Flt
set_option maxRecDepth 100000
set_option maxHeartbeats 4000000
theorem fillRead : True := by
  w_top off
  trivial
section
variable {w : World} {A : Around} {s : Shared} {H : Heap} {G : PM} {p : Program} {loose : List Str} {mean : ExcName → Option Value} {mg mb : Str → Option Value} {Q E : Value → Shared → Prop}
noncomputable def divI (p : Int × Int) : UInt64 := Float64.ofFrac (decide (p.1 < 0) != decide (p.2 < 0)) p.1.natAbs p.2.natAbs
noncomputable def prOf (top r g b j : Nat) : Int × Int := if j = 0 then toldH r g b else if j = 1 then toldL top r g b else toldS top r g b
theorem divInt {prog : Program} {a b : Int} {t u : Tok} (hA : A.handled = none) (ha : a.natAbs < 2 ^ 60) (h0 : b ≠ 0) (h : Q (.float (divI (a, b)) s.toks) { s with toks := s.toks + 1 }) : wpAny (model prog w) A (binaryOp .Div (.int a t) (.int b u)) Q E s := by
  refine div_ii_fits hA ?_ (fun e => absurd e h0) fun _ _ => h
  exact Nat.lt_of_lt_of_le (m := 2 ^ 60) ha (Nat.pow_le_pow_right (by decide) (by decide))
theorem toldH_range {r g b : Nat} (h : wd3 r g b ≤ 256) : 0 ≤ (toldH r g b).1 ∧ (toldH r g b).1 ≤ (toldH r g b).2 ∧ (toldH r g b).2 ≤ 1536 ∧ 0 < (toldH r g b).2 := by
  unfold toldH
  by_cases hw : wd3 r g b = 0
  · rw [if_pos hw]; decide
  · rw [if_neg hw]
    refine oAA (sect_spec r g b hw) fun h1 h2 _ => ?_
    refine oA (wayP_range (x := ((sect r g b).2 : Nat)) (w := (wd3 r g b : Nat)) h1 (Int.natCast_nonneg _) (Int.ofNat_le.mpr h2)) fun p1 p2 => ?_
    refine ⟨p1, p2, ?_, ?_⟩
    · show 6 * ((wd3 r g b : Nat) : Int) ≤ 1536
      clear p1 p2 h1 h2
      lia
    · show 0 < 6 * ((wd3 r g b : Nat) : Int)
      clear p1 p2 h1 h2
      lia
theorem prOf_range {top r g b : Nat} (ht0 : 0 < top) (ht : top ≤ 256) (hr : r ≤ top) (hg : g ≤ top) (hb : b ≤ top) (j : Nat) : 0 ≤ (prOf top r g b j).1 ∧ (prOf top r g b j).1 ≤ 2000 ∧ (prOf top r g b j).2 ≤ 1536 ∧ 0 < (prOf top r g b j).2 := by
  have hM : mx3 r g b ≤ top := by rcases mx3_or r g b with q | q | q <;> rw [q] <;> assumption
  have hW : wd3 r g b ≤ 256 := Nat.le_trans (Nat.sub_le _ _) (Nat.le_trans hM ht)
  have hB : bo3 r g b ≤ 512 := Nat.add_le_add (Nat.le_trans hM ht) (Nat.le_trans (Nat.le_trans (mm3 r g b).2.2.2.1 (mm3 r g b).1) (Nat.le_trans hM ht))
  unfold prOf
  by_cases h0 : j = 0
  · rw [if_pos h0]
    have q := toldH_range (r := r) (g := g) (b := b) hW
    exact ⟨q.1, Int.le_trans q.2.1 (Int.le_trans q.2.2.1 (by decide)), q.2.2.1, q.2.2.2⟩
  · rw [if_neg h0]
    by_cases h1 : j = 1
    · rw [if_pos h1]
      exact ⟨Int.natCast_nonneg _, Int.ofNat_le.mpr (Nat.le_trans hB (by decide)), by show 2 * (top : Int) ≤ 1536; clear hM hW hB; lia, by show 0 < 2 * (top : Int); clear hM hW hB; lia⟩
    · rw [if_neg h1]
      have h2 := sat_nr ht hr hg hb
      refine ⟨?_, ?_, h2.2.2, h2.2.1⟩
      · unfold toldS
        split
        · decide
        · exact Int.natCast_nonneg _
      · unfold toldS
        split
        · decide
        · exact Int.ofNat_le.mpr (Nat.le_trans hW (by decide))
theorem divI_L {top r g b : Nat} : divI (toldL top r g b) = ligOf top r g b := by
  unfold divI toldL ligOf
  dsimp only
  rw [decide_eq_false (by lia), decide_eq_false (by lia)]
  rfl
theorem divI_S {top r g b : Nat} (hr : r ≤ top) (hg : g ≤ top) (hb : b ≤ top) : divI (toldS top r g b) = satOf top r g b := by
  unfold divI toldS satOf
  by_cases hw : wd3 r g b = 0
  · rw [if_pos hw, if_pos hw]; decide +kernel
  · rw [if_neg hw, if_neg hw]
    have h := sat_den hr hg hb hw
    dsimp only
    rw [min_cast 0 _ _ h.2, decide_eq_false (by lia), decide_eq_false (by lia)]
    rfl
theorem divI_nr {p : Int × Int} (hd : 0 < p.2) (h0 : 0 ≤ p.1) (h1 : p.1 ≤ p.2) : Nr (divI p) p.1 p.2 1 := by
  obtain ⟨a, b⟩ := p
  dsimp only at *
  refine oE (Int.eq_ofNat_of_zero_le h0) fun a q5635z1 => ?_; obtain rfl := q5635z1
  refine oE (Int.eq_ofNat_of_zero_le (Int.le_of_lt hd)) fun b q5687z1 => ?_; obtain rfl := q5687z1
  unfold divI
  dsimp only
  rw [decide_eq_false (by lia), decide_eq_false (by lia)]
  exact frac_near (by omega) (by lia)
theorem stat_K {w : World} {h : Heap} (X : (hd.heap_1 w.params).In h) : Stat h.get? := X _ _ (by k_is)
theorem read_ok {R : Addr} {r g b top v n : Nat} {pl : Int} {t1 t2 t3 t4 : Nat} {tt : Tok}
    (X₀ : (hd.heap_1 w.params).In H) (T : Top p loose mean mg mb H) (st : H.StaysIn s.heap) (hA : A.handled = none) (hu : A.units + 400 < cLine) (hroom : A.depth + 3 < recursionLimit)
    (hR : s.heap.get? R = some (rowObj r g b pl t1 t2 t3 t4 n)) (htv : top * (2 * v) = 2 ^ 14) (ht8 : top ≤ 256) (hr : r ≤ top) (hg : g ≤ top) (hb : b ≤ top)
    (hq : ∀ (h' : Heap) (tk' : Nat), Keep [] s.heap h' → Q (.bool true) { s with heap := h', toks := tk' }) :
    wpAny (model PySem.Challenge.rw_mq0320_01.row.prog w) A (call (.ref 148) [.ref R, .int top tt]) Q E s := by
  have hv0 : 0 < v := by
    rcases Nat.eq_zero_or_pos v with e | e
    · rw [e] at htv; simp at htv
    · exact e
  have ht0 : 0 < top := by
    rcases Nat.eq_zero_or_pos top with e | e
    · rw [e] at htv; simp at htv
    · exact e
  have ht1 : top ≤ 2 ^ 14 := by
    rw [← htv]; exact Nat.le_mul_of_pos_right _ (by lia)
  have hX : ∀ y : Nat, y ≤ top → X (Float64.ofFrac false y top) (y * (2 * v)) := fun y hy => by
    refine X.ofFrac ht0 ?_ ?_
    · have : y * (2 * v) ≤ top * (2 * v) := Nat.mul_le_mul_right _ hy
      lia
    · rw [← htv]; ac_rfl
  refine wpAny_call ?_
  refine' callF (binds := [("row", .ref R), ("top", .int top tt)]) [] ?k6 ?k7 (X₀.keeps st) (T.nolimit.keeps st) (by first | exact room1 hroom | lia) ?k9 ?kB ?_ ?c5 ?c2 ?c3 ?c4
  case k6 => k_is
  case k7 => k_is
  case k9 => exact BindsTo.of_eq rfl
  case kB => exact locs rfl
  case c5 => decide
  case c2 => exact rfl
  case c3 => exact rfl
  case c4 => exact rfl
  intro L' h₁ F hk₁ hL
  have X' := X₀.keeps st
  have T' := T.keeps st
  have F0 : Fr s.heap L' h₁ _ := F
  have N0 : News s.heap L' h₁ [] := fun p hp => nomatch hp
  clear X₀ T F
  dsimp only [List.length_cons, List.length_nil]
  walk_at "got"
  refine sub_at (j := 0) (F0.keep _ _ hR) rfl rfl (by simp) ?_
  walk_at "got"
  refine divNat hA (by lia) ht0 ?_
  dsimp only
  walk_at "got"
  refine sub_at (j := 1) (F0.keep _ _ hR) rfl rfl (by simp) ?_
  walk_at "got"
  refine divNat hA (by lia) ht0 ?_
  dsimp only
  walk_at "got"
  refine sub_at (j := 2) (F0.keep _ _ hR) rfl rfl (by simp) ?_
  walk_at "got"
  refine divNat hA (by lia) ht0 ?_
  dsimp only
  walk_at "got"
  refine rgb_ok (top := top) (v := v) (r := r) (g := g) (b := b) X' T' F0.keep hA ?_ ?_ htv hr hg hb ?_ ?_ ?_ ?_
  · show A.units + 3 + 100 < cLine; first | exact room3 hu (by decide) | lia
  · show A.depth + 1 < recursionLimit; first | exact room2 hroom (by decide) | lia
  · exact hX r hr
  · exact hX g hg
  · exact hX b hb
  intro h2 tk2 a u1 u2 u3 K2 ha e2 c1 c2 c3 c4 c5 c6
  dsimp only at c1 c2 c3 ha
  have F2 := frKeep0 F0 K2
  have N2 := newsFresh F0 ha e2 (newsKeep0 N0 K2)
  clear F0 N0
  walk_at "got"
  rename Fr _ _ _ _ => F3
  rename News _ _ _ _ => N3
  refine comp_listA F3 hA goFree_tuple rfl (by with_unfolding_all rfl) (by with_unfolding_all rfl) (by decide) (by rfl) (by decide) (by rfl) (by rfl) ?_
  walk_at "got"
  rename Fr _ _ _ _ => F3
  rename News _ _ _ _ => N3
  refine told_ok (top := top) X' T' F3.keep hA ?_ ?_ (F3.keep _ _ hR) ?_
  · show A.units + 3 + 200 < cLine; first | exact room3 hu (by decide) | lia
  · show A.depth + 1 + 2 < recursionLimit; first | exact room3 hroom (by decide) | lia
  intro h3 tk3 ta a1 a2 a3 v1 v2 v3 v4 v5 v6 K3 hta e3 q1 q2 q3 f1 f2 f3
  have F4 := frKeep0 F3 K3
  have N4 := newsKeep0 N3 K3
  have N5 := newsFresh F3 hta e3 (newsFresh F3 f1 q1 (newsFresh F3 f2 q2 (newsFresh F3 f3 q3 N4)))
  clear F3 N3 N4
  have hpr := prOf_range ht0 ht8 hr hg hb
  refine ⟨ta, [.ref a1, .ref a2, .ref a3], _, fun j ys tk => ∃ ts : Nat → Nat, (∀ i, 0 < ts i) ∧ ys = (List.range j).map (fun i => .float (divI (prOf top r g b i)) (ts i)), rfl, F4, N5, fun h' F N => PySem.IsL.isList (N _ (.head _)).1, by simp, ?_, ?_, ?_⟩
  · exact ⟨fun _ => 1, fun _ => Nat.one_pos, rfl⟩
  · rintro j w0 C D I oC oI nn m₂ h' tk ys hj hyl ⟨ts, hk2, rfl⟩ F7 N7 off hoC
    have hj3 : j < 3 := by
      rcases Nat.lt_or_ge j 3 with q | q
      · exact q
      · rw [List.getElem?_eq_none (by first | exact nin1 (q) | exact nin2 (q) | exact allc (q) alln | simpa using q)] at hj; cases hj
    refine oEEEA (by
      have : j = 0 ∨ j = 1 ∨ j = 2 := by lia
      rcases this with rfl | rfl | rfl
      · cases hj; exact ⟨_, v1, v2, rfl, (N7 _ (.tail _ (.tail _ (.tail _ (.tail _ (.head _)))))).1⟩
      · cases hj; exact ⟨_, v3, v4, rfl, (N7 _ (.tail _ (.tail _ (.tail _ (.tail _ (.tail _ (.head _))))))).1⟩
      · cases hj; exact ⟨_, v5, v6, rfl, (N7 _ (.tail _ (.tail _ (.tail _ (.tail _ (.tail _ (.tail _ (.head _)))))))).1⟩ : ∃ (c : Addr) (x1 x2 : Nat), w0 = .ref c ∧ h'.get? c = some (pairObj (prOf top r g b j) x1 x2)) fun c x1 x2 q10255z3 ec => ?_; obtain rfl := q10255z3
    refine unpackN_ F7 N7 (isTup_pair ec) hA rfl rfl fun h8 F8 N8 => ?_
    refine wpAny_assignInOrder_more (comp_store rfl rfl F8 N8 off hoC fun h9 o9 F9 N9 c9 => ?_)
    refine wpAny_assignInOrder_more (comp_store rfl rfl F9 N9 off c9 fun h10 o10 F10 N10 c10 => ?_)
    refine wpAny_assignInOrder_none ?_
    have hp := hpr j
    refine oEAA (⟨_, c10, by rw [if_neg (by decide), if_pos rfl], by rw [if_pos rfl]⟩ : ∃ m8, LCg.NsObj o10 m8 ∧ m8 "p" = some (.int (prOf top r g b j).1 x1) ∧ m8 "d" = some (.int (prOf top r g b j).2 x2)) fun m8 c11 y1 y2 => ?_
    clear F7 N7 F8 N8 F9 N9 c9 c10
    dsimp only
    walk_at "got"
    refine divInt hA (by lia) (by lia) ?_
    dsimp only
    refine ⟨h10, _, o10, m8, rfl, F10, N10, c11, fun i => if i = j then tk + 1 + 1 else ts i, ?_, ?_⟩
    · intro i; dsimp only; split
      · lia
      · exact hk2 i
    · rw [List.range_succ, List.map_append]
      congr 1
      · refine List.map_congr_left fun i hi => ?_
        dsimp only; rw [if_neg (Nat.ne_of_lt (List.mem_range.mp hi))]
      · simp
  · rintro D nn h' tk' ys F7 N7 off hyl ⟨ts, hk2, rfl⟩
    have ed : (List.range [Value.ref a1, .ref a2, .ref a3].length).map (fun i => Value.float (divI (prOf top r g b i)) (ts i)) = [.float (divI (toldH r g b)) (ts 0), .float (divI (toldL top r g b)) (ts 1), .float (divI (toldS top r g b)) (ts 2)] := rfl
    rw [ed, divI_L, divI_S hr hg hb] at N7
    clear ed hyl
    dsimp only
    walk_at "got"
    rename Fr _ _ _ _ => F8
    rename News _ _ _ _ => N8
    have hS : Stat s.heap.get? := stat_K X'
    refine slice_tuple_from (a := 1) F8 N8 (items := #[.float (hueOf r g b) u1, .float (ligOf top r g b) u2, .float (satOf top r g b) u3]) ⟨_, (N8 _ (.tail _ (.tail _ (.tail _ (.tail _ (.tail _ (.head _))))))).1, rfl, _, rfl⟩ (by decide) (by simp) fun h9 F9 N9 => ?_
    clear F8 N8
    walk_at "got"
    rename Fr _ _ _ _ => F10
    rename News _ _ _ _ => N10
    refine kmk_slice_lit (zs := [.float (ligOf top r g b) (ts 1), .float (satOf top r g b) (ts 2)]) F10 N10 (PySem.IsL.isList (n := nn) (N10 _ (.tail _ (.head _))).1) (.int 1 _) .none (by rw [kmk_pick_nat _ (a := 1) (b := 3) (by rfl)]; rfl) ?_ (by with_unfolding_all rfl) (by intro _; with_unfolding_all rfl) (by show 3 ≤ sizeLine; decide)
    intro D2 h11 F11 N11 hD2
    clear F10 N10 hD2
    walk_at "got"
    rename Fr _ _ _ _ => F12
    rename News _ _ _ _ => N12
    refine call_tuple_list (PySem.IsL.isList (n := 0) (N12 _ (.head _)).1) (fun h13 K13 => ?_) (by show 2 ≤ sizeLine; decide)
    have F13 := frKeep (D := []) F12 (fun b o _ e => K13 b o e) (by simp) (by simp)
    have N13 := newsNew F13 (newsKeep (D := []) N12 (fun b o _ e => K13 b o e) (by simp)) { cls := .type "tuple", data := .seq [.float (ligOf top r g b) (ts 1), .float (satOf top r g b) (ts 2)].toArray }
    have F14 := F13.push { cls := .type "tuple", data := .seq [.float (ligOf top r g b) (ts 1), .float (satOf top r g b) (ts 2)].toArray }
    clear F12 N12 F13
    walk_at "got"
    rename Fr _ _ _ _ => F15
    rename News _ _ _ _ => N15
    have nb : NoneBooked _ := booked hS F15.keep
    have fl1 : feq (ligOf top r g b) (ligOf top r g b) = true := (lig_nr ht0 ht8 hr hg hb).1.1.feq
    have fs1 : feq (satOf top r g b) (satOf top r g b) = true := (sat_nr ht8 hr hg hb).1.1.feq
    refine cmp_ofEq ((PySem.SeqAt.RcAt.tuples (e := fun _ => true) (items := #[.float (ligOf top r g b) u2, .float (satOf top r g b) u3]) (items2 := #[.float (ligOf top r g b) (ts 1), .float (satOf top r g b) (ts 2)]) ⟨_, (N15 _ (.tail _ (.tail _ (.head _)))).1, rfl, _, rfl⟩ ⟨_, (N15 _ (.head _)).1, rfl, _, rfl⟩ ?_ ?_) _ _ _ _ ?_)
    · show A.units + 3 < cLine; first | exact room2 hu (by decide) | lia
    · intro j j1 j2
      match j, j1 with
      | 0, _ => exact fl1 ▸ Mine.EqAt.float (Nat.ne_of_gt (by lia)) (Nat.ne_of_gt (hk2 1)) (fun _ => rfl) fl1 nb
      | 1, _ => exact fs1 ▸ Mine.EqAt.float (Nat.ne_of_gt (by lia)) (Nat.ne_of_gt (hk2 2)) (fun _ => rfl) fs1 nb
    have eb : ((List.range (min (#[Value.float (ligOf top r g b) u2, .float (satOf top r g b) u3] : Array Value).size (#[Value.float (ligOf top r g b) (ts 1), .float (satOf top r g b) (ts 2)] : Array Value).size)).all (fun _ => true) && (#[Value.float (ligOf top r g b) u2, .float (satOf top r g b) u3] : Array Value).size == (#[Value.float (ligOf top r g b) (ts 1), .float (satOf top r g b) (ts 2)] : Array Value).size) = true := rfl
    rw [eb]
    walk_at "got"
    rename Fr _ _ _ _ => F16
    rename News _ _ _ _ => N16
    refine item_tupleL (l := [.float (hueOf r g b) u1, .float (ligOf top r g b) u2, .float (satOf top r g b) u3]) (j := 0) ⟨_, (N16 _ (.tail _ (.tail _ (.tail _ (.tail _ (.tail _ (.tail _ (.tail _ (.tail _ (.head _)))))))))).1, rfl, _, rfl⟩ (by decide) (by decide) rfl rfl ?_
    walk_at "got"
    refine sub_at (j := 0) (N16 _ (.tail _ (.tail _ (.tail _ (.head _))))).1 rfl rfl (by simp) ?_
    walk_at "got"
    refine call_abs_float ?_
    dsimp only
    walk_at "got"
    have e40 : (2 : Int) ^ Int.toNat 40 = 2 ^ 40 := rfl
    refine mul_fi_fits (Nat.lt_of_lt_of_le (m := 2 ^ 60) (by decide) (Nat.pow_le_pow_right (by decide) (by decide))) ?_
    dsimp only
    walk_at "got"
    refine lt_fi ?_
    have hnr := hue_nr (r := r) (g := g) (b := b) (by unfold wd3 mx3 mn3; lia)
    have hra := toldH_range (r := r) (g := g) (b := b) (by unfold wd3 mx3 mn3; lia)
    have hdn := divI_nr hra.2.2.2 hra.1 hra.2.1
    have fin1 := near_test (c := 0) hra.2.2.2 hnr.1 hdn hra.1 hra.2.1
    rw [show ((2 : Int) ^ Int.toNat 40) = 2 ^ 40 from rfl, fin1]
    walk_at "got"
    rename Fr _ _ _ _ => F17
    exact hq _ _ fun b o _ e => F17.keep b o e
end
end
-- part Ents
section
open PySem PySem.W PyProof.Rows PySem.Calls
set_option maxRecDepth 100000
set_option maxHeartbeats 4000000
noncomputable def rlt (dir : Bool) (kb : Nat → List UInt64) (i j : Nat) : Bool := if kEq (kb i) (kb j) then (if dir then decide (i < j) else decide (j < i)) else kLt (kb i) (kb j)
noncomputable def upd {β : Type} (f : Nat → β) (x : Nat) (v : β) : Nat → β := fun i => if i = x then v else f i
theorem upd_same {β : Type} (f : Nat → β) (x : Nat) (v : β) : upd f x v x = v := if_pos rfl
theorem upd_ne {β : Type} (f : Nat → β) {x i : Nat} (v : β) (h : i ≠ x) : upd f x v i = f i := if_neg h
theorem upd_map {β : Type} (f : Nat → β) {x : Nat} (v : β) {l : List Nat} (h : x ∉ l) : l.map (upd f x v) = l.map f := List.map_congr_left fun i hi => upd_ne f v (fun e => h (e ▸ hi))
structure Ents (h : PM) (tk : Nat) (kb : Nat → List UInt64) (dir : Bool) (c d : Nat) (f : Nat → Value) (ks : Nat → Key) (os : Nat → Int) (rest : Nat → List Value) (l : List Nat) : Prop where
  ent : ∀ i ∈ l, EntAt h (f i) (ks i) (os i) (rest i)
  ok : ∀ i ∈ l, KOk (ks i) ∧ bits (ks i) = kb i ∧ (∀ p ∈ ks i, p.2 < tk) ∧ (rest i).length = c ∧ (ks i).length = d
  compat : ∀ i ∈ l, ∀ j ∈ l, i ≠ j → Compat (ks i) (ks j)
  mono : ∀ i ∈ l, ∀ j ∈ l, i < j → (if dir then os i < os j else os j < os i)
section
variable {h h' : PM} {tk tk' : Nat} {kb : Nat → List UInt64} {dir : Bool} {c d : Nat} {f : Nat → Value} {ks : Nat → Key} {os : Nat → Int} {rest : Nat → List Value} {l l' : List Nat}
theorem Ents.sub (e : Ents h tk kb dir c d f ks os rest l) (hs : ∀ i ∈ l', i ∈ l) : Ents h tk kb dir c d f ks os rest l' :=
  ⟨fun i hi => e.ent i (hs i hi), fun i hi => e.ok i (hs i hi), fun i hi j hj => e.compat i (hs i hi) j (hs j hj), fun i hi j hj => e.mono i (hs i hi) j (hs j hj)⟩
theorem Ents.grow (e : Ents h tk kb dir c d f ks os rest l) (hs : Sub h h') (ht : tk ≤ tk') : Ents h' tk' kb dir c d f ks os rest l :=
  ⟨fun i hi => (e.ent i hi).mono hs, fun i hi => let ⟨a, b, c, g⟩ := e.ok i hi; ⟨a, b, fun p hp => Nat.lt_of_lt_of_le (c p hp) ht, g⟩, e.compat, e.mono⟩
theorem Ents.nil : Ents h tk kb dir c d f ks os rest [] := ⟨(fun _ h => nomatch h), (fun _ h => nomatch h), (fun _ h => nomatch h), (fun _ h => nomatch h)⟩
theorem Ents.add (e : Ents h tk kb dir c d f ks os rest l) {x : Nat} {v : Value} {k : Key} {o : Int} {r : List Value} (hx : ∀ i ∈ l, i < x) (hv : EntAt h v k o r) (hk : KOk k) (hb : bits k = kb x) (ht : ∀ p ∈ k, tk ≤ p.2 ∧ p.2 < tk') (htk : tk ≤ tk') (hr : r.length = c) (hkd : k.length = d)
    (ho : ∀ i ∈ l, if dir then os i < o else o < os i) : Ents h tk' kb dir c d (upd f x v) (upd ks x k) (upd os x o) (upd rest x r) (x :: l) := by
  have hne : ∀ i ∈ l, i ≠ x := fun i hi => Nat.ne_of_lt (hx i hi)
  refine ⟨fun i hi => ?_, fun i hi => ?_, fun i hi j hj hij => ?_, fun i hi j hj hij => ?_⟩
  · rcases List.mem_cons.mp hi with rfl | hi
    · rw [upd_same, upd_same, upd_same, upd_same]; exact hv
    · rw [upd_ne _ _ (hne i hi), upd_ne _ _ (hne i hi), upd_ne _ _ (hne i hi), upd_ne _ _ (hne i hi)]; exact e.ent i hi
  · rcases List.mem_cons.mp hi with rfl | hi
    · rw [upd_same, upd_same]; exact ⟨hk, hb, fun p hp => (ht p hp).2, hr, hkd⟩
    · rw [upd_ne _ _ (hne i hi), upd_ne _ _ (hne i hi)]
      refine oAAA (e.ok i hi) fun a b c g => ?_
      exact ⟨a, b, fun p hp => Nat.lt_of_lt_of_le (c p hp) htk, g⟩
  · rcases List.mem_cons.mp hi with ei | hi' <;> rcases List.mem_cons.mp hj with ej | hj'
    · exact absurd (ei.trans ej.symm) hij
    · subst ei; rw [upd_same, upd_ne _ _ (hne j hj')]
      intro p hp q hq hpq
      have h1 := (ht p hp).1
      have h2 := (e.ok j hj').2.2.1 q hq
      rw [hpq] at h1
      exact absurd h2 (Nat.not_lt.mpr h1)
    · subst ej; rw [upd_same, upd_ne _ _ (hne i hi')]
      intro p hp q hq hpq
      have h1 := (ht q hq).1
      have h2 := (e.ok i hi').2.2.1 p hp
      rw [hpq] at h2
      exact absurd h2 (Nat.not_lt.mpr h1)
    · rw [upd_ne _ _ (hne i hi'), upd_ne _ _ (hne j hj')]; exact e.compat i hi' j hj' hij
  · rcases List.mem_cons.mp hi with ei | hi' <;> rcases List.mem_cons.mp hj with ej | hj'
    · rw [ei, ej] at hij; exact absurd hij (Nat.lt_irrefl _)
    · subst ei; exact absurd (hx j hj') (Nat.lt_asymm hij)
    · subst ej; rw [upd_same, upd_ne _ _ (hne i hi')]; exact ho i hi'
    · rw [upd_ne _ _ (hne i hi'), upd_ne _ _ (hne j hj')]; exact e.mono i hi' j hj' hij
theorem Ents.cmp {w : World} (e : Ents h tk kb dir c d f ks os rest l) (hS : Stat h) {i j : Nat} (hi : i ∈ l) (hj : j ∈ l) : Cmp w h (f i) (f j) (rlt dir kb i j) := by
  refine oAAAA (e.ok i hi) fun a1 b1 _ d1 e1 => ?_
  refine oAAAA (e.ok j hj) fun a2 b2 _ d2 e2 => ?_
  by_cases hij : i = j
  · subst hij
    have : rlt dir kb i i = false := by
      unfold rlt
      rw [← b1, kEq_self a1]
      cases dir <;> simp
    rw [this]
    exact cmp_self (e.ent i hi)
  · have hc := e.compat i hi j hj hij
    have ho : os i ≠ os j ∧ (decide (os i < os j) = if dir then decide (i < j) else decide (j < i)) := by
      rcases Nat.lt_or_gt_of_ne hij with q | q
      · have m := e.mono i hi j hj q
        cases dir
        · simp only [Bool.false_eq_true, if_false] at m ⊢
          exact ⟨by lia, by rw [decide_eq_false (by lia), decide_eq_false (by lia)]⟩
        · simp only [if_true] at m ⊢
          exact ⟨by lia, by rw [decide_eq_true m, decide_eq_true q]⟩
      · have m := e.mono j hj i hi q
        cases dir
        · simp only [Bool.false_eq_true, if_false] at m ⊢
          exact ⟨by omega, by rw [decide_eq_true m, decide_eq_true q]⟩
        · simp only [if_true] at m ⊢
          exact ⟨by omega, by rw [decide_eq_false (by omega), decide_eq_false (by lia)]⟩
    have := cmp_ent (w := w) hS (e.ent i hi) (e.ent j hj) (by rw [d1, d2]) a1 a2 hc (by rw [e1, e2]) ho.1
    unfold entLt at this
    rw [ho.2, b1, b2] at this
    exact this
end
noncomputable def KeyOk (w : World) (H : Heap) (Kf : Addr) (ra : List Addr) (kb : Nat → List UInt64) (d : Nat) : Prop :=
  (∃ o fd, H.get? Kf = some o ∧ o.data = .func fd) ∧
  ∀ (A : Around) (s : Shared) (Q E : Value → Shared → Prop) (i : Nat) (a : Addr), ra[i]? = some a → H.StaysIn s.heap → A.handled = none → A.units + 500 < cLine → A.depth + 4 < recursionLimit →
    (∀ (h' : Heap) (tk' : Nat) (c : Addr) (k : Key) (n : Nat), Keep [] s.heap h' → s.heap.get? c = none → h'.get? c = some (listOf (kvals k).toArray n) → bits k = kb i → KOk k → k.length = d → (∀ p ∈ k, s.toks ≤ p.2 ∧ p.2 < tk') → s.toks ≤ tk' → Q (.ref c) { s with heap := h', toks := tk' }) →
    wpAny (model PySem.Challenge.rw_mq0320_01.row.prog w) A (call (.ref Kf) [.ref a]) Q E s
noncomputable def gOf (h₀ : Heap) (ents : List (Addr × Obj)) : PM := fun b => match h₀.get? b with | some o => some o | none => ents.lookup b
theorem mem_lookup {ents : List (Addr × Obj)} {b : Addr} {o : Obj} : ents.lookup b = some o → (b, o) ∈ ents := by
  induction ents with
  | nil => intro h; cases h
  | cons p r ih =>
    intro h
    obtain ⟨a, x⟩ := p
    rw [List.lookup_cons] at h
    split at h
    · rename_i q; rw [beq_iff_eq] at q; cases h; rw [q]; exact .head _
    · exact .tail _ (ih h)
theorem gOf_sub {h₀ h : Heap} {L : Addr} {m : Str → Option Value} {ents : List (Addr × Obj)} (F : Fr h₀ L h m) (N : News h₀ L h ents) : Sub (gOf h₀ ents) h.get? := fun b o e => by
  unfold gOf at e
  cases q : h₀.get? b with
  | some x => rw [q] at e; cases e; exact F.keep _ _ q
  | none => rw [q] at e; exact (N _ (mem_lookup e)).1
theorem gOf_base {h₀ : Heap} {ents : List (Addr × Obj)} : Sub h₀.get? (gOf h₀ ents) := fun b o e => by unfold gOf; rw [e]
theorem gOf_cons {h₀ h : Heap} {L a : Addr} {o : Obj} {ents : List (Addr × Obj)} (N : News h₀ L h ents) (ha : h.get? a = none) : Sub (gOf h₀ ents) (gOf h₀ ((a, o) :: ents)) := fun b x e => by
  unfold gOf at e ⊢
  cases q : h₀.get? b with
  | some y => rw [q] at e; exact e
  | none =>
    rw [q] at e
    have : b ≠ a := by
      rintro rfl
      have := (N _ (mem_lookup e)).1
      rw [ha] at this; cases this
    show List.lookup b ((a, o) :: ents) = some x
    rw [List.lookup_cons, beq_eq_false_iff_ne.mpr this]
    exact e
theorem gOf_head {h₀ : Heap} {a : Addr} {o : Obj} {ents : List (Addr × Obj)} (ha : h₀.get? a = none) : gOf h₀ ((a, o) :: ents) a = some o := by
  unfold gOf; rw [ha]; show List.lookup a ((a, o) :: ents) = some o; simp
theorem gOf_none {h₀ : Heap} {D : Addr} {ents : List (Addr × Obj)} (hD : h₀.get? D = none) (h : ∀ p ∈ ents, p.1 ≠ D) : gOf h₀ ents D = none := by
  unfold gOf; rw [hD]
  show List.lookup D ents = none
  cases q : List.lookup D ents with
  | none => rfl
  | some o => exact absurd rfl (h _ (mem_lookup q))
theorem callW0 {M : Model} {A : Around} {s : Shared} {Q E : Value → Shared → Prop} {pos : Pos} {a : Addr} {o : Obj} {fd : FuncData} {x : Sem Value} {rest : List (Bool × Sem Value)} (hd : o.data = .func fd)
    (h : wpAny M A (spliced ((false, x) :: rest)) (fun vs s₁ => s₁.heap.get? a = some o ∧ wpAny M A (call (.ref a) vs) Q E s₁) E s) : wpAny M A (callWith pos (.ref a) [] ((false, x) :: rest) []) Q E s :=
  callWith_function_kw (o := o) (fd := fd) (evalArgs_plain (wpAny_mono h (fun vs s₁ h₁ => ⟨⟨h₁.1, hd⟩, h₁.2⟩) fun _ _ x => x))
theorem callW {M : Model} {A : Around} {s : Shared} {Q E : Value → Shared → Prop} {pos : Pos} {a : Addr} {o : Obj} {fd : FuncData} {e : Expr} {rest : List Expr} {env : Env} (hd : o.data = .func fd)
    (h : wpAny M A (spliced (backTo pos (starEach (e :: rest) env))) (fun vs s₁ => s₁.heap.get? a = some o ∧ wpAny M A (call (.ref a) vs) Q E s₁) E s)
    (he : starEach (e :: rest) env = (false, eval e env) :: starEach rest env := by rfl) : wpAny M A (callWith pos (.ref a) [] (backTo pos (starEach (e :: rest) env)) []) Q E s := by
  rw [he] at h ⊢
  exact callW0 hd h
end
-- part Ents2
section
open PySem PySem.W PyProof.Rows PySem.Calls
set_option maxRecDepth 100000
set_option maxHeartbeats 4000000
theorem allLt_ne {d : Addr} : ∀ {l : List (Addr × Obj)}, AllLt d l → ∀ p ∈ l, p.1 ≠ d
  | [], _, p, hp => nomatch hp
  | q :: l, h, p, hp => by
    rcases List.mem_cons.mp hp with rfl | hp
    · exact Nat.ne_of_lt h.1
    · exact allLt_ne h.2 p hp
theorem gOf_consN {h₀ : Heap} {a : Addr} {o : Obj} {ents : List (Addr × Obj)} (ha : ∀ p ∈ ents, p.1 ≠ a) : Sub (gOf h₀ ents) (gOf h₀ ((a, o) :: ents)) := fun b x e => by
  unfold gOf at e ⊢
  cases q : h₀.get? b with
  | some y => rw [q] at e; exact e
  | none =>
    rw [q] at e
    have : b ≠ a := ha _ (mem_lookup e)
    show List.lookup b ((a, o) :: ents) = some x
    rw [List.lookup_cons, beq_eq_false_iff_ne.mpr this]
    exact e
section
variable {tk tk' : Nat} {kb : Nat → List UInt64} {dir : Bool} {c d : Nat} {f : Nat → Value} {ks : Nat → Key} {os : Nat → Int} {rest : Nat → List Value} {l l' : List Nat}
theorem Ents.entry {h₀ : Heap} {ents : List (Addr × Obj)} {D kc : Addr} {x nn kn : Nat} {k : Key} {o : Int} {t : Tok} {r : List Value} (e : Ents (gOf h₀ ents) tk kb dir c d f ks os rest l) (hkn : ∀ p ∈ ents, p.1 ≠ kc) (hDn : ∀ p ∈ ents, p.1 ≠ D) (hkD : kc ≠ D) (hk0 : h₀.get? kc = none) (hD0 : h₀.get? D = none)
    (hx : ∀ i ∈ l, i < x) (hk : KOk k) (hb : bits k = kb x) (ht : ∀ p ∈ k, tk ≤ p.2 ∧ p.2 < tk') (htk : tk ≤ tk') (hr : r.length = c) (hkd : k.length = d) (ho : ∀ i ∈ l, if dir then os i < o else o < os i) :
    Ents (gOf h₀ ((D, { cls := .type "tuple", data := .seq (.ref kc :: .int o t :: r).toArray nn }) :: (kc, listOf (kvals k).toArray kn) :: ents)) tk' kb dir c d (upd f x (.ref D)) (upd ks x k) (upd os x o) (upd rest x r) (x :: l) := by
  have s1 : Sub (gOf h₀ ents) (gOf h₀ ((kc, listOf (kvals k).toArray kn) :: ents)) := gOf_consN hkn
  have s2 : Sub (gOf h₀ ((kc, listOf (kvals k).toArray kn) :: ents)) (gOf h₀ ((D, { cls := .type "tuple", data := .seq (.ref kc :: .int o t :: r).toArray nn }) :: (kc, listOf (kvals k).toArray kn) :: ents)) :=
    gOf_consN fun p hp => by
      rcases List.mem_cons.mp hp with rfl | hp
      · exact hkD
      · exact hDn p hp
  refine ((e.grow s1 (Nat.le_refl _)).grow s2 (Nat.le_refl _)).add hx ⟨D, nn, .ref kc, t, rfl, gOf_head hD0, kc, kn, rfl, s2 _ _ (gOf_head hk0)⟩ hk hb ht htk hr hkd ho
theorem Ents.upd_list {x : Nat} {v : Value} (hx : x ∉ l) (h : Heap) {D : Addr} {n : Nat} (e : h.get? D = some (listOf (l.map f).toArray n)) : h.get? D = some (listOf (l.map (upd f x v)).toArray n) := by
  rw [upd_map f v hx]; exact e
end
section
variable {w : World} {A : Around} {s : Shared} {H : Heap} {G : PM} {p : Program} {loose : List Str} {mean : ExcName → Option Value} {mg mb : Str → Option Value} {Q E : Value → Shared → Prop}
    {D : Addr} {n : Nat}
theorem heappush_v {α : Type} [DecidableEq α] {f : α → Value} {l : List α} {x : α} {lt : α → α → Bool} {v : Value} (hv : f x = v)
    (X : (hd.heap_1 w.params).In H) (T : Top p loose mean mg mb H) (st : H.StaysIn s.heap) (hD : H.get? D = none) (hA : A.handled = none) (hu : A.units + 400 < cLine) (hroom : A.depth + 2 < recursionLimit)
    (hl : s.heap.get? D = some (listOf (l.map f).toArray n)) (hG : Sub G s.heap.get?) (hGD : G D = none) (hlen : l.length + 1 < 2 ^ 20)
    (hc : ∀ a ∈ x :: l, ∀ b ∈ x :: l, Cmp w G (f a) (f b) (lt a b))
    (hq : ∀ h' tk' n', Keep [D] s.heap h' → h'.get? D = some (listOf ((sdLoop lt x 0 (l ++ [x]) l.length).map f).toArray n') → Q .none { s with heap := h', toks := tk' }) :
    wpAny (model PySem.Challenge.rw_mq0320_01.row.prog w) A (call (.ref 21) [.ref D, v]) Q E s := by
  subst hv
  exact heappush_ok X T st hD hA hu hroom hl hG hGD hlen hc hq
theorem heapreplace_v {α : Type} [DecidableEq α] {f : α → Value} {l : List α} {x : α} {lt : α → α → Bool} {v : Value} (hv : f x = v) (hl0 : 0 < l.length)
    (X : (hd.heap_1 w.params).In H) (T : Top p loose mean mg mb H) (st : H.StaysIn s.heap) (hD : H.get? D = none) (hA : A.handled = none) (hu : A.units + 400 < cLine) (hroom : A.depth + 2 < recursionLimit)
    (hl : s.heap.get? D = some (listOf (l.map f).toArray n)) (hG : Sub G s.heap.get?) (hGD : G D = none) (hlen : l.length < 2 ^ 20)
    (hc : ∀ a ∈ x :: l, ∀ b ∈ x :: l, Cmp w G (f a) (f b) (lt a b))
    (hq : ∀ h' tk', Keep [D] s.heap h' → h'.get? D = some (listOf ((siftupP lt (l.set 0 x) 0).map f).toArray n) → Q (f l[0]) { s with heap := h', toks := tk' }) :
    wpAny (model PySem.Challenge.rw_mq0320_01.row.prog w) A (call (.ref 35) [.ref D, v]) Q E s := by
  subst hv
  exact heapreplace_ok hl0 X T st hD hA hu hroom hl hG hGD hlen hc hq
theorem heapreplace_max_v {α : Type} [DecidableEq α] {f : α → Value} {l : List α} {x : α} {lt : α → α → Bool} {v : Value} (hv : f x = v) (hl0 : 0 < l.length)
    (X : (hd.heap_1 w.params).In H) (T : Top p loose mean mg mb H) (st : H.StaysIn s.heap) (hD : H.get? D = none) (hA : A.handled = none) (hu : A.units + 400 < cLine) (hroom : A.depth + 2 < recursionLimit)
    (hl : s.heap.get? D = some (listOf (l.map f).toArray n)) (hG : Sub G s.heap.get?) (hGD : G D = none) (hlen : l.length < 2 ^ 20)
    (hc : ∀ a ∈ x :: l, ∀ b ∈ x :: l, Cmp w G (f a) (f b) (lt a b))
    (hq : ∀ h' tk', Keep [D] s.heap h' → h'.get? D = some (listOf ((siftupP (fun a b => lt b a) (l.set 0 x) 0).map f).toArray n) → Q (f l[0]) { s with heap := h', toks := tk' }) :
    wpAny (model PySem.Challenge.rw_mq0320_01.row.prog w) A (call (.ref 49) [.ref D, v]) Q E s := by
  subst hv
  exact heapreplace_max_ok hl0 X T st hD hA hu hroom hl hG hGD hlen hc hq
end
end
-- part Pop
section
open PySem PySem.W PyProof.Rows PySem.Calls PySem.Flt
set_option maxRecDepth 100000
set_option maxHeartbeats 4000000
theorem fillPop : True := by
  w_top off
  trivial
section
variable {w : World} {A : Around} {s : Shared} {H : Heap} {G : PM} {p : Program} {loose : List Str} {mean : ExcName → Option Value} {mg mb : Str → Option Value} {Q E : Value → Shared → Prop}
theorem ap_cons {R : Addr → Prop} {a : Addr} {o : Obj} {ents : List (Addr × Obj)} (h : ∀ p ∈ ents, R p.1) (h1 : R a) : ∀ p ∈ (a, o) :: ents, R p.1 := fun p hp => by
  rcases List.mem_cons.mp hp with rfl | hp
  · exact h1
  · exact h p hp
noncomputable def PopI1 (s : Shared) (L' : Addr) (ra : List Addr) (kb : Nat → List UInt64) (d : Nat) (ZZ : Flow → Shared → Prop) : Prop := ∀ (Hp P : Addr), ∀ (l : List Nat), ∀ (f : Nat → Value), ∀ (ks : Nat → Key), ∀ (os : Nat → Int), ∀ (rest : Nat → List Value), ∀ (nh : Nat), ∀ (ents : List (Addr × Obj)), ∀ (h' : Heap), ∀ (tk' : Nat), ∀ (m : Str → Option Value), (Hp ≠ P) → ((∀ p ∈ ents, p.1 ≠ Hp ∧ p.1 ≠ P)) → (Fr s.heap L' h' m) → (News s.heap L' h' ((Hp, listOf (l.map f).toArray nh) :: (P, listOf ([] : List Value).toArray 0) :: ents)) → (m "heap" = some (.ref Hp)) → (m "places" = some (.ref P)) → (l.Perm (List.range ra.length)) → (HeapFrom (rlt true kb) 0 l) → (Ents (gOf s.heap ents) tk' kb true 0 d f ks os rest l) → ((∀ i ∈ l, os i = i)) → ZZ (.next) ({ s with heap := h', toks := tk' })
noncomputable def PopI2 (s : Shared) (L' : Addr) (Kf : Addr) (RA : Addr) (ra : List Addr) (kb : Nat → List UInt64) (d : Nat) (c : Nat) (ZZ : Value → Shared → Prop) : Prop := ∀ (I Hp P : Addr), ∀ (j : Nat), ∀ (l : List Nat), ∀ (f : Nat → Value), ∀ (ks : Nat → Key), ∀ (os : Nat → Int), ∀ (rest : Nat → List Value), ∀ (nh : Nat), ∀ (ents : List (Addr × Obj)), ∀ (oI : Obj), ∀ (h' : Heap), ∀ (tk' : Nat), ∀ (m : Str → Option Value), ((Hp ≠ P ∧ I ≠ Hp ∧ I ≠ P)) → ((∀ p ∈ ents, p.1 ≠ Hp ∧ p.1 ≠ P ∧ p.1 ≠ I)) → (Fr s.heap L' h' m) → (News s.heap L' h' ((Hp, listOf (l.map f).toArray nh) :: (P, listOf ([] : List Value).toArray 0) :: (I, oI) :: ents)) → (IsLi oI RA j) → (m "heap" = some (.ref Hp)) → (m "places" = some (.ref P)) → (m "key" = some (.ref Kf)) → (j + c = ra.length) → (l.Perm (List.range j)) → (HeapFrom (rlt true kb) 0 l) → (Ents (gOf s.heap ents) tk' kb true 0 d f ks os rest l) → ((∀ i ∈ l, os i = i)) → ZZ (.ref I) ({ s with heap := h', toks := tk' })
noncomputable def PopI3 (s : Shared) (L' : Addr) (Hp : Addr) (P : Addr) (ra : List Addr) (f : Nat → Value) (ks : Nat → Key) (os : Nat → Int) (rest : Nat → List Value) (kb : Nat → List UInt64) (d : Nat) (ents : List (Addr × Obj)) (c : Nat) (ZZ : Shared → Prop) : Prop := ∀ (l done : List Nat), ∀ (vs : List Value), ∀ (nh nn : Nat), ∀ (h' : Heap), ∀ (tk' : Nat), ∀ (m : Str → Option Value), (Fr s.heap L' h' m) → (News s.heap L' h' ((Hp, listOf (l.map f).toArray nh) :: (P, listOf vs.toArray nn) :: ents)) → (m "heap" = some (.ref Hp)) → (m "places" = some (.ref P)) → (l.length = c) → (IntsOf vs done) → ((done ++ l).Perm (List.range ra.length)) → (HeapFrom (rlt true kb) 0 l) → (done.Pairwise (fun a b => rlt true kb b a = false)) → ((∀ x ∈ done, ∀ y ∈ l, rlt true kb y x = false)) → (Ents (gOf s.heap ents) tk' kb true 0 d f ks os rest l) → ((∀ i ∈ l, os i = i)) → ZZ ({ s with heap := h', toks := tk' })
theorem popped_ok {Kf RA : Addr} {ra : List Addr} {kb : Nat → List UInt64} {d n : Nat}
    (X₀ : (hd.heap_1 w.params).In H) (T : Top p loose mean mg mb H) (st : H.StaysIn s.heap) (hA : A.handled = none) (hu : A.units + 800 < cLine) (hroom : A.depth + 8 < recursionLimit)
    (hK : KeyOk w H Kf ra kb d) (hRA : H.get? RA = some (listOf (ra.map Value.ref).toArray n)) (hn : ra.length < 2 ^ 16)
    (hrow : ∀ (i : Nat) (a : Addr), ra[i]? = some a → ∃ (its : List Value) (nn : Nat) (t : Tok), H.get? a = some (listOf its.toArray nn) ∧ its[3]? = some (.int i t) ∧ its.length = 4)
    (swo : SWO (rlt true kb))
    (hq : ∀ (h' : Heap) (tk' : Nat) (a : Addr) (vs : List Value) (nn : Nat) (l : List Nat), Keep [] s.heap h' → s.heap.get? a = none → h'.get? a = some (listOf vs.toArray nn) → IntsOf vs l → l.Perm (List.range ra.length) → l.Pairwise (fun a b => rlt true kb b a = false) →
      Q (.ref a) { s with heap := h', toks := tk' }) :
    wpAny (model PySem.Challenge.rw_mq0320_01.row.prog w) A (call (.ref 138) [.ref RA, .ref Kf]) Q E s := by
  have X₁ := X₀
  have T₁ := T
  refine wpAny_call ?_
  refine' callF (binds := [("rows", .ref RA), ("key", .ref Kf)]) [] ?k6 ?k7 (X₀.keeps st) (T.nolimit.keeps st) (by first | exact room1 hroom | lia) ?k9 ?kB ?_ ?c5 ?c2 ?c3 ?c4
  case k6 => k_is
  case k7 => k_is
  case k9 => exact BindsTo.of_eq rfl
  case kB => exact locs rfl
  case c5 => decide
  case c2 => exact rfl
  case c3 => exact rfl
  case c4 => exact rfl
  intro L' h₁ F hk₁ hL
  have X' := X₀.keeps st
  have T' := T.keeps st
  have F0 : Fr s.heap L' h₁ _ := F
  have N0 : News s.heap L' h₁ [] := fun p hp => nomatch hp
  clear X₀ T F
  dsimp only [List.length_cons, List.length_nil]
  have hS : Stat s.heap.get? := stat_K X'
  walk_at "go"
  rename Fr _ _ _ _ => F1
  rename News _ _ _ _ => N1
  refine cutC (PopI1 s L' ra kb d) ?_ ?_
  · intro Pz mkP
    refine for_myC (PopI2 s L' Kf RA ra kb d) ?_ ?_
    · walk_at "go"
      refine wpAny_pyIter_list (PySem.IsL.isList (F1.keep _ _ (st _ _ hRA))) ?_
      have zP := N1 _ (.tail _ (.head _))
      have zH := N1 _ (.tail _ (.tail _ (.head _)))
      have fI := fresh_base F1 (Heap.get?_none_of_le (Nat.le_refl _))
      refine ⟨ra.length, fun _ zz => zz _ _ _ 0 ([]) (fun _ => .none) (fun _ => []) (fun _ => 0) (fun _ => []) 0 ([]) ({ cls := .type "list_iterator", data := .fields #[.ref RA, .int 0 0] }) _ _ _ ⟨?_, ?_, ?_⟩ (fun p hp => nomatch hp) (F1.push _) (?_) ⟨rfl, rfl⟩ rfl rfl rfl (by lia) (.refl _) (?_) Ents.nil (fun i hi => nomatch hi)⟩
      · exact Nat.ne_of_lt (by assumption)
      · exact Nat.ne_of_gt (Heap.lt_size zH.1)
      · exact Nat.ne_of_gt (Heap.lt_size zP.1)
      · exact newsCons (newsCons (newsCons (fun p hp => nomatch hp) (Heap.get?_push_size _ rfl) fI.1 fI.2) (Heap.get?_push_of_some _ zP.1) zP.2.1 zP.2.2) (Heap.get?_push_of_some _ zH.1) zH.2.1 zH.2.2
      · intro i x y _ _ h; simp at h
    · intro c I Hp P j l f ks os rest nh ents oI h' tk' m r15 ap F2 N2 hLi l1 l2 l3 hj hperm hheap hE hos
      obtain ⟨a1, a2, a3⟩ := r15
      intro Bz mkB
      have zH := N2 _ (.head _)
      have zP := N2 _ (.tail _ (.head _))
      have zI := N2 _ (.tail _ (.tail _ (.head _)))
      have Nz : News s.heap L' h' ents := newsTail (newsTail (newsTail N2))
      have hl := PySem.IsL.isList (n := n) (F2.keep _ _ (st _ _ hRA))
      rcases Nat.eq_zero_or_pos c with rfl | hc
      · refine wpAny_pyNext_list_end hA ⟨oI, zI.1, hLi⟩ hl (by simp; lia) fun h2 hx => ?_
        have K := Keep.ofExt hx
        have F3 := frKeep1 F2 K zI.2
        have N3 : News s.heap L' h2 ((Hp, listOf (l.map f).toArray nh) :: (P, listOf ([] : List Value).toArray 0) :: ents) :=
          newsCons (newsCons (newsKeep Nz K (fun p hp => by first | exact nin1 ((ap p hp).2.2) | exact nin2 ((ap p hp).2.2) | exact allc ((ap p hp).2.2) alln | simpa using (ap p hp).2.2)) (K _ _ (by first | exact nin1 (Ne.symm a3) | exact nin2 (Ne.symm a3) | exact allc (Ne.symm a3) alln | simpa using Ne.symm a3) zP.1) zP.2.1 zP.2.2) (K _ _ (by first | exact nin1 (Ne.symm a2) | exact nin2 (Ne.symm a2) | exact allc (Ne.symm a2) alln | simpa using Ne.symm a2) zH.1) zH.2.1 zH.2.2
        exact mkP _ _ (fun _ zz => zz Hp P l f ks os rest nh ents h2 tk' m a1 (fun p hp => ⟨(ap p hp).1, (ap p hp).2.1⟩) F3 N3 l1 l2 (by rw [show ra.length = j by lia]; exact hperm) hheap hE hos)
      · have hjr : j < ra.length := by lia
        refine wpAny_pyNext_list_item (x := .ref ra[j]) ⟨oI, zI.1, hLi⟩ hl (by simp [hjr]) fun h2 hI2 hx => ?_
        refine oEA hI2 fun oI2 eI2 cI2 => ?_; (try clear hI2)
        have K := Keep.ofSame hx
        have F3 := frKeep1 F2 K zI.2
        have N3 : News s.heap L' h2 ((Hp, listOf (l.map f).toArray nh) :: (P, listOf ([] : List Value).toArray 0) :: (I, oI2) :: ents) :=
          newsCons (newsCons (newsCons (newsKeep Nz K (fun p hp => by first | exact nin1 ((ap p hp).2.2) | exact nin2 ((ap p hp).2.2) | exact allc ((ap p hp).2.2) alln | simpa using (ap p hp).2.2)) eI2 zI.2.1 zI.2.2) (K _ _ (by first | exact nin1 (Ne.symm a3) | exact nin2 (Ne.symm a3) | exact allc (Ne.symm a3) alln | simpa using Ne.symm a3) zP.1) zP.2.1 zP.2.2) (K _ _ (by first | exact nin1 (Ne.symm a2) | exact nin2 (Ne.symm a2) | exact allc (Ne.symm a2) alln | simpa using Ne.symm a2) zH.1) zH.2.1 zH.2.2
        have F4 := frKnown F3 [("heap", .ref Hp), ("places", .ref P), ("key", .ref Kf)] (by first | exact allc l1 (allc l2 (allc l3 alln)) | simp [l1, l2, l3])
        clear F1 N1 F2 N2 F3
        dsimp only
        refine letGo_name (wpAny_assign_Name ?_)
        walk_at "got"
        rename Fr _ _ _ _ => F5
        rename News _ _ _ _ => N5
        refine wpAny_with_toks (n := tk') (by (try dsimp only); lia) ?_
        refine oA hK fun q11413z0 hKc => ?_; (try clear hK); obtain ⟨oK, fdK, eK, dK⟩ := q11413z0
        refine callW dK ?_
        walk_at "got"
        · exact F5.keep _ _ (st _ _ eK)
        refine hKc _ _ _ _ j ra[j] (List.getElem?_eq_getElem hjr) ?_ hA ?_ ?_ ?_
        · exact fun b o e => F5.keep b o (st b o e)
        · show A.units + 3 + 500 < cLine; first | exact room3 hu (by decide) | lia
        · show A.depth + 1 + 4 < recursionLimit; first | exact room3 hroom (by decide) | lia
        intro h6 tk6 kc k kn K6 hkc ek b1 b2 b3 b4 b5 b6
        have F6 := frKeep0 F5 K6
        have N6 := newsFresh F5 hkc ek (newsKeep0 N5 K6)
        refine oEEEAA (hrow j ra[j] (List.getElem?_eq_getElem hjr)) fun its nnr tr er e3 l4 => ?_
        have Nz5 : News s.heap L' _ ents := newsTail (newsTail (newsTail N5))
        have hE6 := hE.grow (gOf_cons (o := listOf (kvals k).toArray kn) Nz5 hkc) (Nat.le_refl _)
        have fkc := fresh_base F5 hkc
        have hkcn : ∀ p ∈ (Hp, listOf (l.map f).toArray nh) :: (P, listOf ([] : List Value).toArray 0) :: (I, oI2) :: ents, p.1 ≠ kc := fun p hp e => by
          have := (N5 p hp).1; rw [e, hkc] at this; cases this
        clear F5 N5
        walk_at "got"
        refine sub_at (j := 3) (F6.keep _ _ (st _ _ er)) rfl e3 (by lia) ?_
        walk_at "got"
        rename Fr _ _ _ _ => F7
        rename News _ _ _ _ => N7
        rename kc < _ ∧ _ => lD
        have zt := N7 _ (.head _)
        have zk7 := N7 _ (.tail _ (.head _))
        have zH7 := N7 _ (.tail _ (.tail _ (.head _)))
        have zP7 := N7 _ (.tail _ (.tail _ (.tail _ (.head _))))
        have zI7 := N7 _ (.tail _ (.tail _ (.tail _ (.tail _ (.head _)))))
        have Nz7 : News s.heap L' _ ents := newsTail (newsTail (newsTail (newsTail (newsTail N7))))
        have hlj : ∀ i ∈ l, i < j := fun i hi => List.mem_range.mp (hperm.mem_iff.mp hi)
        have hjl : j ∉ l := fun q => Nat.lt_irrefl _ (hlj j q)
        have b5' : tk' + 1 ≤ tk6 := b5
        have hE7 := hE.entry (kc := kc) (t := tr) (nn := 0) (kn := kn) (o := (j : Int)) (r := []) (x := j) (k := k) (tk' := tk6) (fun p hp => hkcn p (.tail _ (.tail _ (.tail _ hp)))) (allLt_ne lD.2.2.2.2) (Nat.ne_of_lt lD.1) fkc.2 zt.2.2 hlj b2 b1 (fun p hp => ⟨Nat.le_of_succ_le (b4 p hp).1, (b4 p hp).2⟩) (by omega) rfl b3 (fun i hi => by simp only [if_true]; rw [hos i hi]; exact Int.ofNat_lt.mpr (hlj i hi))
        have Nent := newsCons (newsCons Nz7 zk7.1 zk7.2.1 zk7.2.2) zt.1 zt.2.1 zt.2.2
        have apE0 := ap_cons (R := fun x => x ≠ Hp ∧ x ≠ P ∧ x ≠ I) ap (o := listOf (kvals k).toArray kn) ⟨(hkcn _ (.head _)).symm, (hkcn _ (.tail _ (.head _))).symm, (hkcn _ (.tail _ (.tail _ (.head _)))).symm⟩
        have apE := ap_cons (R := fun x => x ≠ Hp ∧ x ≠ P ∧ x ≠ I) apE0 (o := { cls := .type "tuple", data := .seq (Value.ref kc :: .int j tr :: []).toArray 0 }) ⟨Nat.ne_of_gt lD.2.1, Nat.ne_of_gt lD.2.2.1, Nat.ne_of_gt lD.2.2.2.1⟩
        refine wpAny_with_toks (n := tk6) (by (try dsimp only); lia) ?_
        refine heappush_v (f := upd f j (.ref _)) (x := j) (l := l) (lt := rlt true kb) (upd_same f j _) X' T' F7.keep zH7.2.2 hA ?_ ?_ (Ents.upd_list hjl _ zH7.1) (gOf_sub F7 Nent) (gOf_none zH7.2.2 fun p hp => (apE p hp).1) ?_ (fun a ha b hb => hE7.cmp (gOf_base _ _ hS) ha hb) ?_
        · show A.units + 3 + 400 < cLine; first | exact room3 hu (by decide) | lia
        · show A.depth + 1 + 2 < recursionLimit; first | exact room3 hroom (by decide) | lia
        · rw [hperm.length_eq, List.length_range]; lia
        intro h8 tk8 n8 K8 e8 b8
        have F8 := frKeep1 F7 K8 zH7.2
        have Ne8 := newsKeep Nent K8 (fun p hp => by first | exact nin1 ((apE p hp).1) | exact nin2 ((apE p hp).1) | exact allc ((apE p hp).1) alln | simpa using (apE p hp).1)
        walk_at "got"
        have hp2 := push_perm (lt := rlt true kb) l j
        refine mkB (c - 1) _ (by lia) (fun _ zz => zz I Hp P (j + 1) _ _ _ _ _ n8 _ oI2 h8 tk8 _ ⟨a1, a2, a3⟩ apE F8 (?_) cI2 rfl rfl rfl (by lia) (?_) (push_heap swo hheap j) ((hE7.sub fun i hi => hp2.mem_iff.mp hi).grow (fun _ _ e => e) b8) (?_))
        · exact newsCons (newsCons (newsCons Ne8 (K8 _ _ (by first | exact nin1 (a2) | exact nin2 (a2) | exact allc (a2) alln | simpa using a2) zI7.1) zI7.2.1 zI7.2.2) (K8 _ _ (by first | exact nin1 (Ne.symm a1) | exact nin2 (Ne.symm a1) | exact allc (Ne.symm a1) alln | simpa using Ne.symm a1) zP7.1) zP7.2.1 zP7.2.2) e8 zH7.2.1 zH7.2.2
        · rw [List.range_succ]
          exact hp2.trans ((hperm.cons j).trans (List.perm_append_comm (l₁ := [j]) (l₂ := List.range j)))
        · intro i hi
          rcases List.mem_cons.mp (hp2.mem_iff.mp hi) with e | hi
          · rw [e, upd_same]
          · rw [upd_ne _ _ (Nat.ne_of_lt (hlj i hi))]; exact hos i hi
  intro Hp P l f ks os rest nh ents h' tk' m a1 ap F2 N2 l1 l2 hperm hheap hE hos
  clear F1 N1
  dsimp only
  walk_at "got"
  refine while_myC (PopI3 s L' Hp P ra f ks os rest kb d ents) ?_ l.length ?_
  · intro c l done vs nh nn h' tk' m F3 N3 l1 l2 hlc hI hperm hheap hsd hsl hE hos
    intro Bz mkB
    have F4 := frKnown F3 [("heap", .ref Hp), ("places", .ref P)] (by first | exact allc l1 (allc l2 alln) | simp [l1, l2])
    clear F2 N2 F3
    walk_at "got"
    have hlen : l.length ≤ ra.length := by
      have := hperm.length_eq
      simp at this; lia
    have zH := N3 _ (.head _)
    have zP := N3 _ (.tail _ (.head _))
    have Nz : News s.heap L' h' ents := newsTail (newsTail N3)
    refine wpAny_truthy_list (PySem.IsL.isList (n := nh) zH.1) (by simp; lia) ?_
    cases l with
    | nil =>
      rw [show (!(List.map f ([] : List Nat)).toArray.isEmpty) = false from rfl]
      simp only [Bool.false_eq_true, if_false]
      walk_at "got"
      refine hq _ _ P vs nn done (fun b o _ e => F4.keep b o e) zP.2.2 zP.1 hI (by first | exact nin1 (hperm) | exact nin2 (hperm) | exact allc (hperm) alln | simpa using hperm) hsd
    | cons y r =>
      rw [show (!(List.map f (y :: r)).toArray.isEmpty) = true by simp]
      simp only [if_true]
      walk_at "got"
      refine wpAny_with_toks (n := tk') (by (try dsimp only); lia) ?_
      refine heappop_ok (f := f) (l := y :: r) (lt := rlt true kb) (G := gOf s.heap ents) (by simp) X' T' F4.keep zH.2.2 hA ?_ ?_ zH.1 (gOf_sub F4 Nz) (gOf_none zH.2.2 fun p hp => (ap p hp).1) (by lia) (fun a ha b hb => hE.cmp (gOf_base _ _ hS) ha hb) ?_
      · show A.units + 3 + 400 < cLine; first | exact room3 hu (by decide) | lia
      · show A.depth + 1 + 2 < recursionLimit; first | exact room3 hroom (by decide) | lia
      intro h5 tk5 n5 K5 e5 b5
      refine oEEEEAA (hE.ent y (.head _)) fun ea en ekv et ev eg ek => ?_
      have eg5 := gOf_sub F4 Nz _ _ eg
      have F5 := frKeep1 F4 K5 zH.2
      have N5 : News s.heap L' h5 ((Hp, listOf ((popP (rlt true kb) (y :: r)).map f).toArray n5) :: (P, listOf vs.toArray nn) :: ents) :=
        newsCons (newsCons (newsKeep Nz K5 (fun p hp => by first | exact nin1 ((ap p hp).1) | exact nin2 ((ap p hp).1) | exact allc ((ap p hp).1) alln | simpa using (ap p hp).1)) (K5 _ _ (by first | exact nin1 (Ne.symm a1) | exact nin2 (Ne.symm a1) | exact allc (Ne.symm a1) alln | simpa using Ne.symm a1) zP.1) zP.2.1 zP.2.2) e5 zH.2.1 zH.2.2
      have hea : ea ≠ Hp := fun q => by
        have := gOf_none (h₀ := s.heap) zH.2.2 (fun p hp => (ap p hp).1)
        rw [← q, eg] at this; cases this
      have eg6 := K5 _ _ (by first | exact nin1 (hea) | exact nin2 (hea) | exact allc (hea) alln | simpa using hea) eg5
      rw [List.getElem_cons_zero, ev]
      walk_at "got"
      refine kba_turn (value' := PySem.Expr.Name (PySem.Str.ofString "a") ⟨0, 0, 0, 0⟩) (fun _ => rfl) ?_
      refine item_tupleL (l := ekv :: .int (os y) et :: rest y) (j := 1) ⟨_, eg6, rfl, _, rfl⟩ (by lia) (by lia) ?_ rfl ?_
      · simp [seqIndex?]; lia
      rw [hos y (.head _)]
      walk_at "got"
      have zH5 := N5 _ (.head _)
      have zP5 := N5 _ (.tail _ (.head _))
      have hdl : vs.length ≤ ra.length := by
        rw [hI.len]
        have := hperm.length_eq
        simp at this; lia
      refine append_at zP5.1 (fun h6 hs6 e6 => ?_) (by rw [sizeLine_eq]; simp; lia)
      have K6 := Keep.ofSame hs6
      have F6 := frKeep1 F5 K6 zP5.2
      have N6 : News s.heap L' h6 ((Hp, listOf ((popP (rlt true kb) (y :: r)).map f).toArray n5) :: (P, listOf (vs ++ [Value.int y et]).toArray (nn + 1)) :: ents) :=
        newsCons (newsCons (newsKeep (newsTail (newsTail N5)) K6 (fun p hp => by first | exact nin1 ((ap p hp).2) | exact nin2 ((ap p hp).2) | exact allc ((ap p hp).2) alln | simpa using (ap p hp).2)) (by rw [e6, List.push_toArray]) zP5.2.1 zP5.2.2) (K6 _ _ (by first | exact nin1 (a1) | exact nin2 (a1) | exact allc (a1) alln | simpa using a1) zH5.1) zH5.2.1 zH5.2.2
      have pp := popP_perm (lt := rlt true kb) (l := y :: r) (x := y) rfl
      have b5' : tk' ≤ tk5 := b5
      walk_at "got"
      refine mkB (r.length) _ (by rw [← hlc]; simp) (fun _ zz => zz (popP (rlt true kb) (y :: r)) (done ++ [y]) (vs ++ [.int y et]) n5 (nn + 1) h6 _ _ F6 N6 rfl rfl (by rw [popP_length]; simp) (?_) (?_) (popP_heap swo hheap) (?_) (?_) ((hE.sub fun i hi => pp.mem_iff.mpr (.tail _ hi)).grow (fun _ _ e => e) (by (try dsimp only); lia)) (fun i hi => hos i (pp.mem_iff.mpr (.tail _ hi))))
      · unfold IntsOf; rw [List.map_append]; exact ksk_snoc hI
      · rw [List.append_assoc]
        exact (List.Perm.append_left done pp.symm).trans hperm
      · rw [List.pairwise_append]
        refine ⟨hsd, List.pairwise_singleton _ _, fun a ha b hb => ?_⟩
        rw [List.mem_singleton.mp hb]
        exact hsl a ha y (.head _)
      · intro x hx z hz
        have hz' : z ∈ y :: r := pp.mem_iff.mpr (.tail _ hz)
        rcases List.mem_append.mp hx with hx | hx
        · exact hsl x hx z hz'
        · rw [List.mem_singleton.mp hx]
          refine oE (List.getElem_of_mem hz') fun i q21289z1 => ?_; obtain ⟨hi, e⟩ := q21289z1
          exact heap_root swo hheap rfl i z (by rw [List.getElem?_eq_getElem hi, e])
  · exact (fun _ zz => zz l ([]) ([]) nh 0 h' tk' m F2 N2 l1 l2 rfl IntsAre.nil (by simpa using hperm) hheap .nil (fun x hx => nomatch hx) hE hos)
end
end
-- part SortP
section
open PySem.W PyProof.Rows
set_option maxRecDepth 100000
set_option maxHeartbeats 4000000
noncomputable def kw {α : Type} (lt : Nat → Nat → Bool) (n : Nat) : KasT α → (α → Prop) → Prop
  | .ret a, Q => Q a
  | .ask i j k, Q => i < n ∧ j < n ∧ kw lt n (k (lt i j)) Q
theorem kw_bind {α β : Type} {lt : Nat → Nat → Bool} {n : Nat} {f : α → KasT β} {Q : β → Prop} : ∀ {t : KasT α}, kw lt n t (fun a => kw lt n (f a) Q) → kw lt n (t.bind f) Q
  | .ret _, h => h
  | .ask i j k, h => ⟨h.1, h.2.1, kw_bind h.2.2⟩
theorem kw_mono {α : Type} {lt : Nat → Nat → Bool} {n : Nat} {Q Q' : α → Prop} (hq : ∀ a, Q a → Q' a) : ∀ {t : KasT α}, kw lt n t Q → kw lt n t Q'
  | .ret _, h => hq _ h
  | .ask i j k, h => ⟨h.1, h.2.1, kw_mono hq h.2.2⟩
theorem kw_wp {α : Type} {cmp : Nat → Nat → (Bool → PySem.Shared → Prop) → PySem.Shared → Prop} {lt : Nat → Nat → Bool} {n : Nat} {s : PySem.Shared} {G : α → PySem.Shared → Prop}
    (hc : ∀ i j C, i < n → j < n → C (lt i j) s → cmp i j C s) : ∀ {t : KasT α}, kw lt n t (fun a => G a s) → t.kasWp cmp G s
  | .ret _, h => h
  | .ask i j k, h => hc i j _ h.1 h.2.1 (kw_wp hc h.2.2)
noncomputable abbrev gd (p : Array Nat) (k : Nat) : Nat := p.getD k 0
theorem gd_eq (p : Array Nat) (k : Nat) : gd p k = p[k]?.getD 0 := by simp [gd, Array.getD_eq_getD_getElem?]
theorem gd_rev {p : Array Nat} {i j : Nat} (hj : j ≤ p.size) (k : Nat) : gd (kas_rev p i j) k = if i ≤ k ∧ k < j then gd p (i + j - 1 - k) else gd p k := by
  rw [gd_eq, gd_eq, gd_eq]; unfold kas_rev; rw [getElem?_mirror_all hj]; split <;> rfl
theorem gd_bubble {p : Array Nat} {src d : Nat} (hs : src < p.size) (hd : d ≤ src) (k : Nat) : gd (bubble p src d) k = if k = src - d then gd p src else if src - d < k ∧ k ≤ src then gd p (k - 1) else gd p k := by
  rw [gd_eq, gd_eq, gd_eq, gd_eq, getElem?_bubble hs d hd]; split; rfl; split <;> rfl
noncomputable def slt (lt : Nat → Nat → Bool) (a b : Nat) : Prop := lt a b = true ∨ (lt b a = false ∧ a < b)
section
variable {lt : Nat → Nat → Bool} (ho : SWO lt)
include ho
theorem slt_nlt {a b : Nat} (h : slt lt a b) : lt b a = false := by
  rcases h with h | h
  · exact ho.asymm _ _ h
  · exact h.1
theorem lt_of_lt_le {a b c : Nat} (h1 : lt a b = true) (h2 : lt c b = false) : lt a c = true := by
  cases q : lt a c with
  | true => rfl
  | false => have := ho.le_trans h2 q; rw [h1] at this; cases this
theorem lt_of_le_lt {a b c : Nat} (h1 : lt b a = false) (h2 : lt b c = true) : lt a c = true := by
  cases q : lt a c with
  | true => rfl
  | false => have := ho.le_trans q h1; rw [h2] at this; cases this
theorem slt_trans {a b c : Nat} (h1 : slt lt a b) (h2 : slt lt b c) : slt lt a c := by
  rcases h1 with h1 | ⟨h1, h1'⟩
  · exact .inl (lt_of_lt_le ho h1 (slt_nlt ho h2))
  · rcases h2 with h2 | ⟨h2, h2'⟩
    · exact .inl (lt_of_le_lt ho h1 h2)
    · exact .inr ⟨ho.le_trans h1 h2, Nat.lt_trans h1' h2'⟩
end
structure Pre (lt : Nat → Nat → Bool) (n m : Nat) (p : Array Nat) : Prop where
  size : p.size = n
  perm : p.toList.Perm (List.range n)
  tail : ∀ k, m ≤ k → k < n → gd p k = k
  low : ∀ k, k < m → gd p k < m
  sorted : ∀ i j, i < j → j < m → slt lt (gd p i) (gd p j)
theorem gd_lt {p : Array Nat} {n : Nat} (hs : p.size = n) (h : p.toList.Perm (List.range n)) {k : Nat} (hk : k < n) : gd p k < n := by
  have hk' : k < p.size := by lia
  have : gd p k = p[k] := by simp [gd, hk']
  rw [this]
  exact List.mem_range.mp (h.mem_iff.mp (Array.getElem_mem_toList hk'))
section
variable {lt : Nat → Nat → Bool} {n : Nat} (ho : SWO lt)
include ho
theorem asc_ok {p : Array Nat} : ∀ (f m : Nat), 1 ≤ m → m + f = n → Pre lt n m p → kw lt n (kas_asc p f m) (fun m' => m ≤ m' ∧ m' ≤ n ∧ Pre lt n m' p ∧ (m' < n → lt m' (gd p (m' - 1)) = true))
  | 0, m, h1, hf, hp => ⟨Nat.le_refl _, by lia, hp, fun h => absurd h (by lia)⟩
  | f + 1, m, h1, hf, hp => by
    unfold kas_asc
    have hm : gd p m = m := hp.tail m (Nat.le_refl _) (by lia)
    refine ⟨gd_lt hp.size hp.perm (by lia), gd_lt hp.size hp.perm (by lia), ?_⟩
    show kw lt n (if lt (gd p m) (gd p (m - 1)) = true then .ret m else kas_asc p f (m + 1)) _
    rw [hm]
    split
    · rename_i q
      exact ⟨Nat.le_refl _, by lia, hp, fun _ => q⟩
    · rename_i q
      have q' : lt m (gd p (m - 1)) = false := by simpa using q
      have hl := hp.low (m - 1) (by lia)
      have hs : slt lt (gd p (m - 1)) m := .inr ⟨q', hl⟩
      refine kw_mono (fun m' h => ⟨by lia, h.2⟩) (asc_ok f (m + 1) (by lia) (by lia) ⟨hp.size, hp.perm, fun k h1 h2 => hp.tail k (by lia) h2, fun k hk => ?_, fun i j hij hj => ?_⟩)
      · rcases Nat.lt_or_eq_of_le (Nat.lt_succ_iff.mp hk) with h | h
        · exact Nat.lt_succ_of_lt (hp.low k h)
        · rw [h, hm]; exact Nat.lt_succ_self _
      · rcases Nat.lt_or_eq_of_le (Nat.lt_succ_iff.mp hj) with h | h
        · exact hp.sorted i j hij h
        · rw [h, hm]
          rcases Nat.lt_or_eq_of_le (show i ≤ m - 1 by lia) with g | g
          · exact slt_trans ho (hp.sorted i (m - 1) g (by lia)) hs
          · rw [g]; exact hs
theorem place_ok {p : Array Nat} {k : Nat} (hp : Pre lt n k p) (hk : k < n) : ∀ (f l r : Nat), r ≤ l + f → l ≤ r → r ≤ k → (∀ i, i < l → lt (gd p k) (gd p i) = false) → (∀ i, r ≤ i → i < k → lt (gd p k) (gd p i) = true) →
    kw lt n (kas_place p k f l r) (fun l' => l' ≤ k ∧ (∀ i, i < l' → lt (gd p k) (gd p i) = false) ∧ (∀ i, l' ≤ i → i < k → lt (gd p k) (gd p i) = true))
  | 0, l, r, hf, hlr, hrk, h1, h2 => by
    have : l = r := by lia
    subst this
    exact ⟨hrk, h1, h2⟩
  | f + 1, l, r, hf, hlr, hrk, h1, h2 => by
    unfold kas_place
    split
    · have : l = r := by lia
      subst this
      exact ⟨hrk, h1, h2⟩
    · refine ⟨gd_lt hp.size hp.perm hk, gd_lt hp.size hp.perm (by lia), ?_⟩
      show kw lt n (if lt (gd p k) (gd p ((l + r) / 2)) = true then kas_place p k f l ((l + r) / 2) else kas_place p k f ((l + r) / 2 + 1) r) _
      split
      · rename_i q
        refine place_ok hp hk f l _ (by lia) (by lia) (by lia) h1 fun i hi hik => ?_
        rcases Nat.lt_or_eq_of_le hi with h | h
        · exact lt_of_lt_le ho q (slt_nlt ho (hp.sorted _ i h hik))
        · rw [← h]; exact q
      · rename_i q
        have q' : lt (gd p k) (gd p ((l + r) / 2)) = false := by simpa using q
        refine place_ok hp hk f _ r (by lia) (by lia) hrk (fun i hi => ?_) h2
        rcases Nat.lt_or_eq_of_le (Nat.lt_succ_iff.mp hi) with h | h
        · exact ho.le_trans (slt_nlt ho (hp.sorted i _ h (by lia))) q'
        · rw [h]; exact q'
theorem bin_ok : ∀ (f k : Nat) (p : Array Nat), k + f = n → Pre lt n k p → kw lt n (kas_bin f p k) (fun p' => Pre lt n n p')
  | 0, k, p, hf, hp => by
    have : k = n := by lia
    subst this; exact hp
  | f + 1, k, p, hf, hp => by
    unfold kas_bin
    have hk : k < n := by lia
    refine kw_bind (kw_mono (fun l hl => ?_) (place_ok ho hp hk k 0 k (by lia) (by lia) (Nat.le_refl _) (fun i hi => absurd hi (Nat.not_lt_zero _)) (fun i h1 h2 => absurd h2 (by lia))))
    refine oAA hl fun hlk h1 h2 => ?_; (try clear hl)
    have hm : gd p k = k := hp.tail k (Nat.le_refl _) hk
    have hb := gd_bubble (p := p) (src := k) (d := k - l) (by rw [hp.size]; exact hk) (by lia)
    have e : k - (k - l) = l := by lia
    rw [e] at hb
    refine bin_ok f (k + 1) _ (by lia) ⟨(bubble_size ..).trans hp.size, (Array.perm_iff_toList_perm.mp (bubble_perm ..)).trans hp.perm, fun i a1 a2 => ?_, fun i hi => ?_, fun i j hij hj => ?_⟩
    · rw [hb, if_neg (by lia), if_neg (by lia)]; exact hp.tail i (by lia) a2
    · rw [hb]
      split
      · rw [hm]; lia
      · split
        · have := hp.low (i - 1) (by lia); lia
        · have := hp.low i (by lia); lia
    · rw [hm] at h1 h2
      rw [hb, hb, hm]
      have sA : ∀ a, a < l → slt lt (gd p a) k := fun a ha => .inr ⟨h1 a ha, hp.low a (by lia)⟩
      have sB : ∀ a, l ≤ a → a < k → slt lt k (gd p a) := fun a ha hak => .inl (h2 a ha hak)
      by_cases c1 : i = l
      · rw [if_pos c1, if_neg (by lia), if_pos (by lia)]; exact sB _ (by lia) (by lia)
      · rw [if_neg c1]
        by_cases c2 : j = l
        · rw [if_pos c2, if_neg (by lia)]; exact sA _ (by lia)
        · rw [if_neg c2]
          split <;> split
          · exact hp.sorted _ _ (by lia) (by lia)
          · lia
          · exact hp.sorted _ _ (by lia) (by lia)
          · exact hp.sorted _ _ (by lia) (by lia)
structure Dn (lt : Nat → Nat → Bool) (n m q : Nat) (p : Array Nat) : Prop where
  size : p.size = n
  perm : p.toList.Perm (List.range n)
  tail : ∀ k, m ≤ k → k < n → gd p k = k
  low : ∀ k, k < m → gd p k < m
  run : q + 1 ≤ m
  sep : ∀ i j, i < m - (q + 1) → m - (q + 1) ≤ j → j < m → lt (gd p j) (gd p i) = true
  desc : ∀ i j, i < j → j < m - (q + 1) → slt lt (gd p j) (gd p i)
  like : ∀ i j, m - (q + 1) ≤ i → i < j → j < m → gd p i < gd p j ∧ lt (gd p i) (gd p j) = false ∧ lt (gd p j) (gd p i) = false
structure Fall (lt : Nat → Nat → Bool) (n m : Nat) (p : Array Nat) : Prop where
  size : p.size = n
  perm : p.toList.Perm (List.range n)
  tail : ∀ k, m ≤ k → k < n → gd p k = k
  low : ∀ k, k < m → gd p k < m
  desc : ∀ i j, i < j → j < m → slt lt (gd p j) (gd p i)
omit ho in
theorem rev_perm {p : Array Nat} (h : p.toList.Perm (List.range n)) (i j : Nat) : (kas_rev p i j).toList.Perm (List.range n) :=
  (Array.perm_iff_toList_perm.mp (mirror_perm ..)).trans h
omit ho in
theorem rev_one {p : Array Nat} {m : Nat} (hm : m ≤ p.size) (k : Nat) : gd (kas_rev p (m - 1) m) k = gd p k := by
  rw [gd_rev hm]; split
  · congr 1; lia
  · rfl
theorem Dn.fall {m q : Nat} {p X : Array Nat} (h : Dn lt n m q p) (hm : m ≤ n) (hX : ∀ k, gd X k = gd (kas_rev p (m - (q + 1)) m) k) (hs : X.size = n) (hpm : X.toList.Perm (List.range n)) : Fall lt n m X := by
  have hr := h.run
  have hg : ∀ k, gd X k = if m - (q + 1) ≤ k ∧ k < m then gd p (m - (q + 1) + m - 1 - k) else gd p k := fun k => by rw [hX, gd_rev (by rw [h.size]; exact hm)]
  refine ⟨hs, hpm, fun k a b => ?_, fun k a => ?_, fun i j hij hj => ?_⟩
  · rw [hg, if_neg (by lia)]; exact h.tail k a b
  · rw [hg]; split
    · exact h.low _ (by lia)
    · exact h.low _ a
  · rw [hg, hg]
    by_cases c1 : m - (q + 1) ≤ i
    · rw [if_pos (by lia), if_pos (by lia)]
      have := h.like (m - (q + 1) + m - 1 - j) (m - (q + 1) + m - 1 - i) (by lia) (by lia) (by lia)
      exact .inr ⟨this.2.2, this.1⟩
    · rw [if_neg (c := m - (q + 1) ≤ i ∧ i < m) (by lia)]
      by_cases c2 : m - (q + 1) ≤ j
      · rw [if_pos (by lia)]
        exact .inl (h.sep _ _ (by lia) (by lia) (by lia))
      · rw [if_neg (by lia)]
        exact h.desc i j hij (by lia)
theorem Fall.next {m : Nat} {X : Array Nat} (h : Fall lt n m X) (hm : m < n) (hl : ∀ i, i < m → lt m (gd X i) = true) : Dn lt n (m + 1) 0 X := by
  have em : gd X m = m := h.tail m (Nat.le_refl _) hm
  refine ⟨h.size, h.perm, fun k a b => h.tail k (by lia) b, fun k a => ?_, by lia, fun i j a b c => ?_, fun i j a b => h.desc i j a (by lia), fun i j a b c => by lia⟩
  · rcases Nat.lt_or_eq_of_le (Nat.lt_succ_iff.mp a) with g | g
    · exact Nat.lt_succ_of_lt (h.low k g)
    · rw [g, em]; lia
  · have : j = m := by lia
    rw [this, em]; exact hl i (by lia)
theorem Fall.rise {m : Nat} {X : Array Nat} (h : Fall lt n m X) (hm : m ≤ n) : Pre lt n m (kas_rev X 0 m) := by
  have hg : ∀ k, gd (kas_rev X 0 m) k = if 0 ≤ k ∧ k < m then gd X (0 + m - 1 - k) else gd X k := gd_rev (by rw [h.size]; exact hm)
  refine ⟨(kas_rev_size ..).trans h.size, rev_perm h.perm _ _, fun k a b => ?_, fun k a => ?_, fun i j hij hj => ?_⟩
  · rw [hg, if_neg (by lia)]; exact h.tail k a b
  · rw [hg, if_pos (by lia)]; exact h.low _ (by lia)
  · rw [hg, hg, if_pos (by lia), if_pos (by lia)]; exact h.desc _ _ (by lia) (by lia)
theorem Dn.below {m q : Nat} {p : Array Nat} (h : Dn lt n m q p) {x : Nat} (hx : lt x (gd p (m - 1)) = true) : ∀ i, i < m → lt x (gd p i) = true := by
  have hr := h.run
  intro i hi
  refine lt_of_lt_le ho hx ?_
  by_cases c : i < m - (q + 1)
  · exact ho.asymm _ _ (h.sep i (m - 1) c (by lia) (by lia))
  · rcases Nat.lt_or_eq_of_le (show i ≤ m - 1 by lia) with g | g
    · exact (h.like i (m - 1) (by lia) g (by lia)).2.1
    · rw [g]; exact ho.irr _
theorem desc_ok : ∀ (f : Nat) (p : Array Nat) (m q : Nat), m + f = n → Dn lt n m q p → kw lt n (kas_desc f p m q) (fun r => r.2.1 ≤ n ∧ m ≤ r.2.1 ∧ Dn lt n r.2.1 r.2.2 r.1)
  | 0, p, m, q, hf, h => ⟨show m ≤ n by lia, Nat.le_refl _, h⟩
  | f + 1, p, m, q, hf, h => by
    unfold kas_desc
    have hr := h.run
    have em : gd p m = m := h.tail m (Nat.le_refl _) (by lia)
    have hsz : m ≤ p.size := by rw [h.size]; lia
    refine ⟨gd_lt h.size h.perm (by lia), gd_lt h.size h.perm (by lia), ?_⟩
    show kw lt n (if lt (gd p m) (gd p (m - 1)) = true then (if q > 0 then kas_desc f (kas_rev p (m - (q + 1)) m) (m + 1) 0 else kas_desc f p (m + 1) 0)
      else .ask (p.getD (m - 1) 0) (p.getD m 0) fun d => if d = true then .ret (p, m, q) else kas_desc f p (m + 1) (q + 1)) _
    rw [em]
    split
    · rename_i c
      have hb := h.below ho c
      have all : ∀ X : Array Nat, (∀ k, gd X k = gd (kas_rev p (m - (q + 1)) m) k) → X.size = n → X.toList.Perm (List.range n) → Dn lt n (m + 1) 0 X := fun X hX a b => by
        refine (h.fall ho (by lia) hX a b).next ho (by lia) fun i hi => ?_
        rw [hX, gd_rev hsz]
        split
        · exact hb _ (by lia)
        · exact hb _ hi
      split
      · exact kw_mono (fun r hr => ⟨hr.1, by lia, hr.2.2⟩) (desc_ok f _ (m + 1) 0 (by lia) (all _ (fun _ => rfl) ((kas_rev_size ..).trans h.size) (rev_perm h.perm _ _)))
      · have q0 : q = 0 := by lia
        subst q0
        exact kw_mono (fun r hr => ⟨hr.1, by lia, hr.2.2⟩) (desc_ok f _ (m + 1) 0 (by lia) (all p (fun k => (rev_one hsz k).symm) h.size h.perm))
    · rename_i c
      have c' : lt m (gd p (m - 1)) = false := by simpa using c
      refine ⟨gd_lt h.size h.perm (by lia), gd_lt h.size h.perm (by lia), ?_⟩
      show kw lt n (if lt (gd p (m - 1)) (gd p m) = true then .ret (p, m, q) else kas_desc f p (m + 1) (q + 1)) _
      rw [em]
      split
      · exact ⟨show m ≤ n by lia, Nat.le_refl _, h⟩
      · rename_i d
        have d' : lt (gd p (m - 1)) m = false := by simpa using d
        have eqs : ∀ i, m - (q + 1) ≤ i → i < m → lt (gd p i) m = false ∧ lt m (gd p i) = false := fun i a b => by
          rcases Nat.lt_or_eq_of_le (show i ≤ m - 1 by lia) with g | g
          · have := h.like i (m - 1) a g (by lia)
            exact ⟨ho.le_trans d' this.2.1, ho.le_trans this.2.2 c'⟩
          · rw [g]; exact ⟨d', c'⟩
        have e1 : m + 1 - (q + 1 + 1) = m - (q + 1) := by lia
        refine kw_mono (fun r hr => ⟨hr.1, by lia, hr.2.2⟩) (desc_ok f p (m + 1) (q + 1) (by lia) ⟨h.size, h.perm, fun k a b => h.tail k (by lia) b, fun k a => ?_, by lia, fun i j a b c => ?_, fun i j a b => h.desc i j a (by lia), fun i j a b c => ?_⟩)
        · rcases Nat.lt_or_eq_of_le (Nat.lt_succ_iff.mp a) with g | g
          · exact Nat.lt_succ_of_lt (h.low k g)
          · rw [g, em]; lia
        · rw [e1] at a b
          rcases Nat.lt_or_eq_of_le (Nat.lt_succ_iff.mp c) with g | g
          · exact h.sep i j a b g
          · rw [g, em]
            exact lt_of_le_lt ho (d') (h.sep i (m - 1) a (by lia) (by lia))
        · rw [e1] at a
          rcases Nat.lt_or_eq_of_le (Nat.lt_succ_iff.mp c) with g | g
          · exact h.like i j a b g
          · rw [g, em]
            rw [g] at b
            exact ⟨h.low i b, eqs i a b⟩
theorem tail3_ok {m : Nat} {X : Array Nat} (h : Fall lt n m X) (h1 : 1 ≤ m) (hm : m ≤ n) : kw lt n (kas_tail3 m n X) (fun r => r.1 ≤ n ∧ 1 ≤ r.1 ∧ Pre lt n r.1 r.2) := by
  unfold kas_tail3
  exact kw_bind (kw_mono (fun m' h' => ⟨h'.2.1, by lia, h'.2.2.1⟩) (asc_ok ho (n - m) m h1 (by lia) (h.rise ho hm)))
theorem descPart_ok {m : Nat} {X : Array Nat} (h : Dn lt n (m + 1) 0 X) (hm : m + 1 ≤ n) : kw lt n (kas_descPart m n X) (fun r => r.1 ≤ n ∧ 1 ≤ r.1 ∧ Pre lt n r.1 r.2) := by
  unfold kas_descPart
  refine kw_bind (kw_mono (fun r hr => ?_) (desc_ok ho (n - (m + 1)) X (m + 1) 0 (by lia) h))
  refine oAA hr fun a b c => ?_; (try clear hr)
  split
  · exact tail3_ok ho (c.fall ho a (fun _ => rfl) ((kas_rev_size ..).trans c.size) (rev_perm c.perm _ _)) (by lia) a
  · have q0 : r.2.2 = 0 := by lia
    rw [q0] at c
    exact tail3_ok ho (c.fall ho a (fun k => (rev_one (by rw [c.size]; exact a) k).symm) c.size c.perm) (by lia) a
theorem kas_sort_ok (hn : 1 ≤ n) : kw lt n (kas_sort n) (fun p => Pre lt n n p) := by
  have g0 : ∀ k, k < n → gd (List.toArray (List.range n)) k = k := fun k hk => by simp [gd, hk]
  have h0 : Pre lt n 1 (List.toArray (List.range n)) := ⟨by simp, .refl _, fun k _ hk => g0 k hk, fun k hk => by rw [g0 k (by lia)]; exact hk, fun i j a b => by lia⟩
  unfold kas_sort
  refine kw_bind (kw_mono (Q := fun r => r.1 ≤ n ∧ 1 ≤ r.1 ∧ Pre lt n r.1 r.2) (fun r hr => ?_) ?_)
  · refine oAA hr fun a b c => ?_; (try clear hr)
    have e : max r.1 1 = r.1 := by lia
    rw [e]
    split
    · exact bin_ok ho _ _ _ (by lia) c
    · have : r.1 = n := by lia
      rw [this] at c; exact c
  · unfold kas_count
    refine kw_bind (kw_mono (fun m hm => ?_) (asc_ok ho (n - 1) 1 (Nat.le_refl _) (by lia) h0))
    refine oAAA hm fun m1 mn hp hl => ?_; (try clear hm)
    split
    · exact ⟨mn, m1, hp⟩
    · rename_i hne
      have hmn : m < n := by
        have : m ≠ n := by simpa using hne
        lia
      have hlt := hl hmn
      split
      · refine ⟨gd_lt hp.size hp.perm (by lia), gd_lt hp.size hp.perm (by lia), ?_⟩
        show kw lt n (if lt (gd _ 0) (gd _ (m - 1)) = true then .ret (m, _) else kas_descPart m n (kas_rev _ 0 m)) _
        split
        · exact ⟨mn, m1, hp⟩
        · rename_i c
          have c' : lt (gd (List.toArray (List.range n)) 0) (gd (List.toArray (List.range n)) (m - 1)) = false := by simpa using c
          generalize List.toArray (List.range n) = p at *
          have hg : ∀ k, gd (kas_rev p 0 m) k = if 0 ≤ k ∧ k < m then gd p (0 + m - 1 - k) else gd p k := gd_rev (by rw [hp.size]; exact mn)
          have hF : Fall lt n m (kas_rev p 0 m) := by
            refine ⟨(kas_rev_size ..).trans hp.size, rev_perm hp.perm _ _, fun k a b => ?_, fun k a => ?_, fun i j hij hj => ?_⟩
            · rw [hg, if_neg (by lia)]; exact hp.tail k a b
            · rw [hg, if_pos (by lia)]; exact hp.low _ (by lia)
            · rw [hg, hg, if_pos (by lia), if_pos (by lia)]; exact hp.sorted _ _ (by lia) (by lia)
          refine descPart_ok ho (hF.next ho hmn fun i hi => ?_) (by lia)
          rw [hg, if_pos (by lia)]
          refine lt_of_lt_le ho hlt ?_
          have key : ∀ k, k < m → lt (gd p k) (gd p (m - 1)) = false := fun k hk => by
            rcases Nat.eq_zero_or_pos k with e | e
            · rw [e]; exact c'
            · have h1 := slt_nlt ho (hp.sorted 0 k e hk)
              cases w : lt (gd p k) (gd p (m - 1)) with
              | false => rfl
              | true => have := lt_of_le_lt ho h1 w; rw [c'] at this; cases this
          exact key _ (by lia)
      · have e : m = 1 := by lia
        subst e
        generalize List.toArray (List.range n) = p at *
        have hF : Fall lt n 1 p := ⟨hp.size, hp.perm, hp.tail, hp.low, fun i j a b => by lia⟩
        refine descPart_ok ho (hF.next ho hmn fun i hi => ?_) (by lia)
        have : i = 0 := by lia
        rw [this]; exact hlt
end
end
-- part SortW
section
open PySem PySem.W PyProof.Rows PySem.Calls
set_option maxRecDepth 100000
set_option maxHeartbeats 4000000
noncomputable def dirLt (b : Bool) (lt : Nat → Nat → Bool) : Nat → Nat → Bool := fun i j => if b then lt j i else lt i j
theorem dirLt_swo {b : Bool} {lt : Nat → Nat → Bool} (h : SWO lt) : SWO (dirLt b lt) := by
  cases b with
  | false => exact h
  | true => exact h.flip
noncomputable def sortTree (a : Addr) (b : Bool) : Sem PySem.Fin := do
    let items ← Builtin.List.listItems (.ref a)
    Builtin.List.listUpdate (.ref a) fun _ => #[]
    let before ← seqEpoch a
    let held ← newTuple items.toList
    let keyStore ← newList []
    holding [held, keyStore] do
      if b then rule "list.sort.reverse"
      let kind ← if items.size < 2 then pure general' else keyKind' items
      let ((), s) ← (if items.size < 2 then pure () else sortRuns').run (SortSt.mk' kind (if b then (items.zip items).reverse else items.zip items) #[] 7 none)
      let sorted := (arrOf s).map (·.2)
      let touched := (← seqEpoch a) != before
      Builtin.List.listUpdate (.ref a) fun _ => if b then sorted.reverse else sorted
      if let some e := failedOf s then rule "list.sort.comparison-raised"; throw e
      if touched then rule "list.sort.modified"; raiseError "ValueError" "list modified during sort"
      ret .none
theorem sort_nil (a : Addr) : Builtin.«list.sort» ⟨[.ref a], []⟩ = sortTree a false := rfl
theorem sort_rev (a : Addr) (b : Bool) : Builtin.«list.sort» ⟨[.ref a], [(Str.ofString "reverse", .bool b)]⟩ = sortTree a b := list_sort_rev a b
noncomputable def outOf (b : Bool) (n : Nat) (p : Array Nat) : List Nat := if b then (p.toList.map fun i => n - 1 - i).reverse else p.toList
theorem outOf_perm {b : Bool} {n : Nat} {p : Array Nat} (h : p.toList.Perm (List.range n)) : (outOf b n p).Perm (List.range n) := by
  unfold outOf
  split
  · refine (List.reverse_perm _).trans ((h.map _).trans ?_)
    have : (List.range n).map (fun i => n - 1 - i) = (List.range n).reverse := by
      apply List.ext_getElem
      · simp
      · intro i h1 h2
        simp
    rw [this]
    exact List.reverse_perm _
  · exact h
theorem pre_pairwise {lt : Nat → Nat → Bool} {n : Nat} {p : Array Nat} (h : Pre lt n n p) : p.toList.Pairwise (slt lt) := by
  rw [List.pairwise_iff_getElem]
  intro i j hi hj hij
  have hj' : j < n := by have := h.size; simp at hj; lia
  have hi' : i < p.size := by simpa using hi
  have hj2 : j < p.size := by simpa using hj
  have := h.sorted i j hij hj'
  simpa [gd, hi', hj2] using this
theorem outOf_pairwise {b : Bool} {lt : Nat → Nat → Bool} {n : Nat} {p : Array Nat} (h : Pre (fun i j => if b then lt (n - 1 - i) (n - 1 - j) else lt i j) n n p) : (outOf b n p).Pairwise (slt (dirLt b lt)) := by
  have hp := pre_pairwise h
  have hm : ∀ x ∈ p.toList, x < n := fun x hx => List.mem_range.mp (h.perm.mem_iff.mp hx)
  unfold outOf
  cases b with
  | false => exact hp
  | true =>
    simp only [if_true]
    rw [List.pairwise_reverse, List.pairwise_map]
    refine (List.pairwise_iff_forall_sublist.mpr fun {x y} hs => ?_)
    have hx : x < n := hm x (hs.subset (by simp))
    have hy : y < n := hm y (hs.subset (by simp))
    have := List.pairwise_iff_forall_sublist.mp hp hs
    rcases this with q | ⟨q, q2⟩
    · left; exact q
    · right; exact ⟨q, by lia⟩
theorem katRev_get {n : Nat} (b : Bool) (vs : List Value) (hn : vs.length = n) {i : Nat} (hi : i < n) : (katRev b vs).getD i Value.none = vs.getD (if b then n - 1 - i else i) Value.none := by
  subst hn
  cases b with
  | false => rfl
  | true =>
    simp only [katRev, if_true, List.getD_eq_getElem?_getD]
    rw [List.getElem?_reverse hi]
theorem outOf_vals {b : Bool} {n : Nat} {p : Array Nat} (vs : List Value) (hn : vs.length = n) (h : p.toList.Perm (List.range n)) : katRev b (p.toList.map fun i => (katRev b vs).getD i Value.none) = (outOf b n p).map fun i => vs.getD i Value.none := by
  have hm : ∀ x ∈ p.toList, x < n := fun x hx => List.mem_range.mp (h.mem_iff.mp hx)
  unfold outOf
  cases b with
  | false => rfl
  | true =>
    simp only [katRev, if_true, List.map_reverse, List.map_map]
    congr 1
    refine List.map_congr_left fun i hi => ?_
    have := katRev_get true vs hn (hm i hi)
    simp only [katRev, if_true] at this
    rw [this]; rfl
section
variable {prog : Program} {w : World} {A : Around} {E : Value → Shared → Prop} {s : Shared}
theorem sort_heap {a : Addr} {vs : List Value} {n : Nat} {b : Bool} {lt : Nat → Nat → Bool} {κ : SortKind} {P : PySem.Fin → Shared → Prop} (swo : SWO lt) (ho : s.heap.get? a = some (seqObj "list" vs.toArray n)) (h2 : 2 ≤ vs.length) (h64 : vs.length < 64)
    (hk : ∀ h' (Q : SortKind → Shared → Prop), Keep [a] s.heap h' → Q κ { s with heap := h' } → wpAny (model prog w) A (keyKind' vs.toArray) Q (fun _ _ => False) { s with heap := h' })
    (hc : ∀ h' (Q : Bool → Shared → Prop) i j, Keep [a] s.heap h' → i < vs.length → j < vs.length → Q (lt i j) { s with heap := h' } → wpAny (model prog w) A (keyLt' κ (vs.getD i .none) (vs.getD j .none)) Q (fun _ _ => False) { s with heap := h' })
    (hq : ∀ (h' : Heap) (c : Nat) (l : List Nat), Keep [a] s.heap h' → h'.get? a = some (listOf (l.map fun i => vs.getD i Value.none).toArray c) → l.Perm (List.range vs.length) → l.Pairwise (slt (dirLt b lt)) → P (.done (.ret .none)) { s with heap := h' }) :
    wpAny (model prog w) A (sortTree a b) P E s := by
  have ha : a < s.heap.objs.size := Heap.lt_size ho
  have s1 := Heap.SameBut.update s.heap a (Obj.mapSeq fun _ => (#[] : Array Value))
  refine oE (⟨_, get?_update_seq ho fun _ => #[]⟩ : ∃ e1, (s.heap.update a (Obj.mapSeq fun _ => (#[] : Array Value))).get? a = some (seqObj "list" #[] e1)) fun e1 ho1 => ?_
  have K3 : Keep [a] s.heap (((s.heap.update a (Obj.mapSeq fun _ => (#[] : Array Value))).push (seqObj "tuple" vs.toArray 0)).push (seqObj "list" #[] 0)) := fun x o hx e => Heap.get?_push_of_some _ (Heap.get?_push_of_some _ (Keep.ofSame s1 x o hx e))
  have na : (((s.heap.update a (Obj.mapSeq fun _ => (#[] : Array Value))).push (seqObj "tuple" vs.toArray 0)).push (seqObj "list" #[] 0)).get? a = some (seqObj "list" #[] e1) := Heap.get?_push_of_some _ (Heap.get?_push_of_some _ ho1)
  unfold sortTree
  refine wpAny_bind (listItems_at ho rfl ?_)
  refine wpAny_bind (listUpdate_at ho rfl ?_ (by rw [List.size_toArray, sizeLine_eq]; lia) (Nat.zero_le _))
  refine wpAny_bind (seqEpoch_at ho1 rfl ?_)
  refine wpAny_bind (wpAny_newTuple ?_ (by show vs.length ≤ _; rw [sizeLine_eq]; lia))
  refine wpAny_bind (wpAny_newList ?_ (Nat.zero_le _))
  refine wpAny_holding ?_
  show wpAny (model prog w) A _ P E { s with heap := ((s.heap.update a (Obj.mapSeq fun _ => (#[] : Array Value))).push (seqObj "tuple" vs.toArray 0)).push (seqObj "list" #[] 0) }
  generalize ((s.heap.update a (Obj.mapSeq fun _ => (#[] : Array Value))).push (seqObj "tuple" vs.toArray 0)).push (seqObj "list" #[] 0) = h3 at *
  dsimp only
  have step : ∀ t : Sem PySem.Fin, wpAny (model prog w) A t P E { s with heap := h3 } → wpAny (model prog w) A (if b = true then (do let _ ← rule "list.sort.reverse"; t) else t) P E { s with heap := h3 } := by
    intro t ht
    split
    · exact wpAny_bind (wpAny_rule ht)
    · exact ht
  have hn2 : ¬ vs.toArray.size < 2 := by rw [List.size_toArray]; lia
  refine step _ ?_
  rw [if_neg hn2, if_neg hn2]
  refine wpAny_bind (wpAny_mono (hk h3 (fun κ' s' => κ' = κ ∧ s' = { s with heap := h3 }) K3 ⟨rfl, rfl⟩) (fun κ' s0 hk' => ?_) fun _ _ x => x.elim)
  refine oA hk' fun q7661z0 q7661z1 => ?_; (try clear hk'); obtain rfl := q7661z0; obtain rfl := q7661z1
  rw [kat_pairs b rfl]
  have hord : SWO (fun i j => if b then lt (vs.length - 1 - i) (vs.length - 1 - j) else lt i j) := by
    cases b with
    | false => exact swo
    | true => exact ⟨fun i j h => swo.asymm _ _ h, fun i j k h => swo.neg _ _ _ h⟩
  have hsort : (kas_sort (katRev b vs).length).kasWp (kas_ask prog w A κ' (katRev b vs)) (fun p s'' => s'' = { s with heap := h3 } ∧ Pre (fun i j => if b then lt (vs.length - 1 - i) (vs.length - 1 - j) else lt i j) vs.length vs.length p) { s with heap := h3 } := by
    rw [kat_len]
    refine kw_wp (lt := fun i j => if b then lt (vs.length - 1 - i) (vs.length - 1 - j) else lt i j) (n := vs.length) (fun i j C hi hj hC => ?_) (kw_mono (fun p hp => ⟨rfl, hp⟩) (kas_sort_ok hord (by lia)))
    show wpAny (model prog w) A (keyLt' κ' ((katRev b vs).getD i Value.none) ((katRev b vs).getD j Value.none)) C (fun _ _ => False) _
    rw [katRev_get b vs rfl hi, katRev_get b vs rfl hj]
    refine hc h3 C _ _ K3 (by split <;> lia) (by split <;> lia) ?_
    cases b <;> exact hC
  refine wpAny_bind (wpAny_mono (kat_run (Q := fun st' s' => ∃ p : Array Nat, p.size = (katRev b vs).length ∧ arrOf st' = p.map (kas_item ((List.toArray (katRev b vs)).zip (List.toArray (katRev b vs)))) ∧ failedOf st' = none ∧ s' = { s with heap := h3 } ∧ Pre (fun i j => if b then lt (vs.length - 1 - i) (vs.length - 1 - j) else lt i j) vs.length vs.length p)
    rfl (by rw [kat_len]; exact h2) (by rw [kat_len]; exact h64) (fun p' st' s' a1 a2 a3 a4 => ⟨p', a1, a2, a3, a4⟩) hsort) ?_ fun _ _ e => e)
  rintro ⟨⟨⟩, st'⟩ s' ⟨p, hp, har, hf, rfl, hpre⟩
  dsimp only
  have hout := kat_snds rfl har
  rw [hout, kat_outs, outOf_vals vs rfl hpre.perm]
  have hl := outOf_perm (b := b) hpre.perm
  have hsz : (List.toArray ((outOf b vs.length p).map fun i => vs.getD i Value.none)).size = vs.length := by
    rw [List.size_toArray, List.length_map, hl.length_eq, List.length_range]
  have s2 := Heap.SameBut.update h3 a (Obj.mapSeq fun _ => List.toArray ((outOf b vs.length p).map fun i => vs.getD i Value.none))
  refine oE (⟨_, get?_update_seq na fun _ => List.toArray ((outOf b vs.length p).map fun i => vs.getD i Value.none)⟩ : ∃ c2, (h3.update a (Obj.mapSeq fun _ => List.toArray ((outOf b vs.length p).map fun i => vs.getD i Value.none))).get? a = some (seqObj "list" (List.toArray ((outOf b vs.length p).map fun i => vs.getD i Value.none)) c2)) fun c2 hc2 => ?_
  refine wpAny_bind (seqEpoch_at na rfl ?_)
  refine wpAny_bind (listUpdate_at na rfl ?_ (Nat.zero_le _) (Nat.le_trans (Nat.le_of_eq hsz) (by rw [sizeLine_eq]; lia)))
  rw [hf]
  simp only [bne_self_eq_false, Bool.false_eq_true, if_false]
  exact wpAny_pure (hq _ c2 _ (K3.trans (Keep.ofSame s2)) hc2 hl (outOf_pairwise hpre))
theorem call_sort {a : Addr} {vs : List Value} {n : Nat} {lt : Nat → Nat → Bool} {κ : SortKind} {Q : Value → Shared → Prop} (swo : SWO lt) (ho : s.heap.get? a = some (seqObj "list" vs.toArray n)) (h2 : 2 ≤ vs.length) (h64 : vs.length < 64)
    (hk : ∀ h' (Q : SortKind → Shared → Prop), Keep [a] s.heap h' → Q κ { s with heap := h' } → wpAny (model prog w) A.in1 (keyKind' vs.toArray) Q (fun _ _ => False) { s with heap := h' })
    (hc : ∀ h' (Q : Bool → Shared → Prop) i j, Keep [a] s.heap h' → i < vs.length → j < vs.length → Q (lt i j) { s with heap := h' } → wpAny (model prog w) A.in1 (keyLt' κ (vs.getD i .none) (vs.getD j .none)) Q (fun _ _ => False) { s with heap := h' })
    (hq : ∀ (h' : Heap) (c : Nat) (l : List Nat), Keep [a] s.heap h' → h'.get? a = some (listOf (l.map fun i => vs.getD i Value.none).toArray c) → l.Perm (List.range vs.length) → l.Pairwise (slt lt) → Q .none { s with heap := h' }) :
    wpAny (model prog w) A (call (.builtin "list.sort") [.ref a]) Q E s := by
  refine wpAny_call_entry slot_list_sort ⟨_, ho, rfl⟩ entry_list_sort ?_ (args_list_sort _)
  rw [sort_nil]
  exact sort_heap (b := false) swo ho h2 h64 hk hc fun h' c l a1 a2 a3 a4 => ⟨_, rfl, hq h' c l a1 a2 a3 a4⟩
theorem call_sort_rev {a : Addr} {vs : List Value} {n : Nat} {lt : Nat → Nat → Bool} {κ : SortKind} {Q : Value → Shared → Prop} (swo : SWO lt) (ho : s.heap.get? a = some (seqObj "list" vs.toArray n)) (h2 : 2 ≤ vs.length) (h64 : vs.length < 64)
    (hk : ∀ h' (Q : SortKind → Shared → Prop), Keep [a] s.heap h' → Q κ { s with heap := h' } → wpAny (model prog w) A.in1 (keyKind' vs.toArray) Q (fun _ _ => False) { s with heap := h' })
    (hc : ∀ h' (Q : Bool → Shared → Prop) i j, Keep [a] s.heap h' → i < vs.length → j < vs.length → Q (lt i j) { s with heap := h' } → wpAny (model prog w) A.in1 (keyLt' κ (vs.getD i .none) (vs.getD j .none)) Q (fun _ _ => False) { s with heap := h' })
    (hq : ∀ (h' : Heap) (c : Nat) (l : List Nat), Keep [a] s.heap h' → h'.get? a = some (listOf (l.map fun i => vs.getD i Value.none).toArray c) → l.Perm (List.range vs.length) → l.Pairwise (slt (dirLt true lt)) → Q .none { s with heap := h' }) :
    wpAny (model prog w) A (call (.builtin "list.sort") [.ref a] [(Str.ofString "reverse", .bool true)]) Q E s := by
  refine wpAny_call_entry_kw slot_list_sort ⟨_, ho, rfl⟩ entry_list_sort ?_ (args_list_sort_rev _ _)
  rw [sort_rev]
  exact sort_heap (b := true) swo ho h2 h64 hk hc fun h' c l a1 a2 a3 a4 => ⟨_, rfl, hq h' c l a1 a2 a3 a4⟩
end
end
-- part CmpG
section
open PySem PySem.W PyProof.Rows PySem.Calls PySem.SeqAt
open PySem.AutoSeq1 (wpAny_loadPart')
open PySem.MeetsSeq PySem.MeetsSeq2 PySem.MeetsSeq3
set_option maxRecDepth 100000
set_option maxHeartbeats 4000000
noncomputable def GtAt (A : Around) (s : Shared) (y x : Value) (b : Bool) : Prop :=
  ∀ (prog : Program) (w : World) (E : Value → Shared → Prop) (Q : Value → Shared → Prop), Q (.bool b) s → wpAny (model prog w) A (richCompare .Gt y x) Q E s
noncomputable def fgt (p q : UInt64) : Bool := Float64.cmp p q == some Ordering.gt
theorem GtAt.float {A : Around} {s : Shared} {p q : UInt64} {t u : Tok} : GtAt A s (.float p t) (.float q u) (fgt p q) := fun prog w E Q h =>
  show wpAny (model prog w) A (compareOp .Gt (.float p t) (.float q u)) Q E s from AutoFloatOps.gt_0 h
theorem gt_loopAt (l b : Addr) (items items2 : Array Value) (n n2 : Nat) (dd dd2 : Option Addr) (sl sl2 : Array (Option Value)) (hsz : items.size = items2.size) (e c : Nat → Bool) (k : Nat) :
    ∀ i : Nat, items.size - i = k → Meets (Builtin.«list.__eq__.loop» ⟨[.ref l, .ref b, rawInt i, rawInt 4], []⟩)
      (fun A R s => s.heap.get? l = some { cls := .type "list", dict := dd, data := .seq items n, slots := sl } ∧ s.heap.get? b = some { cls := .type "list", dict := dd2, data := .seq items2 n2, slots := sl2 } ∧
        (∀ j (h1 : j < items.size) (h2 : j < items2.size), EqAt A.in1 s items[j] items2[j] (e j)) ∧ (∀ j (h1 : j < items.size) (h2 : j < items2.size), GtAt A.in1 s items[j] items2[j] (c j)) ∧
        R (.ok (.ret (.bool (lex (((List.range items.size).drop i).map fun j => (e j, c j)))))) s) := by
  induction k with
  | zero =>
    intro i hk prog w A R s h
    obtain ⟨hp, g, d, tk, os⟩ := s; refine oAAAA h fun hl hb he hc h => ?_
    wp_walk using wpAny_loadPart' hl, wpAny_loadPart' hb
    have hi1 : items[((i : Nat) : Int).toNat]? = none := by simp; omega
    have hi2 : items2[((i : Nat) : Int).toNat]? = none := by simp; omega
    have hd : (List.range items.size).drop i = [] := by simp; omega
    rw [hd] at h
    rw [hi1, hi2]
    wp_walk using wpAny_loadPart' hl, wpAny_loadPart' hb
    show R (.ok (.ret (.bool (decide (items.size > items2.size))))) _
    rw [hsz]
    simpa [lex] using h
  | succ k ih =>
    intro i hk prog w A R s h
    obtain ⟨hp, g, d, tk, os⟩ := s; refine oAAAA h fun hl hb he hc h => ?_
    wp_walk using wpAny_loadPart' hl, wpAny_loadPart' hb
    have hlt : i < items.size := by omega
    have hlt2 : i < items2.size := by omega
    have hi1 : items[((i : Nat) : Int).toNat]? = some items[i] := by simp [hlt]
    have hi2 : items2[((i : Nat) : Int).toNat]? = some items2[i] := by simp [hlt2]
    have hd : (List.range items.size).drop i = i :: (List.range items.size).drop (i + 1) := by simp [List.drop_eq_getElem_cons, hlt]
    have hc1 : ((i : Int) + 1) = ((i + 1 : Nat) : Int) := by push_cast; rfl
    rw [hd, List.map_cons, lex] at h
    rw [hi1, hi2]
    refine wpAny_bind (he i hlt hlt2 prog w _ _ ?_)
    cases hb' : e i with
    | true =>
      rw [hb'] at h
      wp_walk
      rw [hc1]
      exact ⟨plainId_quiet plain_eq_loop _, codeAny_builtin entry_eq_loop (by
        rw [Around.under_plainId plain_eq_loop _]
        exact ih (i + 1) (by omega) prog w A R _ ⟨hl, hb, he, hc, by simpa using h⟩)⟩
    | false =>
      rw [hb'] at h
      wp_walk using wpAny_loadPart' hl, wpAny_loadPart' hb
      rw [hi1, hi2]
      refine wpAny_bind (hc i hlt hlt2 prog w _ _ ?_)
      wp_walk
      simpa using h
theorem list_gtAt (l b : Addr) (items items2 : Array Value) (n n2 : Nat) (dd dd2 : Option Addr) (sl sl2 : Array (Option Value)) (hsz : items.size = items2.size) (e c : Nat → Bool) :
    Meets (Builtin.«list.__gt__» ⟨[.ref l, .ref b], []⟩)
      (fun A R s => s.heap.get? l = some { cls := .type "list", dict := dd, data := .seq items n, slots := sl } ∧ s.heap.get? b = some { cls := .type "list", dict := dd2, data := .seq items2 n2, slots := sl2 } ∧
        (∀ j (h1 : j < items.size) (h2 : j < items2.size), EqAt A.in1 s items[j] items2[j] (e j)) ∧ (∀ j (h1 : j < items.size) (h2 : j < items2.size), GtAt A.in1 s items[j] items2[j] (c j)) ∧
        R (.ok (.ret (.bool (lex ((List.range items.size).map fun j => (e j, c j)))))) s) := by
  intro prog w A R s h
  obtain ⟨hp, g, d, tk, os⟩ := s; refine oAAAA h fun hl hb he hc h => ?_
  have f3 := AutoSeq1.sub_list_list
  wp_walk using wpAny_loadPart' hl, wpAny_loadPart' hb
  exact ⟨plainId_quiet plain_eq_loop _, codeAny_builtin entry_eq_loop (by
    rw [Around.under_plainId plain_eq_loop _]
    exact gt_loopAt l b items items2 n n2 dd dd2 sl sl2 hsz e c _ 0 rfl prog w A R _ ⟨hl, hb, he, hc, by simpa using h⟩)⟩
section
variable {A : Around} {s : Shared}
theorem GtAt.lists {l b : Addr} {items items2 : Array Value} {e c : Nat → Bool} (hl : s.heap.IsList l items) (hb : s.heap.IsList b items2) (hsz : items.size = items2.size) (hu : A.units < cLine)
    (he : ∀ j (h1 : j < items.size) (h2 : j < items2.size), EqAt A.in1 s items[j] items2[j] (e j)) (hc : ∀ j (h1 : j < items.size) (h2 : j < items2.size), GtAt A.in1 s items[j] items2[j] (c j)) :
    GtAt A s (.ref l) (.ref b) (lex ((List.range items.size).map fun j => (e j, c j))) := fun prog w E Q h => by
  refine oEAAE (id hl) fun q5466z0 ho hcl n hd => ?_; obtain ⟨cls, dd, data, sl⟩ := q5466z0
  refine oEAAE (id hb) fun q5530z0 ho2 hc2 n2 hd2 => ?_; obtain ⟨cls2, dd2, data2, sl2⟩ := q5530z0
  simp only at hcl hd hc2 hd2
  subst hcl hd hc2 hd2
  exact richCompare_meets_room (op := .Gt) ⟨_, ho, rfl⟩ ⟨_, ho2, rfl⟩ F.slot_list_gt F.entry_list_gt (F.args_list_gt_2 _ _) (list_gtAt l b items items2 n n2 dd dd2 sl sl2 hsz e c)
    ⟨ho, ho2, he, hc, show Value.bool _ ≠ Value.notImplemented ∧ Q (.bool _) s from ⟨(fun x => nomatch x), h⟩⟩ hu
end
noncomputable def kGt (a b : List UInt64) : Bool := lex ((List.range a.length).map fun j => (feq (a.getD j 0) (b.getD j 0), fgt (a.getD j 0) (b.getD j 0)))
section
variable {A : Around} {s : Shared} {G : PM} {v v' : Value} {k k' : Key}
theorem key_items_gt : ∀ j (h1 : j < (kvals k).toArray.size) (h2 : j < (kvals k').toArray.size), GtAt A s (kvals k).toArray[j] (kvals k').toArray[j] (fgt ((bits k).getD j 0) ((bits k').getD j 0)) := by
  intro j h1 h2
  refine oEAAA (kv_get h1) fun p hp e1 e2 _ => ?_
  refine oEAAA (kv_get h2) fun q hq e3 e4 _ => ?_
  rw [e1, e3, ← e2, ← e4]
  exact GtAt.float
theorem gtKey (hG : Sub G s.heap.get?) (hS : Stat G) (h1 : KeyAt G v k) (h2 : KeyAt G v' k') (hk : KOk k) (hk' : KOk k') (hc : Compat k k') (hl : k.length = k'.length) (hu : A.units + 10 < cLine) : GtAt A s v v' (kGt (bits k) (bits k')) := by
  refine oEEA h1 fun a n q6811z2 g1 => ?_; (try clear h1); obtain rfl := q6811z2
  refine oEEA h2 fun b n' q6846z2 g2 => ?_; (try clear h2); obtain rfl := q6846z2
  have := GtAt.lists (A := A) (s := s) (PySem.IsL.isList (n := n) (hG _ _ g1)) (PySem.IsL.isList (n := n') (hG _ _ g2)) (by rw [kvals_size, kvals_size, hl]) (by omega) (key_items_eq hk hk' hc (booked hS hG)) key_items_gt
  rw [kvals_size] at this
  unfold kGt
  simpa [bits] using this
end
end
-- part MinK
section
open PySem PySem.W PyProof.Rows PySem.Calls
set_option maxRecDepth 100000
set_option maxHeartbeats 4000000
theorem args_minD (a v u : Value) : argsOk "min" ⟨[a], [(Str.ofString "default", u), (Str.ofString "key", v)]⟩ := by unfold argsOk; kernel_rfl
theorem args_maxD (a v u : Value) : argsOk "max" ⟨[a], [(Str.ofString "default", u), (Str.ofString "key", v)]⟩ := by unfold argsOk; kernel_rfl
theorem upd_pair {h : Heap} {S : Addr} {xs : Array Value} {c : Nat} (e : h.get? S = some (seqObj "list" xs c)) (ys : Array Value) : ∃ c2, (h.update S (Obj.mapSeq fun _ => ys)).get? S = some (seqObj "list" ys c2) := ⟨_, get?_update_seq e fun _ => ys⟩
theorem getD_some {ra : List Addr} {i : Nat} (h : i < ra.length) : ra[i]? = some (ra.getD i 0) := by simp [h]
section
variable {w : World} {A : Around} {s : Shared} {H hb : Heap} {E Q : Value → Shared → Prop} {R : Result → Shared → Prop} {Kf RA I S : Addr} {ra : List Addr} {kb : Nat → List UInt64} {d n : Nat} {lt : Nat → Nat → Bool} {dv : Value}
theorem min_loop (hA : A.handled = none) (hu : A.units + 600 < cLine) (hroom : A.depth + 4 < recursionLimit) (hK : KeyOk w H Kf ra kb d) (hS : Stat H.get?) (hRA : H.get? RA = some (listOf (ra.map Value.ref).toArray n)) (stb : H.StaysIn hb) (hI0 : H.get? I = none) (hSb : hb.get? S = none) (hSI : S ≠ I)
    (swo : SWO lt) (hlt : ∀ i j, kLt (kb i) (kb j) = lt i j)
    (hR : ∀ (i : Nat) (h' : Heap) (tk' : Nat), i < ra.length → (∀ j, j < ra.length → j ≠ i → slt lt i j) → Keep [I] hb h' → R (.ok (.ret (.ref (ra.getD i 0)))) { s with heap := h', toks := tk' }) :
    ∀ (r j i : Nat) (h : Heap) (tk c : Nat) (oI : Obj) (kc : Addr) (k : Key) (kn : Nat), j + r = ra.length → i < j → Keep [I] hb h → h.get? I = some oI → IsLi oI RA j → h.get? S = some (seqObj "list" #[.ref (ra.getD i 0), .ref kc] c) → h.get? kc = some (listOf (kvals k).toArray kn) → bits k = kb i → KOk k → k.length = d → (∀ p ∈ k, p.2 < tk) → (∀ j', j' < j → j' ≠ i → slt lt i j') →
      codeAny (model PySem.Challenge.rw_mq0320_01.row.prog w) A (.builtin "min.loop" ⟨[.ref I, .ref Kf, .ref S], [(Str.ofString "default", dv)]⟩) R { s with heap := h, toks := tk } := by
  have hname : (toString "min" ++ toString ".loop" : String) = "min.loop" := by decide
  intro r
  induction r with
  | zero =>
    intro j i h tk c oI kc k kn hj hij K eI cI eS ek b1 b2 b3 b4 hbest
    have stH : H.StaysIn h := fun b o e => K b o (by intro q; rw [List.mem_singleton.mp q, hI0] at e; cases e) (stb b o e)
    have hl := PySem.IsL.isList (n := n) (stH _ _ hRA)
    refine codeAny_builtin PySem.F.entry_min_loop ?_
    rw [Around.under_plainId PySem.F.plain_min_loop _]
    show wpAny _ A.in1 (seqItems? (.ref S) >>= _) _ _ _
    refine wpAny_bind (wpAny_seqItems eS rfl ?_)
    show wpAny _ A.in1 (tryCatch (pyNext (.ref I)) _ >>= _) _ _ _
    refine wpAny_bind (wpAny_tryCatch (wpAny_pyNext_list_end hA ⟨oI, eI, cI⟩ hl (by simp; lia) fun h' hx => ?_))
    have eS' := Keep.ofExt hx _ _ (by first | exact nin1 (hSI) | exact nin2 (hSI) | exact allc (hSI) alln | simpa using hSI) eS
    show wpAny _ A.in1 (updateSeq S (fun _ => #[]) >>= _) _ _ _
    refine wpAny_bind ?_
    refine wpAny_updateSeq eS' rfl (wpAny_bind (wpAny_letGo (wpAny_pure ?_)))
    refine hR i _ _ (by lia) (fun j' hj' hne => hbest j' (by lia) hne) ?_
    intro b o hb' e
    have hbS : b ≠ S := fun q => by rw [q, hSb] at e; cases e
    exact ((Heap.SameBut.update h' S (Obj.mapSeq fun _ => (#[] : Array Value))).2 b hbS).trans (Keep.ofExt hx b o hb' (K b o hb' e))
  | succ r ih =>
    intro j i h tk c oI kc k kn hj hij K eI cI eS ek b1 b2 b3 b4 hbest
    have hjr : j < ra.length := by lia
    have stH : H.StaysIn h := fun b o e => K b o (by intro q; rw [List.mem_singleton.mp q, hI0] at e; cases e) (stb b o e)
    have hl := PySem.IsL.isList (n := n) (stH _ _ hRA)
    refine codeAny_builtin PySem.F.entry_min_loop ?_
    rw [Around.under_plainId PySem.F.plain_min_loop _]
    show wpAny _ A.in1 (seqItems? (.ref S) >>= _) _ _ _
    refine wpAny_bind (wpAny_seqItems eS rfl ?_)
    show wpAny _ A.in1 (tryCatch (pyNext (.ref I)) _ >>= _) _ _ _
    refine wpAny_bind (wpAny_tryCatch (wpAny_pyNext_list_item (x := .ref (ra.getD j 0)) ⟨oI, eI, cI⟩ hl (by simp [hjr]) fun h1 hI1 hx => ?_))
    refine oEA hI1 fun oI1 eI1 cI1 => ?_; (try clear hI1)
    have K1 := Keep.ofSame hx
    have K1' := K.trans K1
    have eS1 := K1 _ _ (by first | exact nin1 (hSI) | exact nin2 (hSI) | exact allc (hSI) alln | simpa using hSI) eS
    have hkI : kc ≠ I := fun q => by rw [q, eI] at ek; cases ek; exact absurd (show Value.type "list" = Value.type "list_iterator" from cI.1) (by simp)
    have ek1 := K1 _ _ (by first | exact nin1 (hkI) | exact nin2 (hkI) | exact allc (hkI) alln | simpa using hkI) ek
    have stH1 : H.StaysIn h1 := fun b o e => K1' b o (by intro q; rw [List.mem_singleton.mp q, hI0] at e; cases e) (stb b o e)
    show wpAny _ A.in1 (tryCatch (holding [.ref (ra.getD j 0)] (call (.ref Kf) [.ref (ra.getD j 0)])) _ >>= _) _ _ _
    refine wpAny_bind (wpAny_tryCatch (wpAny_holding ?_))
    refine hK.2 _ _ _ _ j _ (getD_some hjr) stH1 hA (by show A.units + 1 + 500 < cLine; first | exact room3 hu (by decide) | lia) (by show A.depth + 4 < recursionLimit; first | exact room2 hroom (by decide) | lia) ?_
    intro h2 tk2 kc2 k2 kn2 K2 hkc2 ek2 d1 d2 d3 d4 d5
    have eS2 := K2 _ _ (by simp) eS1
    have eI2 := K2 _ _ (by simp) eI1
    have ek1' := K2 _ _ (by simp) ek1
    have stH2 : H.StaysIn h2 := fun b o e => K2 b o (by simp) (stH1 b o e)
    have hcomp : Compat k2 k := fun p hp q hq e => by
      have h1 : tk ≤ p.2 := (d4 p hp).1
      have h2 := b4 q hq
      rw [e] at h1
      exact absurd h2 (Nat.not_lt.mpr h1)
    have hcmp := ltKey (A := A.in1) (s := { s with heap := h2, toks := tk2 }) (G := h2.get?) (v := .ref kc2) (v' := .ref kc) (k := k2) (k' := k) (fun _ _ e => e) (stH2 _ _ hS) ⟨_, _, rfl, ek2⟩ ⟨_, _, rfl, ek1'⟩ d2 b2 hcomp (by rw [d3, b3]) (by show A.units + 1 + 10 < cLine; first | exact room3 hu (by decide) | lia)
    rw [d1, b1, hlt] at hcmp
    show wpAny _ A.in1 (tryCatch (holding [.ref (ra.getD j 0), .ref kc2] (richCompare .Lt (.ref kc2) (.ref kc) >>= _)) _ >>= _) _ _ _
    refine wpAny_bind (wpAny_tryCatch (wpAny_holding (wpAny_bind (hcmp _ _ _ _ ?_))))
    refine wpAny_bind (wpAny_holding (wpAny_truthy_bool ?_))
    refine wpAny_bind (wpAny_letGo (wpAny_pure ?_))
    cases hb' : lt j i with
    | true =>
      refine oE (upd_pair eS2 #[.ref (ra.getD j 0), .ref kc2]) fun c2 hc2 => ?_
      have s1 := Heap.SameBut.update h2 S (Obj.mapSeq fun _ => #[Value.ref (ra.getD j 0), .ref kc2])
      simp only [if_true]
      refine wpAny_bind ?_
      refine wpAny_updateSeq eS2 rfl (wpAny_bind (wpAny_letGo ?_))
      rw [hname]
      have hkS : kc2 ≠ S := fun q => by rw [q] at hkc2; rw [show h1.get? S = none from hkc2] at eS1; cases eS1
      refine wpAny_pure ⟨plainId_quiet PySem.F.plain_min_loop _, ih (j + 1) j _ _ c2 oI1 kc2 k2 kn2 (by lia) (by lia) ?_ ((s1.2 I hSI.symm).trans eI2) cI1 hc2 ((s1.2 kc2 hkS).trans ek2) d1 d2 d3 (fun p hp => (d4 p hp).2) fun j' hj' hne => ?_⟩
      · intro b o hbI e
        have hbS : b ≠ S := fun q => by rw [q, hSb] at e; cases e
        exact (s1.2 b hbS).trans (K2 b o (by simp) (K1' b o hbI e))
      · have hj2 : j' < j := by lia
        rcases Decidable.em (j' = i) with q | q
        · rw [q]; exact .inl hb'
        · exact slt_trans swo (.inl hb') (hbest j' hj2 q)
    | false =>
      simp only [Bool.false_eq_true, if_false]
      refine wpAny_bind (wpAny_letGo ?_)
      rw [hname]
      refine wpAny_pure ⟨plainId_quiet PySem.F.plain_min_loop _, ih (j + 1) i _ _ c oI1 kc k kn (by lia) (by lia) (fun b o hbI e => K2 b o (by simp) (K1' b o hbI e)) eI2 cI1 eS2 ek1' b1 b2 b3 (fun p hp => Nat.lt_of_lt_of_le (b4 p hp) d5) fun j' hj' hne => ?_⟩
      rcases Nat.lt_or_eq_of_le (Nat.lt_succ_iff.mp hj') with q | q
      · exact hbest j' q hne
      · rw [q]; exact .inr ⟨hb', hij⟩
theorem min_key {oI : Obj} (hA : A.handled = none) (hu : A.units + 600 < cLine) (hroom : A.depth + 4 < recursionLimit) (hK : KeyOk w H Kf ra kb d) (hS : Stat H.get?) (hRA : H.get? RA = some (listOf (ra.map Value.ref).toArray n)) (st : H.StaysIn s.heap) (hI0 : H.get? I = none)
    (eI : s.heap.get? I = some oI) (cI : IsLi oI RA 0) (hn : 0 < ra.length) (swo : SWO lt) (hlt : ∀ i j, kLt (kb i) (kb j) = lt i j)
    (hq : ∀ (i : Nat) (h' : Heap) (tk' : Nat), i < ra.length → (∀ j, j < ra.length → j ≠ i → slt lt i j) → Keep [I] s.heap h' → Q (.ref (ra.getD i 0)) { s with heap := h', toks := tk' }) :
    wpAny (model PySem.Challenge.rw_mq0320_01.row.prog w) A (call (.builtin "min") [.ref I] [(Str.ofString "default", dv), (Str.ofString "key", .ref Kf)]) Q E s := by
  have hname : (toString "min" ++ toString ".loop" : String) = "min.loop" := by decide
  refine kmk_tree PySem.F.kind_min PySem.F.plain_min PySem.F.entry_min (args_minD _ _ _) ?_
  show wpAny _ A.in1 (Builtin.Builtins.bindParams "min" ["key", "default"] 0 ⟨[], [(Str.ofString "default", dv), (Str.ofString "key", .ref Kf)]⟩ >>= _) _ _ s
  refine wpAny_bind (wpAny_of_eq (show Builtin.Builtins.bindParams "min" ["key", "default"] 0 ⟨[], [(Str.ofString "default", dv), (Str.ofString "key", .ref Kf)]⟩ = pure [some (.ref Kf), some dv] from rfl) ?_)
  refine wpAny_bind (wpAny_pure ?_)
  refine wpAny_bind (wpAny_pyIter_listiter ⟨oI, eI, cI⟩ ?_)
  refine wpAny_bind (wpAny_newList ?_ (Nat.zero_le _))
  rw [hname]
  have hSI : s.heap.objs.size ≠ I := Nat.ne_of_gt (Heap.lt_size eI)
  have hSb : s.heap.get? s.heap.objs.size = none := Heap.get?_none_of_le (Nat.le_refl _)
  have eS : (s.heap.push (seqObj "list" #[] 0)).get? s.heap.objs.size = some (seqObj "list" #[] 0) := Heap.get?_push_size _ rfl
  have K0 : Keep [I] s.heap (s.heap.push (seqObj "list" #[] 0)) := fun b o _ e => Heap.get?_push_of_some _ e
  refine wpAny_pure ⟨plainId_quiet PySem.F.plain_min_loop _, ?_⟩
  have eI0 := Heap.get?_push_of_some (seqObj "list" #[] 0) eI
  have stH0 : H.StaysIn (s.heap.push (seqObj "list" #[] 0)) := fun b o e => Heap.get?_push_of_some _ (st b o e)
  have hl := PySem.IsL.isList (n := n) (stH0 _ _ hRA)
  show codeAny (model PySem.Challenge.rw_mq0320_01.row.prog w) A (.builtin "min.loop" ⟨[.ref I, .ref Kf, .ref s.heap.objs.size], [(Str.ofString "default", dv)]⟩) _ { s with heap := s.heap.push (seqObj "list" #[] 0) }
  refine codeAny_builtin PySem.F.entry_min_loop ?_
  rw [Around.under_plainId PySem.F.plain_min_loop _]
  show wpAny _ A.in1 (seqItems? (.ref _) >>= _) _ _ _
  refine wpAny_bind (wpAny_seqItems eS rfl ?_)
  show wpAny _ A.in1 (tryCatch (pyNext (.ref I)) _ >>= _) _ _ _
  refine wpAny_bind (wpAny_tryCatch (wpAny_pyNext_list_item (x := .ref (ra.getD 0 0)) ⟨oI, eI0, cI⟩ hl (by simp [hn]) fun h1 hI1 hx => ?_))
  refine oEA hI1 fun oI1 eI1 cI1 => ?_; (try clear hI1)
  have K1 := Keep.ofSame hx
  have K1' := K0.trans K1
  have eS1 := K1 _ _ (by first | exact nin1 (hSI) | exact nin2 (hSI) | exact allc (hSI) alln | simpa using hSI) eS
  have stH1 : H.StaysIn h1 := fun b o e => K1' b o (by intro q; rw [List.mem_singleton.mp q, hI0] at e; cases e) (st b o e)
  show wpAny _ A.in1 (tryCatch (holding [.ref (ra.getD 0 0)] (call (.ref Kf) [.ref (ra.getD 0 0)])) _ >>= _) _ _ _
  refine wpAny_bind (wpAny_tryCatch (wpAny_holding ?_))
  refine hK.2 _ _ _ _ 0 _ (getD_some hn) stH1 hA (by show A.units + 1 + 500 < cLine; first | exact room3 hu (by decide) | lia) (by show A.depth + 4 < recursionLimit; first | exact room2 hroom (by decide) | lia) ?_
  intro h2 tk2 kc2 k2 kn2 K2 hkc2 ek2 d1 d2 d3 d4 d5
  have eS2 := K2 _ _ (by simp) eS1
  have eI2 := K2 _ _ (by simp) eI1
  refine oE (upd_pair eS2 #[.ref (ra.getD 0 0), .ref kc2]) fun c2 hc2 => ?_
  have s1 := Heap.SameBut.update h2 s.heap.objs.size (Obj.mapSeq fun _ => #[Value.ref (ra.getD 0 0), .ref kc2])
  have hkS : kc2 ≠ s.heap.objs.size := fun q => by rw [q] at hkc2; rw [show h1.get? s.heap.objs.size = none from hkc2] at eS1; cases eS1
  show wpAny _ A.in1 (updateSeq s.heap.objs.size (fun _ => #[.ref (ra.getD 0 0), .ref kc2]) >>= _) _ _ _
  refine wpAny_bind ?_
  refine wpAny_updateSeq eS2 rfl ?_
  rw [hname]
  refine wpAny_pure ⟨plainId_quiet PySem.F.plain_min_loop _, min_loop (S := s.heap.objs.size) (hb := s.heap) hA hu hroom hK hS hRA st hI0 hSb hSI swo hlt (fun i h' tk' a1 a2 a3 => hq i h' tk' a1 a2 a3) (ra.length - 1) 1 0 _ _ c2 oI1 kc2 k2 kn2 (by lia) (by lia) ?_ ((s1.2 I hSI.symm).trans eI2) cI1 hc2 ((s1.2 kc2 hkS).trans ek2) d1 d2 d3 (fun p hp => (d4 p hp).2) fun j' hj' hne => by lia⟩
  intro b o hbI e
  have hbS : b ≠ s.heap.objs.size := fun q => by rw [q, hSb] at e; cases e
  exact (s1.2 b hbS).trans (K2 b o (by simp) (K1' b o hbI e))
theorem max_loop (hA : A.handled = none) (hu : A.units + 600 < cLine) (hroom : A.depth + 4 < recursionLimit) (hK : KeyOk w H Kf ra kb d) (hS : Stat H.get?) (hRA : H.get? RA = some (listOf (ra.map Value.ref).toArray n)) (stb : H.StaysIn hb) (hI0 : H.get? I = none) (hSb : hb.get? S = none) (hSI : S ≠ I)
    (swo : SWO lt) (hlt : ∀ i j, kGt (kb i) (kb j) = lt i j)
    (hR : ∀ (i : Nat) (h' : Heap) (tk' : Nat), i < ra.length → (∀ j, j < ra.length → j ≠ i → slt lt i j) → Keep [I] hb h' → R (.ok (.ret (.ref (ra.getD i 0)))) { s with heap := h', toks := tk' }) :
    ∀ (r j i : Nat) (h : Heap) (tk c : Nat) (oI : Obj) (kc : Addr) (k : Key) (kn : Nat), j + r = ra.length → i < j → Keep [I] hb h → h.get? I = some oI → IsLi oI RA j → h.get? S = some (seqObj "list" #[.ref (ra.getD i 0), .ref kc] c) → h.get? kc = some (listOf (kvals k).toArray kn) → bits k = kb i → KOk k → k.length = d → (∀ p ∈ k, p.2 < tk) → (∀ j', j' < j → j' ≠ i → slt lt i j') →
      codeAny (model PySem.Challenge.rw_mq0320_01.row.prog w) A (.builtin "max.loop" ⟨[.ref I, .ref Kf, .ref S], [(Str.ofString "default", dv)]⟩) R { s with heap := h, toks := tk } := by
  have hname : (toString "max" ++ toString ".loop" : String) = "max.loop" := by decide
  intro r
  induction r with
  | zero =>
    intro j i h tk c oI kc k kn hj hij K eI cI eS ek b1 b2 b3 b4 hbest
    have stH : H.StaysIn h := fun b o e => K b o (by intro q; rw [List.mem_singleton.mp q, hI0] at e; cases e) (stb b o e)
    have hl := PySem.IsL.isList (n := n) (stH _ _ hRA)
    refine codeAny_builtin PySem.F.entry_max_loop ?_
    rw [Around.under_plainId PySem.F.plain_max_loop _]
    show wpAny _ A.in1 (seqItems? (.ref S) >>= _) _ _ _
    refine wpAny_bind (wpAny_seqItems eS rfl ?_)
    show wpAny _ A.in1 (tryCatch (pyNext (.ref I)) _ >>= _) _ _ _
    refine wpAny_bind (wpAny_tryCatch (wpAny_pyNext_list_end hA ⟨oI, eI, cI⟩ hl (by simp; lia) fun h' hx => ?_))
    have eS' := Keep.ofExt hx _ _ (by first | exact nin1 (hSI) | exact nin2 (hSI) | exact allc (hSI) alln | simpa using hSI) eS
    show wpAny _ A.in1 (updateSeq S (fun _ => #[]) >>= _) _ _ _
    refine wpAny_bind ?_
    refine wpAny_updateSeq eS' rfl (wpAny_bind (wpAny_letGo (wpAny_pure ?_)))
    refine hR i _ _ (by lia) (fun j' hj' hne => hbest j' (by lia) hne) ?_
    intro b o hb' e
    have hbS : b ≠ S := fun q => by rw [q, hSb] at e; cases e
    exact ((Heap.SameBut.update h' S (Obj.mapSeq fun _ => (#[] : Array Value))).2 b hbS).trans (Keep.ofExt hx b o hb' (K b o hb' e))
  | succ r ih =>
    intro j i h tk c oI kc k kn hj hij K eI cI eS ek b1 b2 b3 b4 hbest
    have hjr : j < ra.length := by lia
    have stH : H.StaysIn h := fun b o e => K b o (by intro q; rw [List.mem_singleton.mp q, hI0] at e; cases e) (stb b o e)
    have hl := PySem.IsL.isList (n := n) (stH _ _ hRA)
    refine codeAny_builtin PySem.F.entry_max_loop ?_
    rw [Around.under_plainId PySem.F.plain_max_loop _]
    show wpAny _ A.in1 (seqItems? (.ref S) >>= _) _ _ _
    refine wpAny_bind (wpAny_seqItems eS rfl ?_)
    show wpAny _ A.in1 (tryCatch (pyNext (.ref I)) _ >>= _) _ _ _
    refine wpAny_bind (wpAny_tryCatch (wpAny_pyNext_list_item (x := .ref (ra.getD j 0)) ⟨oI, eI, cI⟩ hl (by simp [hjr]) fun h1 hI1 hx => ?_))
    refine oEA hI1 fun oI1 eI1 cI1 => ?_; (try clear hI1)
    have K1 := Keep.ofSame hx
    have K1' := K.trans K1
    have eS1 := K1 _ _ (by first | exact nin1 (hSI) | exact nin2 (hSI) | exact allc (hSI) alln | simpa using hSI) eS
    have hkI : kc ≠ I := fun q => by rw [q, eI] at ek; cases ek; exact absurd (show Value.type "list" = Value.type "list_iterator" from cI.1) (by simp)
    have ek1 := K1 _ _ (by first | exact nin1 (hkI) | exact nin2 (hkI) | exact allc (hkI) alln | simpa using hkI) ek
    have stH1 : H.StaysIn h1 := fun b o e => K1' b o (by intro q; rw [List.mem_singleton.mp q, hI0] at e; cases e) (stb b o e)
    show wpAny _ A.in1 (tryCatch (holding [.ref (ra.getD j 0)] (call (.ref Kf) [.ref (ra.getD j 0)])) _ >>= _) _ _ _
    refine wpAny_bind (wpAny_tryCatch (wpAny_holding ?_))
    refine hK.2 _ _ _ _ j _ (getD_some hjr) stH1 hA (by show A.units + 1 + 500 < cLine; first | exact room3 hu (by decide) | lia) (by show A.depth + 4 < recursionLimit; first | exact room2 hroom (by decide) | lia) ?_
    intro h2 tk2 kc2 k2 kn2 K2 hkc2 ek2 d1 d2 d3 d4 d5
    have eS2 := K2 _ _ (by simp) eS1
    have eI2 := K2 _ _ (by simp) eI1
    have ek1' := K2 _ _ (by simp) ek1
    have stH2 : H.StaysIn h2 := fun b o e => K2 b o (by simp) (stH1 b o e)
    have hcomp : Compat k2 k := fun p hp q hq e => by
      have h1 : tk ≤ p.2 := (d4 p hp).1
      have h2 := b4 q hq
      rw [e] at h1
      exact absurd h2 (Nat.not_lt.mpr h1)
    have hcmp := gtKey (A := A.in1) (s := { s with heap := h2, toks := tk2 }) (G := h2.get?) (v := .ref kc2) (v' := .ref kc) (k := k2) (k' := k) (fun _ _ e => e) (stH2 _ _ hS) ⟨_, _, rfl, ek2⟩ ⟨_, _, rfl, ek1'⟩ d2 b2 hcomp (by rw [d3, b3]) (by show A.units + 1 + 10 < cLine; first | exact room3 hu (by decide) | lia)
    rw [d1, b1, hlt] at hcmp
    show wpAny _ A.in1 (tryCatch (holding [.ref (ra.getD j 0), .ref kc2] (richCompare .Gt (.ref kc2) (.ref kc) >>= _)) _ >>= _) _ _ _
    refine wpAny_bind (wpAny_tryCatch (wpAny_holding (wpAny_bind (hcmp _ _ _ _ ?_))))
    refine wpAny_bind (wpAny_holding (wpAny_truthy_bool ?_))
    refine wpAny_bind (wpAny_letGo (wpAny_pure ?_))
    cases hb' : lt j i with
    | true =>
      refine oE (upd_pair eS2 #[.ref (ra.getD j 0), .ref kc2]) fun c2 hc2 => ?_
      have s1 := Heap.SameBut.update h2 S (Obj.mapSeq fun _ => #[Value.ref (ra.getD j 0), .ref kc2])
      simp only [if_true]
      refine wpAny_bind ?_
      refine wpAny_updateSeq eS2 rfl (wpAny_bind (wpAny_letGo ?_))
      rw [hname]
      have hkS : kc2 ≠ S := fun q => by rw [q] at hkc2; rw [show h1.get? S = none from hkc2] at eS1; cases eS1
      refine wpAny_pure ⟨plainId_quiet PySem.F.plain_max_loop _, ih (j + 1) j _ _ c2 oI1 kc2 k2 kn2 (by lia) (by lia) ?_ ((s1.2 I hSI.symm).trans eI2) cI1 hc2 ((s1.2 kc2 hkS).trans ek2) d1 d2 d3 (fun p hp => (d4 p hp).2) fun j' hj' hne => ?_⟩
      · intro b o hbI e
        have hbS : b ≠ S := fun q => by rw [q, hSb] at e; cases e
        exact (s1.2 b hbS).trans (K2 b o (by simp) (K1' b o hbI e))
      · have hj2 : j' < j := by lia
        rcases Decidable.em (j' = i) with q | q
        · rw [q]; exact .inl hb'
        · exact slt_trans swo (.inl hb') (hbest j' hj2 q)
    | false =>
      simp only [Bool.false_eq_true, if_false]
      refine wpAny_bind (wpAny_letGo ?_)
      rw [hname]
      refine wpAny_pure ⟨plainId_quiet PySem.F.plain_max_loop _, ih (j + 1) i _ _ c oI1 kc k kn (by lia) (by lia) (fun b o hbI e => K2 b o (by simp) (K1' b o hbI e)) eI2 cI1 eS2 ek1' b1 b2 b3 (fun p hp => Nat.lt_of_lt_of_le (b4 p hp) d5) fun j' hj' hne => ?_⟩
      rcases Nat.lt_or_eq_of_le (Nat.lt_succ_iff.mp hj') with q | q
      · exact hbest j' q hne
      · rw [q]; exact .inr ⟨hb', hij⟩
theorem max_key {oI : Obj} (hA : A.handled = none) (hu : A.units + 600 < cLine) (hroom : A.depth + 4 < recursionLimit) (hK : KeyOk w H Kf ra kb d) (hS : Stat H.get?) (hRA : H.get? RA = some (listOf (ra.map Value.ref).toArray n)) (st : H.StaysIn s.heap) (hI0 : H.get? I = none)
    (eI : s.heap.get? I = some oI) (cI : IsLi oI RA 0) (hn : 0 < ra.length) (swo : SWO lt) (hlt : ∀ i j, kGt (kb i) (kb j) = lt i j)
    (hq : ∀ (i : Nat) (h' : Heap) (tk' : Nat), i < ra.length → (∀ j, j < ra.length → j ≠ i → slt lt i j) → Keep [I] s.heap h' → Q (.ref (ra.getD i 0)) { s with heap := h', toks := tk' }) :
    wpAny (model PySem.Challenge.rw_mq0320_01.row.prog w) A (call (.builtin "max") [.ref I] [(Str.ofString "default", dv), (Str.ofString "key", .ref Kf)]) Q E s := by
  have hname : (toString "max" ++ toString ".loop" : String) = "max.loop" := by decide
  refine kmk_tree PySem.F.kind_max PySem.F.plain_max PySem.F.entry_max (args_maxD _ _ _) ?_
  show wpAny _ A.in1 (Builtin.Builtins.bindParams "max" ["key", "default"] 0 ⟨[], [(Str.ofString "default", dv), (Str.ofString "key", .ref Kf)]⟩ >>= _) _ _ s
  refine wpAny_bind (wpAny_of_eq (show Builtin.Builtins.bindParams "max" ["key", "default"] 0 ⟨[], [(Str.ofString "default", dv), (Str.ofString "key", .ref Kf)]⟩ = pure [some (.ref Kf), some dv] from rfl) ?_)
  refine wpAny_bind (wpAny_pure ?_)
  refine wpAny_bind (wpAny_pyIter_listiter ⟨oI, eI, cI⟩ ?_)
  refine wpAny_bind (wpAny_newList ?_ (Nat.zero_le _))
  rw [hname]
  have hSI : s.heap.objs.size ≠ I := Nat.ne_of_gt (Heap.lt_size eI)
  have hSb : s.heap.get? s.heap.objs.size = none := Heap.get?_none_of_le (Nat.le_refl _)
  have eS : (s.heap.push (seqObj "list" #[] 0)).get? s.heap.objs.size = some (seqObj "list" #[] 0) := Heap.get?_push_size _ rfl
  have K0 : Keep [I] s.heap (s.heap.push (seqObj "list" #[] 0)) := fun b o _ e => Heap.get?_push_of_some _ e
  refine wpAny_pure ⟨plainId_quiet PySem.F.plain_max_loop _, ?_⟩
  have eI0 := Heap.get?_push_of_some (seqObj "list" #[] 0) eI
  have stH0 : H.StaysIn (s.heap.push (seqObj "list" #[] 0)) := fun b o e => Heap.get?_push_of_some _ (st b o e)
  have hl := PySem.IsL.isList (n := n) (stH0 _ _ hRA)
  show codeAny (model PySem.Challenge.rw_mq0320_01.row.prog w) A (.builtin "max.loop" ⟨[.ref I, .ref Kf, .ref s.heap.objs.size], [(Str.ofString "default", dv)]⟩) _ { s with heap := s.heap.push (seqObj "list" #[] 0) }
  refine codeAny_builtin PySem.F.entry_max_loop ?_
  rw [Around.under_plainId PySem.F.plain_max_loop _]
  show wpAny _ A.in1 (seqItems? (.ref _) >>= _) _ _ _
  refine wpAny_bind (wpAny_seqItems eS rfl ?_)
  show wpAny _ A.in1 (tryCatch (pyNext (.ref I)) _ >>= _) _ _ _
  refine wpAny_bind (wpAny_tryCatch (wpAny_pyNext_list_item (x := .ref (ra.getD 0 0)) ⟨oI, eI0, cI⟩ hl (by simp [hn]) fun h1 hI1 hx => ?_))
  refine oEA hI1 fun oI1 eI1 cI1 => ?_; (try clear hI1)
  have K1 := Keep.ofSame hx
  have K1' := K0.trans K1
  have eS1 := K1 _ _ (by first | exact nin1 (hSI) | exact nin2 (hSI) | exact allc (hSI) alln | simpa using hSI) eS
  have stH1 : H.StaysIn h1 := fun b o e => K1' b o (by intro q; rw [List.mem_singleton.mp q, hI0] at e; cases e) (st b o e)
  show wpAny _ A.in1 (tryCatch (holding [.ref (ra.getD 0 0)] (call (.ref Kf) [.ref (ra.getD 0 0)])) _ >>= _) _ _ _
  refine wpAny_bind (wpAny_tryCatch (wpAny_holding ?_))
  refine hK.2 _ _ _ _ 0 _ (getD_some hn) stH1 hA (by show A.units + 1 + 500 < cLine; first | exact room3 hu (by decide) | lia) (by show A.depth + 4 < recursionLimit; first | exact room2 hroom (by decide) | lia) ?_
  intro h2 tk2 kc2 k2 kn2 K2 hkc2 ek2 d1 d2 d3 d4 d5
  have eS2 := K2 _ _ (by simp) eS1
  have eI2 := K2 _ _ (by simp) eI1
  refine oE (upd_pair eS2 #[.ref (ra.getD 0 0), .ref kc2]) fun c2 hc2 => ?_
  have s1 := Heap.SameBut.update h2 s.heap.objs.size (Obj.mapSeq fun _ => #[Value.ref (ra.getD 0 0), .ref kc2])
  have hkS : kc2 ≠ s.heap.objs.size := fun q => by rw [q] at hkc2; rw [show h1.get? s.heap.objs.size = none from hkc2] at eS1; cases eS1
  show wpAny _ A.in1 (updateSeq s.heap.objs.size (fun _ => #[.ref (ra.getD 0 0), .ref kc2]) >>= _) _ _ _
  refine wpAny_bind ?_
  refine wpAny_updateSeq eS2 rfl ?_
  rw [hname]
  refine wpAny_pure ⟨plainId_quiet PySem.F.plain_max_loop _, max_loop (S := s.heap.objs.size) (hb := s.heap) hA hu hroom hK hS hRA st hI0 hSb hSI swo hlt (fun i h' tk' a1 a2 a3 => hq i h' tk' a1 a2 a3) (ra.length - 1) 1 0 _ _ c2 oI1 kc2 k2 kn2 (by lia) (by lia) ?_ ((s1.2 I hSI.symm).trans eI2) cI1 hc2 ((s1.2 kc2 hkS).trans ek2) d1 d2 d3 (fun p hp => (d4 p hp).2) fun j' hj' hne => by lia⟩
  intro b o hbI e
  have hbS : b ≠ s.heap.objs.size := fun q => by rw [q, hSb] at e; cases e
  exact (s1.2 b hbS).trans (K2 b o (by simp) (K1' b o hbI e))
end
end
-- part TryC
section
open PySem PySem.W PyProof.Rows PySem.Calls
set_option maxRecDepth 100000
set_option maxHeartbeats 4000000
theorem fillTryC : True := by
  w_top off
  trivial
structure SK (fs : List Addr) (h h' : Heap) : Prop where
  keep : ∀ b o, b ∉ fs → h.get? b = some o → h'.get? b = some o
  slot : ∀ b o, b ∈ fs → h.get? b = some o → ∃ sl, h'.get? b = some { o with slots := sl }
theorem SK.refl (fs : List Addr) (h : Heap) : SK fs h h := ⟨fun _ _ _ e => e, fun _ o _ e => ⟨o.slots, e⟩⟩
theorem SK.trans {fs : List Addr} {h h' h'' : Heap} (a : SK fs h h') (b : SK fs h' h'') : SK fs h h'' :=
  ⟨fun x o n e => b.keep x o n (a.keep x o n e), fun x o m e => by refine oE (a.slot x o m e) fun sl e1 => ?_; refine oE (b.slot x _ m e1) fun sl2 e2 => ?_; exact ⟨sl2, e2⟩⟩
theorem SK.grown {fs : List Addr} {h h' : Heap} (k : ∀ b o, h.get? b = some o → h'.get? b = some o) : SK fs h h' := ⟨fun b o _ e => k b o e, fun b o _ e => ⟨o.slots, k b o e⟩⟩
theorem SK.of {fs : List Addr} {h h' : Heap} (hB : (hideAll h fs).StaysIn h') (hu : h.UpToSlots h') (hf : ∀ b o, b ∈ fs → h.get? b = some o → ∀ vs, o.data ≠ .fields vs) : SK fs h h' :=
  ⟨fun b o n e => hB b o (hideAll_get _ e n), fun b o m e => hu b o e (hf b o m e)⟩
theorem frSK {h₀ h h' : Heap} {L : Addr} {m : Str → Option Value} {fs : List Addr} (F : Fr h₀ L h m) (S : SK fs h h') (hD : ∀ d ∈ fs, h₀.get? d = none) : Fr h₀ L h' m := by
  refine oEEEA F.ns fun o es ep ho r => ?_
  refine ⟨?_, fun b x e => S.keep b x (fun q => by rw [hD b q] at e; cases e) (F.keep b x e), F.above⟩
  by_cases q : L ∈ fs
  · refine oE (S.slot L o q ho) fun sl e => ?_
    exact ⟨_, es, ep, e, r⟩
  · exact ⟨o, es, ep, S.keep L o q ho, r⟩
theorem newsSK {h₀ h h' : Heap} {L : Addr} {news : List (Addr × Obj)} {fs : List Addr} (N : News h₀ L h news) (S : SK fs h h') (hn : ∀ p ∈ news, p.1 ∉ fs) : News h₀ L h' news :=
  fun p hp => ⟨S.keep _ _ (hn p hp) (N p hp).1, (N p hp).2⟩
theorem li_no_len : typeLookup (.type "list_iterator") (Str.ofString "__len__") = pure none := by rw [typeLookup_type, builtinLookup_eq_fast]; kernel_rfl
theorem args_iter1 (a : Value) : argsOk "iter" ⟨[a], []⟩ := by unfold argsOk; kernel_rfl
section
variable {prog : Program} {w : World} {A : Around} {E Q : Value → Shared → Prop} {s : Shared}
theorem call_iter {v : Value} (h : wpAny (model prog w) A.in1 (pyIter v) Q E s) : wpAny (model prog w) A (call (.builtin "iter") [v]) Q E s := by
  refine call_function_entry (by decide +kernel) (by decide +kernel) kdk_entry_iter (kdk_args_iter _) ?_
  unfold Builtin.«iter»
  refine wpAny_bind (m := someArgs "iter" 1 2 _) (wpAny_of_eq (a := [v]) (by first | rfl | kernel_rfl!) ?_)
  show wpAny _ _ (pyIter v >>= _) _ _ _
  exact wpAny_bind (wpAny_mono h (fun x s' hx => wpAny_pure ⟨_, rfl, hx⟩) fun _ _ x => x)
theorem len_raises {I RA : Addr} {oI : Obj} {j : Nat} (hA : A.handled = none) (eI : s.heap.get? I = some oI) (cI : IsLi oI RA j) (h : ∀ h' tk e, Heap.NewExc s.heap h' e "TypeError" → E (.ref e) { s with heap := h', toks := tk }) :
    wpAny (model prog w) A (call (.builtin "len") [.ref I]) Q E s := by
  have hT : s.TypeIs (.ref I) "list_iterator" := ⟨oI, eI, cI.1⟩
  refine call_function_entry kind_len plain_len entry_len (args_len1 _) ?_
  unfold Builtin.«len»
  refine wpAny_bind (m := oneArg "len" _) (wpAny_of_eq (a := Value.ref I) (by first | rfl | kernel_rfl!) ?_)
  refine wpAny_bind (wpAny_callSpecial?_none hT li_no_len ?_)
  dsimp only
  refine wpAny_bind (wpAny_rule ?_)
  refine wpAny_bind (wpAny_typeNameOf' hT (by decide) ?_)
  have e : shownName "list_iterator" = "list_iterator" := by unfold shownName; rw [find?_eq_fast]; kernel_rfl
  rw [e]
  exact wpAny_raiseTypeError hA h
end
section
variable {prog : Program} {w : World} {A A₀ : Around} {s : Shared} {env : Env} {outer : List Env} {L e : Addr} {h : Heap} {fs : List Addr}
theorem note_c {E : Value → Shared → Prop} {Q : Unit → Shared → Prop} (hfr : A.frames = some (env :: outer)) (hf : env.frame = some L) (hl : h.FunFrames (hideAll h fs) (env :: outer)) (hx : Heap.NewExc h s.heap e "TypeError")
    (k : ∀ h' a0, (hideAll h fs).StaysIn h' → h'.FunFrames (hideAll h fs) (env :: outer) → h'.TracedAtW (hideAll h fs) e (.type "TypeError") a0 (rawInt L) → h.UpToSlots h' → Q () { s with heap := h' }) :
    wpAny (model prog w) A (noteFrame (.ref e) env) Q E s := by
  refine oEEAA hx.there fun ob tp he hcls hd => ?_
  have hB : (hideAll h fs).StaysIn s.heap := fun b o q => hx.keeps b o (of_hideAll _ q)
  have hen : (hideAll h fs).get? e = none := by
    cases q : (hideAll h fs).get? e with
    | none => rfl
    | some o => have := of_hideAll _ q; rw [hx.new] at this; cases this
  unfold noteFrame
  simp only [hf]
  refine wpAny_bind (wpAny_field he hd (x := .none) rfl ?_)
  rw [if_neg (by decide)]
  refine wpAny_entryW (a0 := tp) hfr (hl.of_keeps fun b o hb _ => ⟨o, hx.keeps b o hb, rfl⟩) hf he hB hen hd (by show 1 < 6; decide) rfl fun h' hN => ?_
  refine oAAA hN fun k1 k2 k3 k4 => ?_; (try clear hN)
  rw [hcls] at k3
  exact k h' tp k1 k2 k3 fun b o hb hn => k4 b o (hx.keeps b o hb) hn
theorem catch_c {t : Expr} {b₀ : Stmt} {suite : List Stmt} {pos : Pos} {Q : Flow → Shared → Prop} {E : Value → Shared → Prop} (X : (hd.heap_1 w.params).In (hideAll h fs)) (hfr : A₀.frames = some outer) (hf : env.frame = some L) (hl : h.FunFrames (hideAll h fs) (env :: outer)) (hx : Heap.NewExc h s.heap e "TypeError")
    (hnf : ∀ b o, b ∈ fs → h.get? b = some o → ∀ vs, o.data ≠ .fields vs)
    (htest : ∀ (h₂ : Heap) (Q' E' : Value → Shared → Prop), SK fs h h₂ → (∀ tp h₃, (∀ b o, h₂.get? b = some o → h₃.get? b = some o) → h₃.get? tp = some { cls := .type "tuple", data := .seq [Value.type "TypeError", .type "AttributeError"].toArray } → Q' (.ref tp) { s with heap := h₃ }) →
      wpAny (model prog w) ((A₀.deeper env).mark (some (.ref e))) (eval t env) Q' E' { s with heap := h₂ })
    (hq : ∀ (h' : Heap) (E' : Value → Shared → Prop), SK fs h h' → wpAny (model prog w) ((A₀.deeper env).mark (some (.ref e))) (execs (b₀ :: suite) env) Q E' { s with heap := h' }) :
    wpAny (model prog w) (A₀.deeper env) (noteFrame (.ref e) env) (fun _ s₂ => wpAny (model prog w) (A₀.deeper env) (setFlight (.ref e) none) (fun _ s₃ => wpAny (model prog w) (A₀.deeper env) (handleBy (.ref e) env [.ExceptHandler (some t) none (b₀ :: suite) pos]) Q E s₃) E s₂) E s := by
  refine note_c (Around.frames_deeper hfr) hf hl hx fun h2 a0 k1 k2 k3 k4 => ?_
  refine wpAny_setFlight_noneW k1 k2 k3 fun h3 j1 j2 j3 j4 => ?_
  have hen : (hideAll h fs).get? e = none := by
    cases q : (hideAll h fs).get? e with
    | none => rfl
    | some o => have := of_hideAll _ q; rw [hx.new] at this; cases this
  have u3 : h.UpToSlots h3 := fun b o hb hn => by
    refine oE (k4 b o hb hn) fun sl e2 => ?_
    exact ⟨sl, j4 b _ e2 hn⟩
  refine wpAny_handleBy_cons (codeAny_handlers_test (htest h3 _ _ (SK.of j1 u3 hnf) fun tp h4 hk ht => ?_)) (by intro q; cases q)
  have j1' : (hideAll h fs).StaysIn h4 := fun b o q => hk b o (j1 b o q)
  have fl4 : Heap.FlyingW (hideAll h fs) (env :: outer) e (.type "TypeError") a0 h4 := flying_keeps ⟨j1, hen, j2, j3⟩ hk
  refine oEA fl4.there fun oe he4 hc4 => ?_
  have LT : Looks (model prog w) h4 (typeOf (.ref e)) (.type "TypeError") := by
    rw [← hc4]; exact show Looks (model prog w) h4 (typeOf (.ref e)) oe.cls from (Looks.ld he4).andThen .now
  refine Looks.here (exm_tup2 (K := hd.heap_1 w.params) (b := true) (X.keeps j1') LT ht (by first | k_is | rfl | kernel_rfl | decide +kernel)) ?_
  simp only [if_true]
  refine codeAny_handlers_suite ?_
  refine lands_againW fl4 fun h5 fl5 u5 => ?_
  refine hq h5 _ (SK.of fl5.1 (fun b o hb hn => ?_) hnf)
  refine oE (u3 b o hb hn) fun sl e3 => ?_
  refine oE (u5 b _ (hk _ _ e3) hn) fun sl2 e5 => ?_
  exact ⟨sl2, e5⟩
end
end
-- part Glue
section
open PySem PySem.W PyProof.Rows PySem.Calls
set_option maxRecDepth 100000
set_option maxHeartbeats 4000000
/-! two sorted lists, one the beginning of the other -/
theorem take_unique {R : Nat → Nat → Prop} (ha : ∀ a b, R a b → ¬ R b a) : ∀ (l lS out : List Nat), lS.Pairwise R → l.Pairwise R → (out ++ l).Perm lS → (∀ x ∈ out, ∀ y ∈ l, R y x) → lS.take l.length = l
  | [], lS, out, _, _, _, _ => by simp
  | b :: r, lS, out, hS, hl, hp, ho => by
    cases lS with
    | nil =>
      have := hp.length_eq
      simp at this
    | cons a lS' =>
      have hb : b ∈ a :: lS' := hp.mem_iff.mp (by simp)
      have hab : a = b := by
        rcases List.mem_cons.mp hb with e | e
        · exact e.symm
        · have h1 := (List.pairwise_cons.mp hS).1 b e
          have ham : a ∈ out ++ b :: r := hp.mem_iff.mpr (by simp)
          rcases List.mem_append.mp ham with q | q
          · exact absurd (ho a q b (by simp)) (ha _ _ h1)
          · rcases List.mem_cons.mp q with e2 | e2
            · exact e2
            · exact absurd ((List.pairwise_cons.mp hl).1 a e2) (ha _ _ h1)
      subst hab
      have hp' : (out ++ r).Perm lS' := by
        have : (a :: (out ++ r)).Perm (a :: lS') := (List.perm_middle.symm).trans hp
        exact List.Perm.cons_inv this
      rw [List.length_cons, List.take_succ_cons, take_unique ha r lS' out (List.pairwise_cons.mp hS).2 (List.pairwise_cons.mp hl).2 hp' fun x hx y hy => ho x hx y (by simp [hy])]
theorem sort_unique {R : Nat → Nat → Prop} (ha : ∀ a b, R a b → ¬ R b a) {l lS : List Nat} (hS : lS.Pairwise R) (hl : l.Pairwise R) (hp : l.Perm lS) : lS = l := by
  have := take_unique ha l lS [] hS hl (by first | exact nin1 (hp) | exact nin2 (hp) | exact allc (hp) alln | simpa using hp) (fun x hx => nomatch hx)
  rw [hp.length_eq, List.take_length] at this
  exact this
theorem slt_asymm {lt : Nat → Nat → Bool} (ho : SWO lt) : ∀ a b, slt lt a b → ¬ slt lt b a := fun a b h1 h2 => by
  rcases h1 with h1 | ⟨h1, h1'⟩
  · have := slt_nlt ho h2; rw [h1] at this; cases this
  · rcases h2 with h2 | ⟨h2, h2'⟩
    · rw [h1] at h2; cases h2
    · lia
theorem slt_total {lt : Nat → Nat → Bool} (ho : SWO lt) {a b : Nat} (hab : a ≠ b) (h : ¬ slt lt a b) : slt lt b a := by
  unfold slt at *
  cases q : lt b a with
  | true => exact .inl rfl
  | false =>
    cases q2 : lt a b with
    | true => exact absurd (.inl q2) h
    | false => exact .inr ⟨rfl, by
      rcases Nat.lt_or_gt_of_ne hab with h1 | h1
      · exact absurd (.inr ⟨q, h1⟩) h
      · exact h1⟩
/-! put in before the first that it goes before: the order -/
theorem insAt_sorted {bef : Nat → Nat → Bool} (ho : SWO bef) (x : Nat) : ∀ l : List Nat, (∀ y ∈ l, y < x) → l.Pairwise (slt bef) → (insAt bef x l).Pairwise (slt bef)
  | [], _, _ => List.pairwise_singleton _ _
  | y :: ys, hx, h => by
    unfold insAt
    split
    · rename_i hb
      refine List.pairwise_cons.mpr ⟨fun z hz => ?_, h⟩
      rcases List.mem_cons.mp hz with e | e
      · rw [e]; exact .inl hb
      · exact slt_trans ho (.inl hb) ((List.pairwise_cons.mp h).1 z e)
    · rename_i hb
      have hb' : bef x y = false := by simpa using hb
      refine List.pairwise_cons.mpr ⟨fun z hz => ?_, insAt_sorted ho x ys (fun z hz => hx z (by simp [hz])) (List.pairwise_cons.mp h).2⟩
      rcases List.mem_cons.mp ((insAt_perm bef x ys).mem_iff.mp hz) with e | e
      · rw [e]; exact .inr ⟨hb', hx y (by simp)⟩
      · exact (List.pairwise_cons.mp h).1 z e
theorem ordP_sorted {bef : Nat → Nat → Bool} (ho : SWO bef) : ∀ n : Nat, (ordP bef n).Pairwise (slt bef)
  | 0 => List.Pairwise.nil
  | n + 1 => by
    rw [ordP_succ]
    exact insAt_sorted ho n _ (fun y hy => List.mem_range.mp ((ordP_perm bef n).mem_iff.mp hy)) (ordP_sorted ho n)
/-! the order by whole numbers, one after another -/
noncomputable def lexv (v : Nat → Nat → Int) : List Nat → Nat → Nat → Bool
  | [], _, _ => false
  | p :: r, i, j => if v i p = v j p then lexv v r i j else decide (v i p < v j p)
theorem lexv_asymm (v : Nat → Nat → Int) : ∀ (pk : List Nat) (i j : Nat), lexv v pk i j = true → lexv v pk j i = false
  | [], i, j, h => by cases h
  | p :: r, i, j, h => by
    unfold lexv at h ⊢
    by_cases e : v i p = v j p
    · rw [if_pos e] at h; rw [if_pos e.symm]; exact lexv_asymm v r i j h
    · rw [if_neg e] at h; rw [if_neg (fun q => e q.symm)]
      have := of_decide_eq_true h
      exact decide_eq_false (by lia)
theorem lexv_neg (v : Nat → Nat → Int) : ∀ (pk : List Nat) (i j k : Nat), lexv v pk i k = true → lexv v pk i j = true ∨ lexv v pk j k = true
  | [], i, j, k, h => by cases h
  | p :: r, i, j, k, h => by
    unfold lexv at h ⊢
    by_cases e1 : v i p = v j p
    · rw [if_pos e1]
      by_cases e2 : v j p = v k p
      · rw [if_pos (e1.trans e2)] at h
        rw [if_pos e2]; exact lexv_neg v r i j k h
      · rw [if_neg (fun q => e2 (e1.symm.trans q))] at h
        rw [if_neg e2]
        have := of_decide_eq_true h
        exact .inr (decide_eq_true (by lia))
    · rw [if_neg e1]
      by_cases q : v i p < v j p
      · exact .inl (decide_eq_true q)
      · by_cases e2 : v i p = v k p
        · rw [if_neg (fun q2 => e1 (e2.trans q2.symm))]
          exact .inr (decide_eq_true (by lia))
        · rw [if_neg e2] at h
          have := of_decide_eq_true h
          rw [if_neg (by lia)]
          exact .inr (decide_eq_true (by lia))
theorem lexv_swo (v : Nat → Nat → Int) (pk : List Nat) : SWO (lexv v pk) := ⟨lexv_asymm v pk, lexv_neg v pk⟩
theorem lexv_total (v : Nat → Nat → Int) : ∀ (pk : List Nat) (i j : Nat), lexv v pk i j = false → lexv v pk j i = false → ∀ p ∈ pk, v i p = v j p
  | [], _, _, _, _ => fun p hp => nomatch hp
  | q :: r, i, j, h1, h2 => by
    unfold lexv at h1 h2
    by_cases e : v i q = v j q
    · rw [if_pos e] at h1; rw [if_pos e.symm] at h2
      intro p hp
      rcases List.mem_cons.mp hp with rfl | hp
      · exact e
      · exact lexv_total v r i j h1 h2 p hp
    · rw [if_neg e] at h1; rw [if_neg (fun x => e x.symm)] at h2
      have := of_decide_eq_false h1
      have := of_decide_eq_false h2
      lia
theorem lexv_eq (v : Nat → Nat → Int) : ∀ (pk : List Nat) (i j : Nat), (∀ p ∈ pk, v i p = v j p) → lexv v pk i j = false
  | [], _, _, _ => rfl
  | q :: r, i, j, h => by
    unfold lexv
    rw [if_pos (h q (by simp))]
    exact lexv_eq v r i j fun p hp => h p (by simp [hp])
theorem range_map2 {β : Type} (F : UInt64 → UInt64 → β) (f g : Nat → UInt64) (pk : List Nat) : ((List.range (pk.map f).length).map fun j => F ((pk.map f).getD j 0) ((pk.map g).getD j 0)) = pk.map fun p => F (f p) (g p) := by
  apply List.ext_getElem
  · simp
  · intro i h1 h2
    have hi : i < pk.length := by simpa using h2
    simp [hi]
theorem lex_map {v : Nat → Nat → Int} {i j : Nat} {e c : Nat → Bool} : ∀ (pk : List Nat), (∀ p ∈ pk, e p = decide (v i p = v j p) ∧ c p = decide (v i p < v j p)) → lex (pk.map fun p => (e p, c p)) = lexv v pk i j
  | [], _ => rfl
  | p :: r, h => by
    refine oA (h p (by simp)) fun h1 h2 => ?_
    rw [List.map_cons, lex, lexv, h1, h2, lex_map r fun q hq => h q (by simp [hq])]
    by_cases e : v i p = v j p
    · simp [e]
    · simp [e]
theorem aheadP_map {v : Nat → Nat → Int} {i j : Nat} {F G : Nat → Int × Int} : ∀ (pk : List Nat), (∀ p ∈ pk, ((F p).1 * (G p).2 = (G p).1 * (F p).2 ↔ v i p = v j p) ∧ ((F p).1 * (G p).2 < (G p).1 * (F p).2 ↔ v i p < v j p)) → aheadP (pk.map F) (pk.map G) = lexv v pk i j
  | [], _ => rfl
  | p :: r, h => by
    refine oA (h p (by simp)) fun h1 h2 => ?_
    rw [List.map_cons, List.map_cons, aheadP, lexv, aheadP_map r fun q hq => h q (by simp [hq])]
    by_cases e : v i p = v j p
    · rw [if_neg (fun q => q (h1.mpr e)), if_pos e]
    · rw [if_pos (fun q => e (h1.mp q)), if_neg e]
      exact decide_eq_decide.mpr h2
/-! the rows -/
theorem fgt_val {x y : UInt64} (fx : Fn x) (fy : Fn y) : fgt x y = decide (PySem.Float64.val y < PySem.Float64.val x) := by
  refine oEEE fx.dec fun a m e hd => ?_
  refine oEEE fy.dec fun b k f hd' => ?_
  unfold fgt
  rw [PySem.Float64.cmp_right hd hd']
  rcases Int.lt_trichotomy (PySem.Float64.val x) (PySem.Float64.val y) with q | q | q
  · rw [Int.compare_eq_lt.mpr q]; simp; lia
  · rw [q]; simp
  · rw [Int.compare_eq_gt.mpr q]; simp; omega
section
variable {top : Nat} {R : Nat → Nat × Nat × Nat}
noncomputable def prt (top : Nat) (R : Nat → Nat × Nat × Nat) (i p : Nat) : UInt64 := partOf top (R i).1 (R i).2.1 (R i).2.2 p
noncomputable def frc (top : Nat) (R : Nat → Nat × Nat × Nat) (i p : Nat) : Int × Int := prOf top (R i).1 (R i).2.1 (R i).2.2 p
noncomputable def pv (top : Nat) (R : Nat → Nat × Nat × Nat) (i p : Nat) : Int := PySem.Float64.val (prt top R i p)
noncomputable def RowsIn (top : Nat) (R : Nat → Nat × Nat × Nat) : Prop := ∀ i, (R i).1 ≤ top ∧ (R i).2.1 ≤ top ∧ (R i).2.2 ≤ top
theorem prt_nr (h0 : 0 < top) (h1 : top ≤ 256) (hR : RowsIn top R) (i p : Nat) : Nr (prt top R i p) (frc top R i p).1 (frc top R i p).2 3 ∧ 0 < (frc top R i p).2 ∧ (frc top R i p).2 ≤ 1536 := by
  refine oAA (hR i) fun a b c => ?_
  unfold prt frc partOf prOf
  by_cases e0 : p = 0
  · rw [if_pos e0, if_pos e0]
    exact hue_nr (by unfold wd3 mx3 mn3; lia)
  · rw [if_neg e0, if_neg e0]
    by_cases e1 : p = 1
    · rw [if_pos e1, if_pos e1]; exact lig_nr h0 h1 a b c
    · rw [if_neg e1, if_neg e1]; exact sat_nr h1 a b c
theorem prt_same (h0 : 0 < top) (hR : RowsIn top R) {i j p : Nat} (h : (frc top R i p).1 * (frc top R j p).2 = (frc top R j p).1 * (frc top R i p).2) : prt top R i p = prt top R j p := by
  refine oAA (hR i) fun a b c => ?_
  refine oAA (hR j) fun a' b' c' => ?_
  unfold prt frc partOf prOf at *
  by_cases e0 : p = 0
  · simp only [if_pos e0] at h ⊢
    exact hue_same h
  · simp only [if_neg e0] at h ⊢
    by_cases e1 : p = 1
    · simp only [if_pos e1] at h ⊢; exact lig_same h0 h
    · simp only [if_neg e1] at h ⊢; exact sat_same a b c a' b' c' h
theorem prt_fn (h0 : 0 < top) (h1 : top ≤ 256) (hR : RowsIn top R) (i p : Nat) : Fn (prt top R i p) := (prt_nr h0 h1 hR i p).1.1
theorem frc_cmp (h0 : 0 < top) (h1 : top ≤ 256) (hR : RowsIn top R) (i j p : Nat) : ((frc top R i p).1 * (frc top R j p).2 = (frc top R j p).1 * (frc top R i p).2 ↔ pv top R i p = pv top R j p) ∧ ((frc top R i p).1 * (frc top R j p).2 < (frc top R j p).1 * (frc top R i p).2 ↔ pv top R i p < pv top R j p) := by
  refine oAA (prt_nr h0 h1 hR i p) fun a1 a2 a3 => ?_
  refine oAA (prt_nr h0 h1 hR j p) fun b1 b2 b3 => ?_
  refine oA (nr_cmp a1 b1 a2 a3 b2 b3 (prt_same h0 hR)) fun c1 c2 => ?_
  refine oA (cmp_val a1.1 b1.1) fun d1 d2 => ?_
  rw [d1] at c1; rw [d2] at c2
  exact ⟨(decide_eq_decide.mp c1).symm, (decide_eq_decide.mp c2).symm⟩
noncomputable def kbOf (top : Nat) (R : Nat → Nat × Nat × Nat) (pk : List Nat) (i : Nat) : List UInt64 := pk.map (prt top R i)
noncomputable def ltOf (top : Nat) (R : Nat → Nat × Nat × Nat) (pk : List Nat) : Nat → Nat → Bool := lexv (pv top R) pk
theorem kLt_eq (h0 : 0 < top) (h1 : top ≤ 256) (hR : RowsIn top R) (pk : List Nat) (i j : Nat) : kLt (kbOf top R pk i) (kbOf top R pk j) = ltOf top R pk i j := by
  unfold kLt kbOf ltOf
  rw [range_map2 (fun a b => (feq a b, flt a b))]
  exact lex_map pk fun p _ => cmp_val (prt_fn h0 h1 hR i p) (prt_fn h0 h1 hR j p)
theorem kGt_eq (h0 : 0 < top) (h1 : top ≤ 256) (hR : RowsIn top R) (pk : List Nat) (i j : Nat) : kGt (kbOf top R pk i) (kbOf top R pk j) = ltOf top R pk j i := by
  unfold kGt kbOf ltOf
  rw [range_map2 (fun a b => (feq a b, fgt a b))]
  refine lex_map pk fun p _ => ⟨?_, fgt_val (prt_fn h0 h1 hR i p) (prt_fn h0 h1 hR j p)⟩
  rw [(cmp_val (prt_fn h0 h1 hR i p) (prt_fn h0 h1 hR j p)).1]
  exact decide_eq_decide.mpr ⟨Eq.symm, Eq.symm⟩
theorem kEq_eq (h0 : 0 < top) (h1 : top ≤ 256) (hR : RowsIn top R) (pk : List Nat) (i j : Nat) : kEq (kbOf top R pk i) (kbOf top R pk j) = true ↔ ∀ p ∈ pk, pv top R i p = pv top R j p := by
  have e : kEq (kbOf top R pk i) (kbOf top R pk j) = (pk.map fun p => feq (prt top R i p) (prt top R j p)).all id := by
    unfold kEq kbOf
    rw [← range_map2 feq, List.all_map]
    rfl
  rw [e, List.all_map, List.all_eq_true]
  constructor
  · intro h p hp
    have := h p hp
    simp only [Function.comp, id] at this
    rw [(cmp_val (prt_fn h0 h1 hR i p) (prt_fn h0 h1 hR j p)).1] at this
    exact of_decide_eq_true this
  · intro h p hp
    simp only [Function.comp, id]
    rw [(cmp_val (prt_fn h0 h1 hR i p) (prt_fn h0 h1 hR j p)).1]
    exact decide_eq_true (h p hp)
theorem ltOf_swo : SWO (ltOf top R pk) := lexv_swo _ _
theorem aheadP_eq (h0 : 0 < top) (h1 : top ≤ 256) (hR : RowsIn top R) (pk : List Nat) (i j : Nat) : aheadP (pk.map (frc top R i)) (pk.map (frc top R j)) = ltOf top R pk i j :=
  aheadP_map pk fun p _ => frc_cmp h0 h1 hR i j p
theorem rlt_true (h0 : 0 < top) (h1 : top ≤ 256) (hR : RowsIn top R) (pk : List Nat) (i j : Nat) : rlt true (kbOf top R pk) i j = true ↔ slt (ltOf top R pk) i j := by
  unfold rlt slt
  by_cases e : kEq (kbOf top R pk i) (kbOf top R pk j) = true
  · have h := (kEq_eq h0 h1 hR pk i j).mp e
    have l1 : ltOf top R pk i j = false := lexv_eq _ _ _ _ h
    have l2 : ltOf top R pk j i = false := lexv_eq _ _ _ _ fun p hp => (h p hp).symm
    rw [if_pos e, l1, l2]; simp
  · rw [if_neg e, kLt_eq h0 h1 hR]
    constructor
    · exact .inl
    · rintro (h | ⟨h, _⟩)
      · exact h
      · cases q : ltOf top R pk i j with
        | true => rfl
        | false => exact absurd ((kEq_eq h0 h1 hR pk i j).mpr (lexv_total _ _ _ _ q h)) e
theorem rlt_false (h0 : 0 < top) (h1 : top ≤ 256) (hR : RowsIn top R) (pk : List Nat) (i j : Nat) : rlt false (kbOf top R pk) i j = true ↔ slt (dirLt true (ltOf top R pk)) j i := by
  unfold rlt slt dirLt
  simp only [if_true]
  by_cases e : kEq (kbOf top R pk i) (kbOf top R pk j) = true
  · have h := (kEq_eq h0 h1 hR pk i j).mp e
    have l1 : ltOf top R pk i j = false := lexv_eq _ _ _ _ h
    have l2 : ltOf top R pk j i = false := lexv_eq _ _ _ _ fun p hp => (h p hp).symm
    rw [if_pos e, l1, l2]; simp
  · rw [if_neg e, kLt_eq h0 h1 hR]
    constructor
    · exact .inl
    · rintro (h | ⟨h, _⟩)
      · exact h
      · cases q : ltOf top R pk i j with
        | true => rfl
        | false => exact absurd ((kEq_eq h0 h1 hR pk i j).mpr (lexv_total _ _ _ _ q h)) e
end
theorem slt_swo {r lt : Nat → Nat → Bool} (ho : SWO lt) (h : ∀ i j, r i j = true ↔ slt lt i j) : SWO r := by
  refine ⟨fun a b e => ?_, fun a b c e => ?_⟩
  · cases q : r b a with
    | false => rfl
    | true => exact absurd ((h b a).mp q) (slt_asymm ho _ _ ((h a b).mp e))
  · have h1 := (h a c).mp e
    rcases Decidable.em (r a b = true) with q | q
    · exact .inl q
    · right
      rw [h]
      by_cases hab : a = b
      · rw [← hab]; exact h1
      · exact slt_trans ho (slt_total ho hab (fun x => q ((h a b).mpr x))) h1
section
variable {top : Nat} {R : Nat → Nat × Nat × Nat}
theorem rlt_swo (h0 : 0 < top) (h1 : top ≤ 256) (hR : RowsIn top R) (pk : List Nat) : SWO (rlt true (kbOf top R pk)) := slt_swo ltOf_swo (rlt_true h0 h1 hR pk)
theorem rltF_swo (h0 : 0 < top) (h1 : top ≤ 256) (hR : RowsIn top R) (pk : List Nat) : SWO (rlt false (kbOf top R pk)) := by
  have : SWO (fun i j => rlt false (kbOf top R pk) j i) := slt_swo (dirLt_swo (b := true) ltOf_swo) fun i j => rlt_false h0 h1 hR pk j i
  exact this.flip
end
end
-- part SortL
section
open PySem PySem.W PyProof.Rows PySem.Calls PySem.SeqAt
set_option maxRecDepth 100000
set_option maxHeartbeats 4000000
section
variable {prog : Program} {w : World} {A : Around} {s : Shared} {E : Value → Shared → Prop} {G : PM} {v v' : Value} {k k' : Key}
theorem oneLt_lists {l b : Addr} {items items2 : Array Value} {e c : Nat → Bool} {Q : Bool → Shared → Prop} (hl : s.heap.IsList l items) (hb : s.heap.IsList b items2) (hsz : items.size = items2.size) (hu : A.units < cLine)
    (he : ∀ j (h1 : j < items.size) (h2 : j < items2.size), EqAt A.in1 s items[j] items2[j] (e j)) (hc : ∀ j (h1 : j < items.size) (h2 : j < items2.size), LtAt A.in1 s items[j] items2[j] (c j))
    (h : Q (lex ((List.range items.size).map fun j => (e j, c j))) s) : wpAny (model prog w) A (oneLt' true (.ref l) (.ref b)) Q E s := by
  refine oEAAE (id hl) fun q1047z0 ho hcl n hd => ?_; obtain ⟨cls, dd, data, sl⟩ := q1047z0
  refine oEAAE (id hb) fun q1111z0 ho2 hc2 n2 hd2 => ?_; obtain ⟨cls2, dd2, data2, sl2⟩ := q1111z0
  simp only at hcl hd hc2 hd2
  subst hcl hd hc2 hd2
  rw [oneLt'_eq]
  simp only [if_true]
  refine wpAny_bind (wpAny_cRoomFor hu ?_)
  have slot : Slot "list" "__lt__" "list.__lt__" := F.slot_list_lt
  refine wpAny_bind (wpAny_callSpecialIfBound?_slot ⟨_, ho, rfl⟩ slot (call_meets slot ⟨_, ho, rfl⟩ F.entry_list_lt (F.args_list_lt_2 _ _) (list_ltAt l b items items2 n n2 dd dd2 sl sl2 hsz e c)
    ⟨ho, ho2, he, hc, ?_⟩))
  exact wpAny_truthy_bool h
theorem oneLt_key {Q : Bool → Shared → Prop} (hG : Sub G s.heap.get?) (hS : Stat G) (h1 : KeyAt G v k) (h2 : KeyAt G v' k') (hk : KOk k) (hk' : KOk k') (hc : Compat k k') (hl : k.length = k'.length) (hu : A.units + 10 < cLine) (h : Q (kLt (bits k) (bits k')) s) :
    wpAny (model prog w) A (oneLt' true v v') Q E s := by
  refine oEEA h1 fun a n q1973z2 g1 => ?_; (try clear h1); obtain rfl := q1973z2
  refine oEEA h2 fun b n' q2008z2 g2 => ?_; (try clear h2); obtain rfl := q2008z2
  refine oneLt_lists (PySem.IsL.isList (n := n) (hG _ _ g1)) (PySem.IsL.isList (n := n') (hG _ _ g2)) (by rw [kvals_size, kvals_size, hl]) (by lia) (key_items_eq hk hk' hc (booked hS hG)) key_items_lt ?_
  rw [kvals_size]
  unfold kLt at h
  simpa [bits] using h
theorem katLex_same {Q : Bool → Shared → Prop} {b fin : Bool} (h : Q fin s) : ∀ (l : List Value) (i : Nat), KatLex prog w A b fin Q (l.zip l) i s
  | [], i => kat_nil h
  | x :: r, i => kat_cons (EqAt.same x prog w _ _ (kat_yes (katLex_same h r (i + 1))))
theorem keyLt_same {Q : Bool → Shared → Prop} {a : Addr} {xs : Array Value} {n : Nat} {b : Bool} (g : s.heap.get? a = some { cls := .type "tuple", data := .seq xs n }) (h : Q false s) : wpAny (model prog w) A (keyLt' (tuples' b) (.ref a) (.ref a)) Q E s := by
  refine kat_lt g rfl g rfl ?_
  rw [show decide (xs.size < xs.size) = false by simp]
  exact katLex_same h _ 0
theorem keyLt_ent {Q : Bool → Shared → Prop} {o o' : Int} {r r' : List Value} (hG : Sub G s.heap.get?) (hS : Stat G) (h1 : EntAt G v k o r) (h2 : EntAt G v' k' o' r') (hk : KOk k) (hk' : KOk k') (hc : Compat k k') (hl : k.length = k'.length) (ho : o ≠ o') (hu : A.units + 20 < cLine)
    (h : Q (entLt k o k' o') s) : wpAny (model prog w) A (keyLt' (tuples' true) v v') Q E s := by
  refine oEEEEAA h1 fun a n kv t q3334z4 g hkv => ?_; (try clear h1); obtain rfl := q3334z4
  refine oEEEEAA h2 fun a' n' kv' t' q3380z4 g' hkv' => ?_; (try clear h2); obtain rfl := q3380z4
  refine kat_lt (hG _ _ g) rfl (hG _ _ g') rfl ?_
  show KatLex prog w A true _ Q ((kv, kv') :: (.int o t, .int o' t') :: r.zip r') 0 s
  refine kat_cons (eqKey hG hS hkv hkv' hk hk' hc hl (by lia) prog w _ _ ?_)
  unfold entLt at h
  cases e : kEq (bits k) (bits k') with
  | true =>
    rw [e] at h
    simp only [if_true] at h
    refine kat_yes (kat_cons (EqAt.int_int o t o' t' prog w _ _ ?_))
    rw [show (o == o') = false by simpa using ho]
    refine kat_no ?_
    rw [show (true && 0 + 1 == 0) = false from rfl]
    exact kat_one _ _ (lt_int h)
  | false =>
    rw [e] at h
    simp only [Bool.false_eq_true, if_false] at h
    exact kat_no (oneLt_key hG hS hkv hkv' hk hk' hc hl (by lia) h)
theorem katTups_of {h : Heap} {f : Nat → Value} {fs : Nat → Value} : ∀ (l : List Nat), (∀ i ∈ l, ∃ a n r, f i = .ref a ∧ h.get? a = some { cls := .type "tuple", data := .seq (fs i :: r).toArray n }) → KatTups h (l.map f) (l.map fs)
  | [], _ => KatTups.nil
  | i :: l, hl => by
    refine oEEEA (hl i (by simp)) fun a n r e g => ?_
    rw [List.map_cons, List.map_cons, e]
    exact KatTups.cons g rfl rfl (by simp) (katTups_of l fun j hj => hl j (by simp [hj]))
end
section
variable {prog : Program} {w : World} {A : Around} {s : Shared} {E : Value → Shared → Prop} {Q : Value → Shared → Prop}
variable {h₀ : PM} {tk : Nat} {kb : Nat → List UInt64} {dir : Bool} {c d : Nat} {f : Nat → Value} {ks : Nat → Key} {os : Nat → Int} {rest : Nat → List Value} {l : List Nat}
theorem Ents.kinds {h : Heap} (e : Ents h₀ tk kb dir c d f ks os rest l) (hG : Sub h₀ h.get?) (hl : 0 < l.length) {Q : SortKind → Shared → Prop} (hq : Q (tuples' true) { s with heap := h }) : wpAny (model prog w) A (keyKind' (l.map f).toArray) Q E { s with heap := h } := by
  refine oE (by
    have : ∀ i, ∃ fv : Value, i ∈ l → ∃ a n r kc kn, f i = .ref a ∧ h.get? a = some { cls := .type "tuple", data := .seq (fv :: r).toArray n } ∧ fv = .ref kc ∧ h.get? kc = some (listOf (kvals (ks i)).toArray kn) := by
      intro i
      by_cases hi : i ∈ l
      · obtain ⟨a, n, kv, t, e1, g1, kc, kn, e2, g2⟩ := e.ent i hi
        exact ⟨kv, fun _ => ⟨a, n, _, kc, kn, e1, hG _ _ g1, e2, hG _ _ g2⟩⟩
      · exact ⟨.none, fun q => absurd q hi⟩
    exact Classical.skolem.mp this : ∃ fs : Nat → Value, ∀ i ∈ l, ∃ a n r kc kn, f i = .ref a ∧ h.get? a = some { cls := .type "tuple", data := .seq (fs i :: r).toArray n } ∧ fs i = .ref kc ∧ h.get? kc = some (listOf (kvals (ks i)).toArray kn)) fun fs hfs => ?_
  refine kat_kind (fs := l.map fs) (T := .type "list") (katTups_of l fun i hi => ?_) (by first | exact nin1 (hl) | exact nin2 (hl) | exact allc (hl) alln | simpa using hl) ?_ (by decide) hq
  · refine oEEEEEAAA (hfs i hi) fun a n r kc kn e1 g1 _ _ => ?_
    exact ⟨a, n, r, e1, g1⟩
  · intro v hv
    refine oEA (List.mem_map.mp hv) fun i hi q6288z2 => ?_; obtain rfl := q6288z2
    refine oEEEEEAAA (hfs i hi) fun a n r kc kn _ _ e2 g2 => ?_
    rw [e2]
    exact show Looks (model prog w) h (typeOf (.ref kc)) (listOf (kvals (ks i)).toArray kn).cls from (Looks.ld g2).andThen .now
theorem Ents.less {h : Heap} (e : Ents h₀ tk kb dir c d f ks os rest l) (hG : Sub h₀ h.get?) (hS : Stat h₀) (hnd : l.Nodup) {i j : Nat} (hi : i < l.length) (hj : j < l.length) (hu : A.units + 20 < cLine) {Q : Bool → Shared → Prop} (hq : Q (rlt dir kb l[i] l[j]) { s with heap := h }) :
    wpAny (model prog w) A (keyLt' (tuples' true) ((l.map f).getD i .none) ((l.map f).getD j .none)) Q E { s with heap := h } := by
  have ei : (l.map f).getD i .none = f l[i] := by simp [hi]
  have ej : (l.map f).getD j .none = f l[j] := by simp [hj]
  rw [ei, ej]
  have mi := List.getElem_mem hi
  have mj := List.getElem_mem hj
  generalize l[i] = x at *
  generalize l[j] = y at *
  refine oAAAA (e.ok x mi) fun a1 b1 _ d1 e1 => ?_
  refine oAAAA (e.ok y mj) fun a2 b2 _ d2 e2 => ?_
  by_cases hij : x = y
  · subst hij
    have : rlt dir kb x x = false := by
      unfold rlt
      rw [← b1, kEq_self a1]
      cases dir <;> simp
    rw [this] at hq
    refine oEEEEAA (e.ent x mi) fun a n kv t ev g _ => ?_
    rw [ev]
    exact keyLt_same (hG _ _ g) hq
  · have hc := e.compat x mi y mj hij
    have ho : os x ≠ os y ∧ (decide (os x < os y) = if dir then decide (x < y) else decide (y < x)) := by
      rcases Nat.lt_or_gt_of_ne hij with q | q
      · have m := e.mono x mi y mj q
        cases dir
        · simp only [Bool.false_eq_true, if_false] at m ⊢
          exact ⟨by lia, by rw [decide_eq_false (by lia), decide_eq_false (by lia)]⟩
        · simp only [if_true] at m ⊢
          exact ⟨by lia, by rw [decide_eq_true m, decide_eq_true q]⟩
      · have m := e.mono y mj x mi q
        cases dir
        · simp only [Bool.false_eq_true, if_false] at m ⊢
          exact ⟨by lia, by rw [decide_eq_true m, decide_eq_true q]⟩
        · simp only [if_true] at m ⊢
          exact ⟨by lia, by rw [decide_eq_false (by lia), decide_eq_false (by lia)]⟩
    refine keyLt_ent hG hS (e.ent x mi) (e.ent y mj) a1 a2 hc (by rw [e1, e2]) ho.1 hu ?_
    unfold entLt
    rw [ho.2, b1, b2]
    exact hq
theorem order_map {n : Nat} {l pl : List Nat} (hn : l.length = n) (hp : pl.Perm (List.range n)) : (pl.map fun i => l.getD i 0).Perm l := by
  refine (hp.map _).trans ?_
  have : (List.range n).map (fun i => l.getD i 0) = l := by
    apply List.ext_getElem
    · simp [hn]
    · intro i h1 h2; simp [h2]
  rw [this]
theorem vals_map {f : Nat → Value} {l pl : List Nat} (hp : pl.Perm (List.range l.length)) : (pl.map fun i => (l.map f).getD i Value.none) = (pl.map fun i => l.getD i 0).map f := by
  rw [List.map_map]
  refine List.map_congr_left fun i hi => ?_
  have : i < l.length := List.mem_range.mp (hp.mem_iff.mp hi)
  simp [this]
theorem pair_map {r : Nat → Nat → Bool} {l pl : List Nat} (hp : pl.Perm (List.range l.length)) (hs : pl.Pairwise (slt fun i j => r (l.getD i 0) (l.getD j 0))) (ht : ∀ x ∈ l, ∀ y ∈ l, x ≠ y → r x y = false → r y x = true) (hnd : l.Nodup) : (pl.map fun i => l.getD i 0).Pairwise (fun x y => r x y = true) := by
  rw [List.pairwise_map]
  refine hs.imp_of_mem fun {a b} ha hb q => ?_
  have ha' : a < l.length := List.mem_range.mp (hp.mem_iff.mp ha)
  have hb' : b < l.length := List.mem_range.mp (hp.mem_iff.mp hb)
  have ea : l.getD a 0 = l[a] := by simp [ha']
  have eb : l.getD b 0 = l[b] := by simp [hb']
  rcases q with q | ⟨q, hab⟩
  · exact q
  · dsimp only at q
    rw [ea, eb] at q ⊢
    refine ht _ (List.getElem_mem hb') _ (List.getElem_mem ha') (fun e => ?_) q
    have := (List.getElem_inj hnd).mp e
    lia
theorem Ents.sort {h₁ : Heap} {a : Addr} {n : Nat} (e : Ents h₀ tk kb dir c d f ks os rest l) (hG : Sub h₀ s.heap.get?) (hS : Stat h₀) (hG0 : h₀ a = none) (swo : SWO (rlt dir kb)) (hnd : l.Nodup) (ho : s.heap.get? a = some (listOf (l.map f).toArray n)) (h2 : 2 ≤ l.length) (h64 : l.length < 64) (hu : A.units + 30 < cLine)
    (ht : ∀ x ∈ l, ∀ y ∈ l, x ≠ y → rlt dir kb x y = false → rlt dir kb y x = true)
    (hq : ∀ (h' : Heap) (c : Nat) (l' : List Nat), Keep [a] s.heap h' → h'.get? a = some (listOf (l'.map f).toArray c) → l'.Perm l → l'.Pairwise (fun x y => rlt dir kb x y = true) → Q .none { s with heap := h' }) :
    wpAny (model prog w) A (call (.builtin "list.sort") [.ref a]) Q E s := by
  have hsub : ∀ h', Keep [a] s.heap h' → Sub h₀ h'.get? := fun h' K b o q => K b o (by intro x; rw [List.mem_singleton.mp x, hG0] at q; cases q) (hG b o q)
  refine call_sort (lt := fun i j => rlt dir kb (l.getD i 0) (l.getD j 0)) (κ := tuples' true) ⟨fun x y => swo.asymm _ _, fun x y z => swo.neg _ _ _⟩ ho (by first | exact nin1 (h2) | exact nin2 (h2) | exact allc (h2) alln | simpa using h2) (by first | exact nin1 (h64) | exact nin2 (h64) | exact allc (h64) alln | simpa using h64) (fun h' Q' K q => e.kinds (hsub h' K) (by lia) q) (fun h' Q' i j K hi hj q => ?_) fun h' c' pl K eq hp hs => ?_
  · simp only [List.length_map] at hi hj
    exact e.less (hsub h' K) hS hnd hi hj (by show A.units + 1 + 20 < cLine; first | exact room3 hu (by decide) | lia) (by simpa [hi, hj] using q)
  · rw [List.length_map] at hp
    rw [vals_map hp] at eq
    exact hq h' c' _ K eq (order_map rfl hp) (pair_map hp hs ht hnd)
theorem Ents.sort_rev {h₁ : Heap} {a : Addr} {n : Nat} (e : Ents h₀ tk kb dir c d f ks os rest l) (hG : Sub h₀ s.heap.get?) (hS : Stat h₀) (hG0 : h₀ a = none) (swo : SWO (rlt dir kb)) (hnd : l.Nodup) (ho : s.heap.get? a = some (listOf (l.map f).toArray n)) (h2 : 2 ≤ l.length) (h64 : l.length < 64) (hu : A.units + 30 < cLine)
    (ht : ∀ x ∈ l, ∀ y ∈ l, x ≠ y → rlt dir kb x y = false → rlt dir kb y x = true)
    (hq : ∀ (h' : Heap) (c : Nat) (l' : List Nat), Keep [a] s.heap h' → h'.get? a = some (listOf (l'.map f).toArray c) → l'.Perm l → l'.Pairwise (fun x y => rlt dir kb y x = true) → Q .none { s with heap := h' }) :
    wpAny (model prog w) A (call (.builtin "list.sort") [.ref a] [(Str.ofString "reverse", .bool true)]) Q E s := by
  have hsub : ∀ h', Keep [a] s.heap h' → Sub h₀ h'.get? := fun h' K b o q => K b o (by intro x; rw [List.mem_singleton.mp x, hG0] at q; cases q) (hG b o q)
  refine call_sort_rev (lt := fun i j => rlt dir kb (l.getD i 0) (l.getD j 0)) (κ := tuples' true) ⟨fun x y => swo.asymm _ _, fun x y z => swo.neg _ _ _⟩ ho (by first | exact nin1 (h2) | exact nin2 (h2) | exact allc (h2) alln | simpa using h2) (by first | exact nin1 (h64) | exact nin2 (h64) | exact allc (h64) alln | simpa using h64) (fun h' Q' K q => e.kinds (hsub h' K) (by lia) q) (fun h' Q' i j K hi hj q => ?_) fun h' c' pl K eq hp hs => ?_
  · simp only [List.length_map] at hi hj
    exact e.less (hsub h' K) hS hnd hi hj (by show A.units + 1 + 20 < cLine; first | exact room3 hu (by decide) | lia) (by simpa [hi, hj] using q)
  · rw [List.length_map] at hp
    rw [vals_map hp] at eq
    exact hq h' c' _ K eq (order_map rfl hp) (pair_map (r := fun x y => rlt dir kb y x) hp hs (fun x hx y hy hne => ht y hy x hx hne.symm) hnd)
end
structure KeysOf (h : PM) (tk : Nat) (kb : Nat → List UInt64) (d : Nat) (ca : Nat → Addr) (kk : Nat → Key) (j : Nat) : Prop where
  there : ∀ i, i < j → ∃ n, h (ca i) = some (listOf (kvals (kk i)).toArray n)
  ok : ∀ i, i < j → KOk (kk i) ∧ bits (kk i) = kb i ∧ (∀ p ∈ kk i, p.2 < tk) ∧ (kk i).length = d
  compat : ∀ i, i < j → ∀ i', i' < j → i ≠ i' → Compat (kk i) (kk i')
theorem KeysOf.add {h h' : PM} {tk tk' : Nat} {kb : Nat → List UInt64} {d : Nat} {ca : Nat → Addr} {kk : Nat → Key} {j : Nat} (e : KeysOf h tk kb d ca kk j) (hs : Sub h h') (htk : tk ≤ tk') {a : Addr} {k : Key} {n : Nat} (ha : h' a = some (listOf (kvals k).toArray n)) (h1 : KOk k) (h2 : bits k = kb j) (h3 : ∀ p ∈ k, tk ≤ p.2 ∧ p.2 < tk') (h4 : k.length = d) :
    KeysOf h' tk' kb d (upd ca j a) (upd kk j k) (j + 1) := by
  have hne : ∀ i, i < j → i ≠ j := fun i => Nat.ne_of_lt
  have hlt : ∀ i, i < j + 1 → i ≠ j → i < j := fun i hi hn => by lia
  refine ⟨fun i hi => ?_, fun i hi => ?_, fun i hi i' hi' hn => ?_⟩
  · by_cases q : i = j
    · subst q; rw [upd_same, upd_same]; exact ⟨n, ha⟩
    · rw [upd_ne _ _ q, upd_ne _ _ q]
      refine oE (e.there i (hlt i hi q)) fun n' g => ?_
      exact ⟨n', hs _ _ g⟩
  · by_cases q : i = j
    · subst q; rw [upd_same]; exact ⟨h1, h2, fun p hp => (h3 p hp).2, h4⟩
    · rw [upd_ne _ _ q]
      refine oAAA (e.ok i (hlt i hi q)) fun a b c g => ?_
      exact ⟨a, b, fun p hp => Nat.lt_of_lt_of_le (c p hp) htk, g⟩
  · by_cases q : i = j <;> by_cases q' : i' = j
    · exact absurd (q.trans q'.symm) hn
    · subst q; rw [upd_same, upd_ne _ _ q']
      intro x hx y hy hxy
      have l1 := (h3 x hx).1
      have l2 := (e.ok i' (hlt i' hi' q')).2.2.1 y hy
      rw [hxy] at l1
      exact absurd l2 (Nat.not_lt.mpr l1)
    · subst q'; rw [upd_same, upd_ne _ _ q]
      intro x hx y hy hxy
      have l1 := (h3 y hy).1
      have l2 := (e.ok i (hlt i hi q)).2.2.1 x hx
      rw [hxy] at l2
      exact absurd l2 (Nat.not_lt.mpr l1)
    · rw [upd_ne _ _ q, upd_ne _ _ q']; exact e.compat i (hlt i hi q) i' (hlt i' hi' q') hn
theorem ap_cons2 {R : Addr → Prop} {a : Addr} {o : Obj} {ents : List (Addr × Obj)} (h : ∀ p ∈ ents, R p.1) (h1 : R a) : ∀ p ∈ (a, o) :: ents, R p.1 := allc (h1) (fun p hp => h p hp)
noncomputable def kArgs (b : Bool) (Kf : Addr) : List (Str × Value) := if b then [(Str.ofString "key", .ref Kf), (Str.ofString "reverse", .bool true)] else [(Str.ofString "key", .ref Kf)]
section
variable {w : World} {A : Around} {s : Shared} {H h₀ : Heap} {E Q : Value → Shared → Prop} {Kf RA L : Addr} {ra : List Addr} {kb : Nat → List UInt64} {d n : Nat} {lt : Nat → Nat → Bool} {m : Str → Option Value} {news : List (Addr × Obj)}
theorem rev_map_ca {b : Bool} {f : Nat → Value} {n i : Nat} (hi : i < n) : (katRev b ((List.range n).map f)).getD i Value.none = f (if b then n - 1 - i else i) := by
  have := katRev_get (n := n) b ((List.range n).map f) (by simp) hi
  rw [this]
  have : (if b = true then n - 1 - i else i) < n := by split <;> omega
  simp [this]
theorem sorted_key {b : Bool} (F : Fr h₀ L s.heap m) (N : News h₀ L s.heap news) (st : H.StaysIn h₀) (hA : A.handled = none) (hu : A.units + 600 < cLine) (hroom : A.depth + 4 < recursionLimit) (hK : KeyOk w H Kf ra kb d) (hS : Stat H.get?) (hRA : H.get? RA = some (listOf (ra.map Value.ref).toArray n))
    (h2 : 2 ≤ ra.length) (h64 : ra.length < 64) (swo : SWO lt) (hlt : ∀ i j, kLt (kb i) (kb j) = lt i j)
    (hq : ∀ (D : Addr) (h' : Heap) (tk c : Nat) (l : List Nat), Fr h₀ L h' m → News h₀ L h' ((D, listOf (l.map fun i => Value.ref (ra.getD i 0)).toArray c) :: news) → (∀ q ∈ news, q.1 < D) → s.toks ≤ tk → l.Perm (List.range ra.length) → l.Pairwise (slt (dirLt b lt)) → Q (.ref D) { s with heap := h', toks := tk }) :
    wpAny (model PySem.Challenge.rw_mq0320_01.row.prog w) A (call (.builtin "sorted") [.ref RA] (kArgs b Kf)) Q E s := by
  have hl := PySem.IsL.isList (n := n) (F.keep _ _ (st _ _ hRA))
  refine kat_sortedK (vs := ra.map Value.ref) (b := b) (f := .ref Kf) F N hl (by first | exact nin1 (h2) | exact nin2 (h2) | exact allc (h2) alln | simpa using h2) (by first | exact nin1 (h64) | exact nin2 (h64) | exact allc (h64) alln | simpa using h64) (by cases b; exact ksk_s1 _ _; exact ksk_s2 _ _ _) (fun x => by cases b; exact ksk_l1 _ _; exact ksk_l2 _ _ _) (fun x => by cases b; exact ksk_t1 _ _; exact ksk_t2 _ _ _) fun D kS e1 h1 F1 N1 hDk hnD => ?_
  have hrec : ∀ (r j : Nat) (ents : List (Addr × Obj)) (ca : Nat → Addr) (kk : Nat → Key) (e : Nat) (h' : Heap) (tk : Nat), j + r = ra.length → Fr h₀ L h' m → News h₀ L h' ((kS, seqObj "list" (List.toArray ((List.range j).map fun i => Value.ref (ca i))) e) :: (D, seqObj "list" #[] e1) :: ents) → (∀ p ∈ ents, p.1 ≠ kS ∧ p.1 ≠ D) → (∀ p ∈ news, p ∈ ents) → KeysOf (gOf h₀ ents) tk kb d ca kk j → s.toks ≤ tk →
      KatKeys PySem.Challenge.rw_mq0320_01.row.prog w A.in1.in1 h₀ L m kS (.ref Kf) (fun ks e s' => wpAny (model PySem.Challenge.rw_mq0320_01.row.prog w) A.in1.in1 (keyKind' (List.toArray ks)) (fun κ s'' => (kas_sort (ra.map Value.ref).length).kasWp (kas_ask PySem.Challenge.rw_mq0320_01.row.prog w A.in1.in1 κ (katRev b ks)) (fun p s3 => KatFin h₀ L m kS D ks e e1 (katRev b (p.toList.map fun i => (katRev b (ra.map Value.ref)).getD i Value.none)) (fun s4 => Q (.ref D) s4) s3) s'') (fun _ _ => False) s')
        ((ra.drop j).map Value.ref) ((List.range j).map fun i => Value.ref (ca i)) e { s with heap := h', toks := tk } := by
    intro r
    induction r with
    | zero =>
      intro j ents ca kk e h' tk hj F' N' ap hsub hk htk
      rw [List.drop_of_length_le (by lia)]
      have hjn : j = ra.length := by omega
      subst hjn
      refine KatKeys.nil ?_
      have hG := gOf_sub F' (newsTail (newsTail N'))
      refine kas_kind (T := .type "list") (by first | exact nin1 (h2) | exact nin2 (h2) | exact allc (h2) alln | simpa using h2) (fun v hv => ?_) (by decide) (by decide) ?_
      · refine oEA (List.mem_map.mp hv) fun i hi q19571z2 => ?_; obtain rfl := q19571z2
        refine oE (hk.there i (List.mem_range.mp hi)) fun nn g => ?_
        exact show Looks _ h' (typeOf (.ref (ca i))) (listOf (kvals (kk i)).toArray nn).cls from (Looks.ld (hG _ _ g)).andThen .now
      rw [List.length_map]
      refine kw_wp (lt := fun i j => if b then lt (ra.length - 1 - i) (ra.length - 1 - j) else lt i j) (n := ra.length) (fun i j C hi hj hC => ?_) (kw_mono (fun p hp => ?_) (kas_sort_ok (n := ra.length) (by
        cases b with
        | false => exact swo
        | true => exact ⟨fun i j h => swo.asymm _ _ h, fun i j k h => swo.neg _ _ _ h⟩) (by lia)))
      · show wpAny _ _ (keyLt' oneType' ((katRev b _).getD i Value.none) ((katRev b _).getD j Value.none)) C (fun _ _ => False) _
        rw [rev_map_ca hi, rev_map_ca hj]
        have hi' : (if b = true then ra.length - 1 - i else i) < ra.length := by split <;> omega
        have hj' : (if b = true then ra.length - 1 - j else j) < ra.length := by split <;> lia
        have hC' : C (lt (if b = true then ra.length - 1 - i else i) (if b = true then ra.length - 1 - j else j)) { s with heap := h', toks := tk } := by cases b <;> exact hC
        generalize (if b = true then ra.length - 1 - i else i) = i' at *
        generalize (if b = true then ra.length - 1 - j else j) = j' at *
        refine oE (hk.there i' hi') fun n1 g1 => ?_
        refine oE (hk.there j' hj') fun n2 g2 => ?_
        refine oAAA (hk.ok i' hi') fun a1 a2 a3 a4 => ?_
        refine oAAA (hk.ok j' hj') fun b1 b2 b3 b4 => ?_
        rw [keyLt'_oneType]
        have hS' : Stat (gOf h₀ ents) := gOf_base _ _ (st _ _ hS)
        by_cases hij : i' = j'
        · subst hij
          refine oneLt_lists (e := fun _ => true) (c := fun _ => false) (PySem.IsL.isList (n := n1) (hG _ _ g1)) (PySem.IsL.isList (n := n1) (hG _ _ g1)) rfl (by show A.units + 1 + 1 < cLine; first | exact room3 hu (by decide) | lia) (fun j h1 h2 => EqAt.same _) (fun j h1 h2 => ?_) ?_
          · refine oEAA (kv_get h1) fun p hp ep _ => ?_
            rw [ep]
            have := (a1 p hp).2
            have e2 : flt p.1 p.1 = false := by
              unfold feq at this; unfold flt
              have e3 := eq_of_beq this
              rw [e3]; rfl
            exact e2 ▸ LtAt.float
          · have e : lex ((List.range (kvals (kk i')).toArray.size).map fun _ => (true, false)) = false := by
              generalize List.range _ = l
              induction l with
              | nil => rfl
              | cons x l ih => simpa [lex] using ih
            rw [e]
            rw [swo.irr] at hC'
            exact hC'
        · refine oneLt_key hG hS' ⟨_, _, rfl, g1⟩ ⟨_, _, rfl, g2⟩ a1 b1 (hk.compat i' hi' j' hj' hij) (by rw [a4, b4]) (by show A.units + 1 + 1 + 10 < cLine; first | exact room4 hu (by decide) | lia) ?_
          rw [a2, b2, hlt]; exact hC'
      · refine KatFin.intro F' N' (.head fun p hp => ?_) fun h2 c2 F2 N2 => KasFin.intro F2 N2 (.tail (Nat.ne_of_gt hDk) (.head fun p hp => (ap p hp).2)) fun h3 c3 F3 N3 => ?_
        · rcases List.mem_cons.mp hp with rfl | hp
          · exact Nat.ne_of_lt hDk
          · exact (ap p hp).1
        · rw [outOf_vals (ra.map Value.ref) (by simp) hp.perm] at N3
          have hperm := outOf_perm (b := b) hp.perm
          have ev : (outOf b ra.length p).map (fun i => (ra.map Value.ref).getD i Value.none) = (outOf b ra.length p).map fun i => Value.ref (ra.getD i 0) := List.map_congr_left fun i hi => by
            have : i < ra.length := List.mem_range.mp (hperm.mem_iff.mp hi)
            simp [this]
          rw [ev] at N3
          refine hq D h3 tk c3 _ F3 (fun q hq' => ?_) hnD htk hperm (outOf_pairwise hp)
          rcases List.mem_cons.mp hq' with rfl | hq'
          · exact N3 _ (.tail _ (.head _))
          · exact N3 _ (.tail _ (.tail _ (hsub q hq')))
    | succ r ih =>
      intro j ents ca kk e h' tk hj F' N' ap hsub hk htk
      have hjr : j < ra.length := by lia
      rw [List.drop_eq_getElem_cons hjr, List.map_cons]
      refine KatKeys.cons ?_
      refine hK.2 _ _ _ _ j ra[j] (List.getElem?_eq_getElem hjr) (fun b o q => F'.keep _ _ (st _ _ q)) hA (by show A.units + 1 + 1 + 500 < cLine; first | exact room4 hu (by decide) | lia) (by show A.depth + 4 < recursionLimit; first | exact room2 hroom (by decide) | lia) ?_
      intro h5 tk5 kc k kn K5 hkc ek b1 b2 b3 b4 b5
      have F5 := frKeep0 F' K5
      have N5 := newsKeep0 N' K5
      have hkcn : ∀ p ∈ (kS, seqObj "list" (List.toArray ((List.range j).map fun i => Value.ref (ca i))) e) :: (D, seqObj "list" #[] e1) :: ents, p.1 ≠ kc := fun p hp q => by
        have := (N' p hp).1
        rw [q] at this
        rw [show h'.get? kc = none from hkc] at this; cases this
      have fkc := fresh_base F' hkc
      have Ne := newsCons (newsTail (newsTail N5)) ek fkc.1 fkc.2
      have apE := ap_cons2 ap (o := listOf (kvals k).toArray kn) (R := fun x => x ≠ kS ∧ x ≠ D) ⟨(hkcn _ (.head _)).symm, (hkcn _ (.tail _ (.head _))).symm⟩
      have Nf := newsCons (newsCons Ne (N5 _ (.tail _ (.head _))).1 (N5 _ (.tail _ (.head _))).2.1 (N5 _ (.tail _ (.head _))).2.2) (N5 _ (.head _)).1 (N5 _ (.head _)).2.1 (N5 _ (.head _)).2.2
      refine KatBack.intro F5 Nf (.head fun p hp => ?_) fun h6 c6 F6 N6 => ?_
      · rcases List.mem_cons.mp hp with rfl | hp
        · exact Nat.ne_of_lt hDk
        · exact (apE p hp).1
      · have en : ((List.range j).map fun i => Value.ref (ca i)) ++ [Value.ref kc] = (List.range (j + 1)).map fun i => Value.ref (upd ca j kc i) := by
          rw [List.range_succ, List.map_append]
          congr 1
          · exact List.map_congr_left fun i hi => by rw [upd_ne _ _ (Nat.ne_of_lt (List.mem_range.mp hi))]
          · simp [upd_same]
        rw [en] at N6 ⊢
        have hk' := hk.add (h' := gOf h₀ ((kc, listOf (kvals k).toArray kn) :: ents)) (gOf_consN fun p hp => hkcn p (.tail _ (.tail _ hp))) b5 (gOf_head fkc.2) b2 b1 b4 b3
        exact ih (j + 1) _ _ _ c6 h6 tk5 (by lia) F6 N6 apE (fun p hp => .tail _ (hsub p hp)) hk' (Nat.le_trans htk b5)
  have := hrec ra.length 0 news (fun _ => 0) (fun _ => []) 0 h1 s.toks (by lia) F1 N1 (fun p hp => ⟨Nat.ne_of_lt (Nat.lt_trans (hnD p hp) hDk), Nat.ne_of_lt (hnD p hp)⟩) (fun p hp => hp) ⟨fun i hi => absurd hi (Nat.not_lt_zero _), fun i hi => absurd hi (Nat.not_lt_zero _), fun i hi => absurd hi (Nat.not_lt_zero _)⟩ (Nat.le_refl _)
  simpa using this
end
end
-- part ZipR
section
open PySem PySem.W PyProof.Rows PySem.Calls
set_option maxRecDepth 100000
set_option maxHeartbeats 4000000
noncomputable def Gone (h : Heap) (it : Addr) : Prop := ∃ o y, h.get? it = some o ∧ o.cls = .type "list_iterator" ∧ o.data = .fields #[.none, y]
theorem Gone.mono {h h' : Heap} {it : Addr} (g : Gone h it) (k : ∀ o, h.get? it = some o → h'.get? it = some o) : Gone h' it := let ⟨o, y, e, c, d⟩ := g; ⟨o, y, k o e, c, d⟩
section
variable {prog : Program} {w : World} {A : Around} {E : Value → Shared → Prop} {s : Shared}
theorem stop_it {α : Type} {Q : α → Shared → Prop} (hA : A.handled = none) (h : ∀ h' e, Keep [] s.heap h' → (∃ o, h'.get? e = some o ∧ o.cls = .type "StopIteration") → s.heap.get? e = none → E (.ref e) { s with heap := h' }) :
    wpAny (model prog w) A (Builtin.SmallTypes.stopIteration (α := α)) Q E s := by
  unfold Builtin.SmallTypes.stopIteration
  refine wpAny_bind ?_
  simp only [newExc, newTuple]
  refine wpAny_bind (wpAny_newObj_type ?_ (by size_fits))
  refine wpAny_bind (m := firstArgMember _ _) (wpAny_of_eq (a := Value.none) (by first | rfl | (simp only [firstArgMember]; rfl)) ?_)
  refine wpAny_newObj_type ?_ (by size_fits)
  simp only [raiseNew]
  refine wpAny_bind (wpAny_handled ?_)
  first | rw [hA] | rw [show A.in1.handled = none from hA]
  refine wpAny_bind (wpAny_pure (wpAny_throw ?_))
  refine h _ _ (fun b o _ e => Heap.get?_push_of_some _ (Heap.get?_push_of_some _ e)) ⟨_, Heap.get?_push_size _ rfl, rfl⟩ (Heap.get?_none_of_le ?_)
  rw [size_push']
  exact Nat.le_succ _
theorem li_end {it l : Addr} {i : Nat} {items} {Q : PySem.Fin → Shared → Prop} (hA : A.handled = none) (hit : s.heap.IsListIter it l i) (hl : s.heap.IsList l items) (hx : items[i]? = none)
    (h : ∀ h' e, Keep [it] s.heap h' → Gone h' it → (∃ o, h'.get? e = some o ∧ o.cls = .type "StopIteration") → s.heap.get? e = none → E (.ref e) { s with heap := h' }) :
    wpAny (model prog w) A (Builtin.«list_iterator.__next__» ⟨[.ref it], []⟩) Q E s := by
  refine oEAA (id hit) fun o ho hc hd => ?_
  refine oEAAE hl fun ol hol _ nl hdl => ?_; (try clear hl)
  show wpAny _ _ (field (.ref it) 0 >>= _) _ _ s
  refine wpAny_bind (wpAny_field ho hd (x := .ref l) rfl ?_)
  show wpAny _ _ (if (Value.ref l == Value.none) = true then _ else _) _ _ s
  rw [if_neg (show ¬ ((Value.ref l == Value.none) = true) from Bool.false_ne_true)]
  show wpAny _ _ (field (.ref it) 1 >>= _) _ _ s
  refine wpAny_bind (wpAny_field ho hd (x := .int i 0) rfl ?_)
  show wpAny _ _ (seqItems? (.ref l) >>= _) _ _ s
  refine wpAny_bind (wpAny_seqItems hol hdl ?_)
  simp only [Int.toNat_natCast, hx]
  refine wpAny_bind (wpAny_rule (wpAny_bind (wpAny_setField ho hd (by simp) ?_)))
  have hg : Gone (s.heap.update it (Obj.mapFields fun x => x.setIfInBounds 0 Value.none)) it := ⟨_, .int i 0, Heap.get?_update_self _ ho (Obj.isFreed_of_fields (Obj.data_mapFields hd _)), (Obj.cls_mapFields ..).trans hc, by rw [Obj.data_mapFields hd]; simp⟩
  have hs := Heap.SameBut.update s.heap it (Obj.mapFields fun x => x.setIfInBounds 0 Value.none)
  refine stop_it hA fun h' e K he hne => h h' e (fun b o' hb q => K b o' (by simp) ((hs.2 b (by first | exact nin1 (hb) | exact nin2 (hb) | exact allc (hb) alln | simpa using hb)).trans q)) (hg.mono fun o' q => K _ _ (by simp) q) he ?_
  cases q : s.heap.get? e with
  | none => rfl
  | some o' =>
    exfalso
    by_cases hei : e = it
    · subst hei
      have := hg
      refine oEEA this fun o2 _ e2 _ => ?_; (try clear this)
      rw [show (s.heap.update e _).get? e = none from hne] at e2; cases e2
    · have := (hs.2 e hei).trans q
      rw [show (s.heap.update it _).get? e = none from hne] at this; cases this
theorem li_over {it : Addr} {Q : Option Value → Shared → Prop} (hA : A.handled = none) (hg : Gone s.heap it) (hQ : ∀ h', Keep [] s.heap h' → Q none { s with heap := h' }) : wpAny (model prog w) A (pyNext (.ref it)) Q E s := by
  refine oEEAA hg fun o y ho hc hd => ?_; (try clear hg)
  have hT : s.TypeIs (.ref it) "list_iterator" := ⟨_, ho, hc⟩
  unfold pyNext
  refine wpAny_bind (wpAny_attempt (wpAny_callSpecial?_slot (name := Str.ofString "__next__") hT slot_listiter_next
    (wpAny_call_entry slot_listiter_next hT entry_listiter_next ?_ (args_listiter_next _))))
  show wpAny _ _ (field (.ref it) 0 >>= _) _ _ s
  refine wpAny_bind (wpAny_field ho hd (x := .none) rfl ?_)
  show wpAny _ _ (if (Value.none == Value.none) = true then _ else _) _ _ s
  rw [if_pos (by rfl)]
  refine wpAny_bind (wpAny_rule (wpAny_bind ?_))
  refine stop_it (A := A.in1) hA fun h' e K he hne => ?_
  refine oEA he fun o ho hc => ?_; (try clear he)
  refine wpAny_bind (wpAny_isInstance (T := "StopIteration") (b := true) ⟨o, ho, hc⟩ isSubtype_stop ?_)
  exact wpAny_pure (hQ _ K)
theorem li_iter {it : Addr} {Q : Value → Shared → Prop} (hg : Gone s.heap it) (h : Q (.ref it) s) : wpAny (model prog w) A (pyIter (.ref it)) Q E s := by
  refine oEEAA hg fun o y ho hc hd => ?_; (try clear hg)
  have hT : s.TypeIs (.ref it) "list_iterator" := ⟨_, ho, hc⟩
  refine wpAny_pyIter_slot hT slot_listiter_iter (wpAny_call_entry slot_listiter_iter hT entry_listiter_iter ?_ (args_listiter_iter _))
  show wpAny _ _ (ret (.ref it)) _ _ s
  exact wpAny_pure ⟨_, rfl, "list_iterator", _, hT, slot_listiter_next.lookup, h⟩
open Builtin.SmallTypes in
theorem draw_list_end {it l : Addr} {i : Nat} {items} {Q : Value → Shared → Prop} (hA : A.handled = none) (hit : s.heap.IsListIter it l i) (hl : s.heap.IsList l items) (hx : items[i]? = none)
    (h : ∀ h' e, Keep [it] s.heap h' → Gone h' it → (∃ o, h'.get? e = some o ∧ o.cls = .type "StopIteration") → s.heap.get? e = none → E (.ref e) { s with heap := h' }) :
    wpAny (model prog w) A (nextOf (.ref it)) Q E s := by
  unfold nextOf
  exact wpAny_bind (wpAny_callSpecial?_slot (name := Str.ofString "__next__") hit.typeIs slot_listiter_next
    (wpAny_call_entry slot_listiter_next hit.typeIs entry_listiter_next (li_end hA hit hl hx h) (args_listiter_next _)))
open Builtin.SmallTypes in
theorem draw_range {it : Addr} {x left step : Int} {Q : Value → Shared → Prop} (hit : IsRangeIter s.heap it x left step) (hleft : 0 < left)
    (hQ : ∀ h', IsRangeIter h' it (x + step) (left - 1) step → Heap.SameBut it s.heap h' → Q (.int x s.toks) { s with heap := h', toks := s.toks + 1 }) : wpAny (model prog w) A (nextOf (.ref it)) Q E s := by
  have hT : s.TypeIs (.ref it) "range_iterator" := ⟨_, hit, rfl⟩
  unfold nextOf
  refine wpAny_bind (wpAny_callSpecial?_slot (name := Str.ofString "__next__") hT F.slot_range_iterator_next
    (call_meets F.slot_range_iterator_next hT F.entry_range_iterator_next (F.args_range_iterator_next_1 _) (AutoRange.range_iterator___next___range_iterator_1 it x left step (by lia)) ⟨hit, ?_⟩))
  exact wpAny_pure (hQ _ (Heap.get?_update_self _ (Heap.get?_update_self _ hit rfl) rfl) ((Heap.SameBut.update ..).trans (Heap.SameBut.update ..)))
open Builtin.SmallTypes in
theorem draw_range_end {it : Addr} {x left step : Int} {Q : Value → Shared → Prop} (hA : A.handled = none) (hit : IsRangeIter s.heap it x left step) (hleft : left ≤ 0)
    (h : ∀ h' e, Keep [] s.heap h' → (∃ o, h'.get? e = some o ∧ o.cls = .type "StopIteration") → s.heap.get? e = none → E (.ref e) { s with heap := h' }) : wpAny (model prog w) A (nextOf (.ref it)) Q E s := by
  have hT : s.TypeIs (.ref it) "range_iterator" := ⟨_, hit, rfl⟩
  unfold nextOf
  refine wpAny_bind (wpAny_callSpecial?_slot (name := Str.ofString "__next__") hT F.slot_range_iterator_next
    (wpAny_call_entry F.slot_range_iterator_next hT F.entry_range_iterator_next ?_ (F.args_range_iterator_next_1 _)))
  show wpAny _ _ (field (.ref it) 0 >>= _) _ _ s
  refine wpAny_bind (wpAny_field hit rfl (x := rawInt x) rfl ?_)
  show wpAny _ _ (field (.ref it) 1 >>= _) _ _ s
  refine wpAny_bind (wpAny_field hit rfl (x := rawInt left) rfl ?_)
  show wpAny _ _ (field (.ref it) 2 >>= _) _ _ s
  refine wpAny_bind (wpAny_field hit rfl (x := rawInt step) rfl ?_)
  show wpAny _ _ (if left ≤ 0 then _ else _) _ _ s
  rw [if_pos hleft]
  exact wpAny_bind (wpAny_rule (wpAny_bind (stop_it (A := A.in1) hA h)))
theorem zipR_open {z TI TO i1 i2 : Addr} {Q : PySem.Fin → Shared → Prop} (hTIz : TI ≠ z) (hz : IsZip s.heap z TI TO .none) (hTI : IsPair s.heap TI (.ref i1) (.ref i2))
    (h : ∀ h₁, IsZip h₁ z TI TO .ellipsis → Heap.SameBut z s.heap h₁ →
      wpAny (model prog w) A (Builtin.SmallTypes.nextOf (.ref i1)) (fun x s₂ => ∃ h₂ tk₂ a b, s₂ = { s with heap := h₂, toks := tk₂ } ∧ IsZip h₂ z TI TO .ellipsis ∧ IsPair h₂ TO a b ∧
        (∀ h₃, IsPair h₃ TO x b → Heap.SameBut TO h₂ h₃ →
          wpAny (model prog w) A (Builtin.SmallTypes.nextOf (.ref i2)) (fun y s₄ => ∃ h₄ tk₄, s₄ = { s with heap := h₄, toks := tk₄ } ∧ IsZip h₄ z TI TO .ellipsis ∧ IsPair h₄ TO x b ∧ TO ≠ z ∧
            (∀ h₈, IsZip h₈ z TI TO (rawInt h₄.objs.size) → IsPair h₈ TO x y → IsPair h₈ h₄.objs.size x y → h₈.objs.size = h₄.objs.size + 1 → Keep [z, TO] h₄ h₈ → Q (.done (.ret (.ref h₄.objs.size))) { s with heap := h₈, toks := tk₄ })) (fun e s' => wpAny (model prog w) A (setField (.ref z) 0 .none) (fun _ s'' => E e s'') E s') { s with heap := h₃, toks := tk₂ })) (fun e s' => wpAny (model prog w) A (setField (.ref z) 0 .none) (fun _ s'' => E e s'') E s') { s with heap := h₁ }) :
    wpAny (model prog w) A (Builtin.«zip.__next__» ⟨[.ref z], []⟩) Q E s := by
  show wpAny _ _ (field (.ref z) 2 >>= _) _ _ _
  refine wpAny_bind (wpAny_field hz rfl (x := .bool false) rfl ?_)
  show wpAny _ _ (field (.ref z) 3 >>= _) _ _ _
  refine wpAny_bind (wpAny_field hz rfl (x := .ref TI) rfl ?_)
  refine wpAny_bind (wpAny_seqItems hTI rfl ?_)
  show wpAny _ _ (Builtin.SmallTypes.ownedTupleIsFree (.ref z) >>= _) _ _ _
  refine wpAny_bind ?_
  unfold Builtin.SmallTypes.ownedTupleIsFree
  refine wpAny_bind (wpAny_field hz rfl (x := .none) rfl (wpAny_pure ?_))
  simp only [if_true]
  refine wpAny_bind (wpAny_rule ?_)
  refine wpAny_bind (wpAny_field hz rfl (x := .ref TO) rfl ?_)
  refine wpAny_bind (wpAny_setField_rec hz (by simp) fun h₁ hz₁ hs₁ => ?_)
  replace hz₁ : IsZip h₁ z TI TO .ellipsis := hz₁
  refine wpAny_bind ?_
  simp only [List.zipIdx_cons, List.zipIdx_nil, List.forIn_cons, List.forIn_nil]
  have H := h h₁ hz₁ hs₁
  refine wpAny_bind (wpAny_bind (wpAny_onRaise ?_))
  show wpAny _ _ (Builtin.SmallTypes.nextOf (.ref i1) >>= _) _ _ _
  refine wpAny_bind (wpAny_mono H (fun x s₂ H2 => wpAny_pure ?_) fun _ _ e => e)
  refine oEEEEAAA H2 fun h₂ tk₂ a b q10685z4 hz₂ hTO₂ H3 => ?_; (try clear H2); obtain rfl := q10685z4
  refine wpAny_bind (wpAny_seqItems hTO₂ rfl ?_)
  refine wpAny_bind (wpAny_updateSeq_pair hTO₂ fun h₃ hTO₃ hs₃ => ?_)
  refine wpAny_bind (wpAny_letGo (wpAny_pure ?_))
  have H4 := H3 h₃ hTO₃ hs₃
  refine wpAny_bind (wpAny_bind (wpAny_onRaise ?_))
  show wpAny _ _ (Builtin.SmallTypes.nextOf (.ref i2) >>= _) _ _ _
  refine wpAny_bind (wpAny_mono H4 (fun y s₄ H5 => wpAny_pure ?_) fun _ _ e => e)
  refine oEEAAAA H5 fun h₄ tk₄ q11164z2 hz₄ hTO₄ hTOz H6 => ?_; (try clear H5); obtain rfl := q11164z2
  refine wpAny_bind (wpAny_seqItems hTO₄ rfl ?_)
  refine wpAny_bind (wpAny_updateSeq_pair hTO₄ fun h₅ hTO₅ hs₅ => ?_)
  replace hTO₅ : IsPair h₅ TO x y := hTO₅
  refine wpAny_bind (wpAny_letGo (wpAny_pure (wpAny_pure ?_)))
  refine wpAny_bind (wpAny_seqItems hTO₅ rfl ?_)
  refine wpAny_bind (wpAny_newTuple ?_)
  have hsz : h₅.objs.size = h₄.objs.size := hs₅.1
  have hz₅ : IsZip h₅ z TI TO .ellipsis := (hs₅.2 z hTOz.symm).trans hz₄
  have hzlt : z < h₅.objs.size := Heap.lt_size hz₅
  show wpAny _ _ (Builtin.SmallTypes.ownedTupleHandOut (.ref z) (.ref h₅.objs.size) >>= _) _ _ _
  refine wpAny_bind ?_
  unfold Builtin.SmallTypes.ownedTupleHandOut
  have hz₆ : IsZip (h₅.push { cls := .type "tuple", data := .seq #[x, y] }) z TI TO .ellipsis := Heap.get?_push_of_some _ hz₅
  refine wpAny_bind (wpAny_setField_rec hz₆ (by simp) fun h₇ hz₇ hs₇ => ?_)
  replace hz₇ : IsZip h₇ z TI TO (rawInt h₅.objs.size) := hz₇
  refine wpAny_setField_rec hz₇ (by simp) fun h₈ hz₈ hs₈ => ?_
  replace hz₈ : IsZip h₈ z TI TO (rawInt h₅.objs.size) := hz₈
  have up : ∀ c o, c ≠ z → h₅.get? c = some o → h₈.get? c = some o := fun c o c1 e => (hs₈.2 c c1).trans ((hs₇.2 c c1).trans (Heap.get?_push_of_some _ e))
  have hT₈ : IsPair h₈ h₅.objs.size x y := (hs₈.2 _ (Nat.ne_of_gt hzlt)).trans ((hs₇.2 _ (Nat.ne_of_gt hzlt)).trans (Heap.get?_push_size _ rfl))
  have hz8 : h₈.objs.size = h₅.objs.size + 1 := by rw [hs₈.1, hs₇.1, Heap.size_push]
  rw [hsz] at hz₈ hT₈ hz8
  refine wpAny_pure ?_
  show Q (.done (.ret (.ref h₅.objs.size))) _
  rw [hsz]
  refine H6 h₈ hz₈ (up _ _ hTOz hTO₅) hT₈ hz8 fun c o hc e => ?_
  simp only [List.mem_cons, List.not_mem_nil, or_false, not_or] at hc
  exact up c o hc.1 ((hs₅.2 c hc.2).trans e)
end
end
-- part ZipS
section
open PySem PySem.W PyProof.Rows PySem.Calls
set_option maxRecDepth 100000
set_option maxHeartbeats 4000000
structure ZApart (z TI TO i1 i2 l : Addr) : Prop where
  TIz : TI ≠ z
  TOz : TO ≠ z
  i1z : i1 ≠ z
  i2z : i2 ≠ z
  TITO : TI ≠ TO
  TIi1 : TI ≠ i1
  TIi2 : TI ≠ i2
  TOi1 : TO ≠ i1
  TOi2 : TO ≠ i2
  i12 : i1 ≠ i2
  lz : l ≠ z
  lTO : l ≠ TO
  li1 : l ≠ i1
  li2 : l ≠ i2
theorem zApart_new {n i2 l : Addr} (h1 : i2 < n) (h2 : l < n) (h3 : l ≠ i2) : ZApart (n + 3) (n + 1) (n + 2) n i2 l where
  TIz := Nat.ne_of_lt (Nat.add_lt_add_left (by decide) n)
  TOz := Nat.ne_of_lt (Nat.add_lt_add_left (by decide) n)
  i1z := Nat.ne_of_lt (Nat.lt_add_of_pos_right (by decide))
  i2z := Nat.ne_of_lt (Nat.lt_of_lt_of_le h1 (Nat.le_add_right n 3))
  TITO := Nat.ne_of_lt (Nat.add_lt_add_left (by decide) n)
  TIi1 := Nat.ne_of_gt (Nat.lt_add_of_pos_right (by decide))
  TIi2 := Nat.ne_of_gt (Nat.lt_of_lt_of_le h1 (Nat.le_add_right n 1))
  TOi1 := Nat.ne_of_gt (Nat.lt_add_of_pos_right (by decide))
  TOi2 := Nat.ne_of_gt (Nat.lt_of_lt_of_le h1 (Nat.le_add_right n 2))
  i12 := Nat.ne_of_gt h1
  lz := Nat.ne_of_lt (Nat.lt_of_lt_of_le h2 (Nat.le_add_right n 3))
  lTO := Nat.ne_of_lt (Nat.lt_of_lt_of_le h2 (Nat.le_add_right n 2))
  li1 := Nat.ne_of_lt h2
  li2 := h3
section
variable {prog : Program} {w : World} {A : Around} {E : Value → Shared → Prop} {s : Shared}
theorem sb {a : Addr} {h h' : Heap} (hs : Heap.SameBut a h h') {c : Addr} {o : Obj} (hc : c ≠ a) (e : h.get? c = some o) : h'.get? c = some o := (hs.2 c hc).trans e
theorem liAt {h h' : Heap} {i l : Addr} {k : Nat} (x : h.IsListIter i l k) (e : ∀ o, h.get? i = some o → h'.get? i = some o) : h'.IsListIter i l k := by
  refine oEA x fun o ho r => ?_; (try clear x)
  exact ⟨o, e o ho, r⟩
theorem zipR_item {z TI TO i1 i2 l : Addr} {k : Nat} {ys : Array Value} {x left step : Int} {y a b : Value} {Q : Option Value → Shared → Prop} (D : ZApart z TI TO i1 i2 l)
    (hz : IsZip s.heap z TI TO .none) (hTI : IsPair s.heap TI (.ref i1) (.ref i2)) (hTO : IsPair s.heap TO a b)
    (h1 : IsRangeIter s.heap i1 x left step) (hleft : 0 < left) (h2 : s.heap.IsListIter i2 l k) (hl : s.heap.IsList l ys) (hy : ys[k]? = some y)
    (hQ : ∀ h', IsZip h' z TI TO (rawInt s.heap.objs.size) → IsPair h' TO (.int x s.toks) y → IsRangeIter h' i1 (x + step) (left - 1) step → h'.IsListIter i2 l (k + 1) → IsPair h' s.heap.objs.size (.int x s.toks) y → h'.objs.size = s.heap.objs.size + 1 →
      Keep [z, TO, i1, i2] s.heap h' → Q (some (.ref s.heap.objs.size)) { s with heap := h', toks := s.toks + 1 }) :
    wpAny (model prog w) A (pyNext (.ref z)) Q E s := by
  have hT : s.TypeIs (.ref z) "zip" := ⟨_, hz, rfl⟩
  unfold pyNext
  refine wpAny_bind (wpAny_attempt (wpAny_callSpecial?_slot (name := Str.ofString "__next__") hT F.slot_zip_next
    (wpAny_call_entry F.slot_zip_next hT F.entry_zip_next ?_ (F.args_zip_next_1 _))))
  refine zipR_open D.TIz hz hTI fun h₁ hz₁ hs₁ => ?_
  refine draw_range (s := { s with heap := h₁ }) (sb hs₁ D.i1z h1) hleft fun h₂ hi₂ hs₂ => ?_
  refine ⟨h₂, _, a, b, rfl, sb hs₂ D.i1z.symm hz₁, sb hs₂ D.TOi1 (sb hs₁ D.TOz hTO), fun h₃ hTO₃ hs₃ => ?_⟩
  have K3 : ∀ c o, c ≠ z → c ≠ i1 → c ≠ TO → s.heap.get? c = some o → h₃.get? c = some o := fun c o c1 c2 c3 e => sb hs₃ c3 (sb hs₂ c2 (sb hs₁ c1 e))
  refine wpAny_nextOf_list_item (liAt h2 fun o e => K3 _ o D.i2z D.i12.symm D.TOi2.symm e) (hl.at fun o e => K3 _ o D.lz D.li1 D.lTO e) hy fun h₄ h2₄ hs₄ => ?_
  refine ⟨h₄, _, rfl, sb hs₄ D.i2z.symm (sb hs₃ D.TOz.symm (sb hs₂ D.i1z.symm hz₁)), sb hs₄ D.TOi2 hTO₃, D.TOz, fun h₈ a1 a2 a3 a4 K8 => ⟨_, rfl, ?_⟩⟩
  have hsz : h₄.objs.size = s.heap.objs.size := by rw [hs₄.1, hs₃.1, hs₂.1, hs₁.1]
  rw [hsz] at a1 a3 a4 ⊢
  refine wpAny_pure (hQ h₈ a1 a2 ?_ ?_ a3 a4 ?_)
  · exact K8 _ _ (by simp [D.i1z, D.TOi1.symm]) (sb hs₄ D.i12 (sb hs₃ D.TOi1.symm hi₂))
  · exact liAt h2₄ fun o e => K8 _ o (by simp [D.i2z, D.TOi2.symm]) e
  · intro c o hc e
    simp only [List.mem_cons, List.not_mem_nil, or_false, not_or] at hc
    exact K8 c o (by simp [hc.1, hc.2.1]) (sb hs₄ hc.2.2.2 (K3 c o hc.1 hc.2.2.1 hc.2.1 e))
theorem stop_end {e : Addr} {Q : Option Value → Shared → Prop} {s : Shared} (he : ∃ o, s.heap.get? e = some o ∧ o.cls = .type "StopIteration") (h : Q none s) :
    wpAny (model prog w) A (match (Except.error (Value.ref e) : Except Value (Option Value)) with
      | .ok (some v) => pure (some v)
      | .ok none => unsupported "iter:the-iterator's-class-has-lost-its-__next__-amid-the-walk"
      | .error e => do if (← isInstance e (.type "StopIteration")) = true then pure none else throw e) Q E s := by
  refine oEA he fun o ho hc => ?_; (try clear he)
  exact wpAny_bind (wpAny_isInstance (T := "StopIteration") (b := true) ⟨o, ho, hc⟩ isSubtype_stop (wpAny_pure h))
theorem zipR_end1 {z TI TO i1 i2 l : Addr} {x left step : Int} {a b : Value} {Q : Option Value → Shared → Prop} (hA : A.handled = none) (D : ZApart z TI TO i1 i2 l)
    (hz : IsZip s.heap z TI TO .none) (hTI : IsPair s.heap TI (.ref i1) (.ref i2)) (h1 : IsRangeIter s.heap i1 x left step) (hleft : left ≤ 0)
    (hQ : ∀ h', Keep [z] s.heap h' → Q none { s with heap := h' }) :
    wpAny (model prog w) A (pyNext (.ref z)) Q E s := by
  have hT : s.TypeIs (.ref z) "zip" := ⟨_, hz, rfl⟩
  unfold pyNext
  refine wpAny_bind (wpAny_attempt (wpAny_callSpecial?_slot (name := Str.ofString "__next__") hT F.slot_zip_next
    (wpAny_call_entry F.slot_zip_next hT F.entry_zip_next ?_ (F.args_zip_next_1 _))))
  refine zipR_open D.TIz hz hTI fun h₁ hz₁ hs₁ => ?_
  refine draw_range_end (A := A.in1) (s := { s with heap := h₁ }) hA (sb hs₁ D.i1z h1) hleft fun h₂ e K2 he hne => ?_
  have hz₂ : IsZip h₂ z TI TO .ellipsis := K2 _ _ (by simp) hz₁
  refine oEA he fun oe hoe hce => ?_; (try clear he)
  have hez : e ≠ z := fun q => by rw [q] at hne; exact absurd ((show h₁.get? z = none from hne).symm.trans hz₁) (by simp)
  refine wpAny_setField_rec hz₂ (by simp) fun h₃ hz₃ hs₃ => ?_
  refine stop_end ⟨oe, sb hs₃ hez hoe, hce⟩ (hQ h₃ fun c o hc q => ?_)
  have hc' : c ≠ z := by simpa using hc
  exact sb hs₃ hc' (K2 _ _ (by simp) (sb hs₁ hc' q))
theorem zipR_end2 {z TI TO i1 i2 l : Addr} {k : Nat} {ys : Array Value} {x left step : Int} {a b : Value} {Q : Option Value → Shared → Prop} (hA : A.handled = none) (D : ZApart z TI TO i1 i2 l)
    (hz : IsZip s.heap z TI TO .none) (hTI : IsPair s.heap TI (.ref i1) (.ref i2)) (hTO : IsPair s.heap TO a b) (h1 : IsRangeIter s.heap i1 x left step) (hleft : 0 < left) (h2 : s.heap.IsListIter i2 l k) (hl : s.heap.IsList l ys) (hy : ys[k]? = none)
    (hQ : ∀ h', Keep [z, TO, i1, i2] s.heap h' → Gone h' i2 → Q none { s with heap := h', toks := s.toks + 1 }) :
    wpAny (model prog w) A (pyNext (.ref z)) Q E s := by
  have hT : s.TypeIs (.ref z) "zip" := ⟨_, hz, rfl⟩
  unfold pyNext
  refine wpAny_bind (wpAny_attempt (wpAny_callSpecial?_slot (name := Str.ofString "__next__") hT F.slot_zip_next
    (wpAny_call_entry F.slot_zip_next hT F.entry_zip_next ?_ (F.args_zip_next_1 _))))
  refine zipR_open D.TIz hz hTI fun h₁ hz₁ hs₁ => ?_
  refine draw_range (s := { s with heap := h₁ }) (sb hs₁ D.i1z h1) hleft fun h₂ hi₂ hs₂ => ?_
  refine ⟨h₂, _, a, b, rfl, sb hs₂ D.i1z.symm hz₁, sb hs₂ D.TOi1 (sb hs₁ D.TOz hTO), fun h₃ hTO₃ hs₃ => ?_⟩
  have K3 : ∀ c o, c ≠ z → c ≠ i1 → c ≠ TO → s.heap.get? c = some o → h₃.get? c = some o := fun c o c1 c2 c3 e => sb hs₃ c3 (sb hs₂ c2 (sb hs₁ c1 e))
  have hz₃ : IsZip h₃ z TI TO .ellipsis := sb hs₃ D.TOz.symm (sb hs₂ D.i1z.symm hz₁)
  refine draw_list_end (A := A.in1) hA (liAt h2 fun o e => K3 _ o D.i2z D.i12.symm D.TOi2.symm e) (hl.at fun o e => K3 _ o D.lz D.li1 D.lTO e) hy fun h₄ e K4 hg he hne => ?_
  have hz₄ : IsZip h₄ z TI TO .ellipsis := K4 _ _ (by first | exact nin1 (D.i2z.symm) | exact nin2 (D.i2z.symm) | exact allc (D.i2z.symm) alln | simpa using D.i2z.symm) hz₃
  refine oEA he fun oe hoe hce => ?_; (try clear he)
  have hez : e ≠ z := fun q => by rw [q] at hne; exact absurd ((show h₃.get? z = none from hne).symm.trans hz₃) (by simp)
  refine wpAny_setField_rec hz₄ (by simp) fun h₅ hz₅ hs₅ => ?_
  refine stop_end ⟨oe, sb hs₅ hez hoe, hce⟩ (hQ h₅ (fun c o hc q => ?_) (hg.mono fun o q => sb hs₅ D.i2z q))
  simp only [List.mem_cons, List.not_mem_nil, or_false, not_or] at hc
  exact sb hs₅ hc.1 (K4 _ _ (by first | exact nin1 (hc.2.2.2) | exact nin2 (hc.2.2.2) | exact allc (hc.2.2.2) alln | simpa using hc.2.2.2) (K3 c o hc.1 hc.2.2.1 hc.2.1 q))
end
noncomputable abbrev zr1 (h : Heap) (a b c : Int) : Heap := h.push { cls := .type "range_iterator", data := .fields #[rawInt a, rawInt (Builtin.Range.rangeSize a b c), rawInt c] }
noncomputable abbrev zr2 (h : Heap) (i2 : Addr) (a b c : Int) : Heap := (zr1 h a b c).push { cls := .type "tuple", data := .seq #[.ref h.objs.size, .ref i2] }
noncomputable abbrev zr3 (h : Heap) (i2 : Addr) (a b c : Int) : Heap := (zr2 h i2 a b c).push { cls := .type "tuple", data := .seq #[.none, .none] }
noncomputable abbrev zr4 (h : Heap) (i2 : Addr) (a b c : Int) : Heap := (zr3 h i2 a b c).push { cls := .type "zip", data := .fields #[.none, .bool false, .bool false, .ref (zr1 h a b c).objs.size, .ref (zr2 h i2 a b c).objs.size] }
theorem meets_zipR (r i2 l : Addr) (a b c : Int) (t u v : Tok) (k : Nat) (hsm : Builtin.Range.small a b c = true) :
    Meets (Builtin.«zip.__new__» ⟨[.type "zip", .ref r, .ref i2], []⟩) (fun _ R s => IsRange s.heap r a b c t u v ∧ s.heap.IsListIter i2 l k ∧
      R (.ok (.ret (.ref (zr3 s.heap i2 a b c).objs.size))) { s with heap := zr4 s.heap i2 a b c }) :=
  .of_wp fun prog w A R s h => by
    obtain ⟨hp, g, d, tk, os⟩ := s; refine oAA h fun hr hi h => ?_
    have hsub := sub_zip
    have hR : IsRange (Shared.heap ⟨hp, g, d, tk, os⟩) r a b c t u v := hr
    have hI : Heap.IsListIter (Shared.heap ⟨zr1 hp a b c, g, d, tk, os⟩) i2 l k := liAt hi fun o e => Heap.get?_push_of_some _ e
    wp_walk using wpAny_pyIter_range hR hsm, wpAny_pyIter_listiter hI
    exact ⟨_, rfl, h⟩
section
variable {prog : Program} {w : World} {A : Around} {E : Value → Shared → Prop} {s : Shared}
theorem call_zipR {r i2 l : Addr} {a b c : Int} {t u v : Tok} {k : Nat} {Q : Value → Shared → Prop} (hr : IsRange s.heap r a b c t u v) (hsm : Builtin.Range.small a b c = true) (hi : s.heap.IsListIter i2 l k)
    (h : ∀ h', IsZip h' (s.heap.objs.size + 3) (s.heap.objs.size + 1) (s.heap.objs.size + 2) .none → IsPair h' (s.heap.objs.size + 1) (.ref s.heap.objs.size) (.ref i2) →
      IsPair h' (s.heap.objs.size + 2) .none .none → IsRangeIter h' s.heap.objs.size a (Builtin.Range.rangeSize a b c) c → (∀ c o, s.heap.get? c = some o → h'.get? c = some o) → Q (.ref (s.heap.objs.size + 3)) { s with heap := h' }) :
    wpAny (model prog w) A (call (.type "zip") [.ref r, .ref i2]) Q E s := by
  refine callType_new F.called_zip (by decide) (F.typeCall_zip_2 _ _) (F.newCall_zip_2 _ _) (fun obj => F.args_object_init_3 obj _ _) F.entry_zip_new
    (meets_zipR r i2 l a b c t u v k hsm) ⟨hr, hi, ?_⟩
  have z1 : (zr1 s.heap a b c).objs.size = s.heap.objs.size + 1 := Heap.size_push ..
  have z2 : (zr2 s.heap i2 a b c).objs.size = s.heap.objs.size + 2 := by rw [Heap.size_push, z1]
  have z3 : (zr3 s.heap i2 a b c).objs.size = s.heap.objs.size + 3 := by rw [Heap.size_push, z2]
  have g4 : (zr4 s.heap i2 a b c).get? (zr3 s.heap i2 a b c).objs.size = some _ := Heap.get?_push_size _ rfl
  have g3 : (zr4 s.heap i2 a b c).get? (zr2 s.heap i2 a b c).objs.size = some _ := Heap.get?_push_of_some _ (Heap.get?_push_size _ rfl)
  have g2 : (zr4 s.heap i2 a b c).get? (zr1 s.heap a b c).objs.size = some _ := Heap.get?_push_of_some _ (Heap.get?_push_of_some _ (Heap.get?_push_size _ rfl))
  have g1 : (zr4 s.heap i2 a b c).get? s.heap.objs.size = some _ := Heap.get?_push_of_some _ (Heap.get?_push_of_some _ (Heap.get?_push_of_some _ (Heap.get?_push_size _ rfl)))
  rw [z1, z2, z3] at g4
  rw [z1] at g2
  rw [z2] at g3
  rw [z3]
  refine ⟨⟨_, g4, rfl⟩, h _ g4 g2 g3 g1 fun c o x => ?_⟩
  exact Heap.get?_push_of_some _ (Heap.get?_push_of_some _ (Heap.get?_push_of_some _ (Heap.get?_push_of_some _ x)))
end
end
-- part Obj0
section
open PySem PySem.W PyProof.Rows PySem.Calls
set_option maxRecDepth 100000
set_option maxHeartbeats 4000000
theorem lookup_object_new : typeLookup (.type "object") "__new__" = pure (some (.builtin "object.__new__")) := by rw [typeLookup_type, builtinLookup_eq_fast]; kernel_rfl
theorem called_object : TypeCalled "object" "object.__new__" "object.__init__" :=
  ⟨by decide +kernel, by decide +kernel, ⟨_, _, F.mro_object⟩, madeBy_type F.mro_object lookup_object_new (by decide +kernel), by decide +kernel, by rw [isSubtype_type]; kernel_rfl, F.slot_object_init⟩
theorem staticBase_object : Bind.staticBase (.type "object") = pure (.type "object") := by kernel_rfl
theorem isType_object : isType (.type "object") = pure true := by kernel_rfl
theorem madeHere_object : Bind.madeHere "object.__new__" (.type "object") = pure () := by
  unfold Bind.madeHere
  rw [staticBase_object, pure_bind, called_object.made, pure_bind]
  rfl
noncomputable def plainObj : Obj := { cls := .type "object", data := .plain }
theorem meets_object_new : Meets (Builtin.«object.__new__» ⟨[.type "object"], []⟩) (fun _ R s => R (.ok (.ret (.ref s.heap.objs.size))) { s with heap := s.heap.push plainObj }) :=
  .of_wp fun prog w A R s h => by
    unfold Builtin.«object.__new__»
    dsimp only
    rw [isType_object, madeHere_object]
    simp only [pure_bind, Bool.not_true, Bool.false_eq_true, if_false]
    have hd : typeHasDict (.type "object") = false := by decide +kernel
    have hr : ((Manifest.find? "object").elim false (·.mro.any fun t => (Manifest.find? t).elim false (·.noNew))) = false := by decide +kernel
    rw [hr, hd]
    simp only [pure_bind, Bool.false_eq_true, if_false]
    refine wpAny_bind (wpAny_newObj_type ?_ (by size_fits))
    rw [show diesByItsTypesDel "object" = false by decide +kernel]
    simp only [Bool.false_eq_true, if_false]
    exact wpAny_pure ⟨_, rfl, h⟩
section
variable {prog : Program} {w : World} {A : Around} {E Q : Value → Shared → Prop} {s : Shared}
theorem call_object0 (h : Q (.ref s.heap.objs.size) { s with heap := s.heap.push plainObj }) : wpAny (model prog w) A (call (.type "object") []) Q E s := by
  refine callType_meets (Q₁ := fun obj s₁ => s₁.TypeIs obj "object" ∧ Q obj s₁) called_object (by kernel_rfl) (by kernel_rfl) F.entry_object_new F.entry_object_init meets_object_new ⟨⟨_, Heap.get?_push_size _ rfl, rfl⟩, h⟩ fun obj s₁ hq => ⟨hq.1, oi_args _, fun _ R s => R (.ok (.ret .none)) s, ?_, rfl, hq.2⟩
  refine Meets.of_wp fun prog w A R s h => ?_
  rw [oi_run]
  exact wpAny_pure ⟨_, rfl, h⟩
end
end
-- part NsP
section
open PySem PySem.W PyProof.Rows PySem.Calls
set_option maxRecDepth 100000
set_option maxHeartbeats 4000000
section
variable {R : Nat → Nat → Bool}
theorem SWO.trans (h : SWO R) {a b c : Nat} (h1 : R a b = true) (h2 : R b c = true) : R a c = true := by
  rcases h.neg a c b h1 with q | q
  · exact q
  · have := h.asymm _ _ h2; rw [q] at this; cases this
noncomputable def Tot (R : Nat → Nat → Bool) : Prop := ∀ a b, a ≠ b → R a b = false → R b a = true
structure Best (R : Nat → Nat → Bool) (j : Nat) (l out : List Nat) : Prop where
  heap : HeapFrom (fun a b => R b a) 0 l
  perm : (out ++ l).Perm (List.range j)
  far : ∀ x ∈ out, ∀ y ∈ l, R y x = true
theorem Best.root (b : Best R j l out) (swo : SWO R) (tot : Tot R) {t : Nat} (h0 : l[0]? = some t) : ∀ y ∈ l, y ≠ t → R y t = true := by
  intro y hy hn
  refine oE (List.getElem_of_mem hy) fun i q955z1 => ?_; obtain ⟨hi, e⟩ := q955z1
  have := heap_root swo.flip b.heap h0 i y (by rw [List.getElem?_eq_getElem hi, e])
  exact tot _ _ (Ne.symm hn) this
theorem Best.nodup (b : Best R j l out) : (out ++ l).Nodup := (b.perm.nodup_iff).mpr List.nodup_range
theorem Best.lt (b : Best R j l out) : ∀ y ∈ l, y < j := fun y hy => List.mem_range.mp (b.perm.mem_iff.mp (List.mem_append_right _ hy))
theorem Best.ltO (b : Best R j l out) : ∀ y ∈ out, y < j := fun y hy => List.mem_range.mp (b.perm.mem_iff.mp (List.mem_append_left _ hy))
theorem set_zero_cons {t x : Nat} {r : List Nat} : (t :: r).set 0 x = x :: r := rfl
theorem Best.take (b : Best R j l out) (swo : SWO R) (tot : Tot R) {t : Nat} (h0 : l[0]? = some t) (hR : R j t = true) : Best R (j + 1) (siftupP (fun a b => R b a) (l.set 0 j) 0) (t :: out) := by
  have hl : 0 < l.length := by
    cases l with
    | nil => simp at h0
    | cons a r => simp
  have hp := siftupP_perm (lt := fun a b => R b a) (l.set 0 j) 0
  refine oE (by
    cases l with
    | nil => simp at hl
    | cons a r => simp at h0; exact ⟨r, by rw [h0]⟩ : ∃ r, l = t :: r) fun r q1947z1 => ?_; obtain rfl := q1947z1
  rw [set_zero_cons] at hp ⊢
  have hnd := b.nodup
  have hnt : t ∉ r := by
    have := (List.nodup_append.mp hnd).2.1
    exact (List.nodup_cons.mp this).1
  refine ⟨?_, ?_, ?_⟩
  · have := replace_heap swo.flip b.heap hl j
    rw [set_zero_cons] at this
    exact this
  · rw [List.range_succ]
    refine (List.Perm.append_left _ hp).trans ?_
    show (t :: (out ++ j :: r)).Perm _
    have h1 : (t :: (out ++ j :: r)).Perm (j :: (out ++ t :: r)) := by
      refine (List.Perm.cons t List.perm_middle).trans ((List.Perm.swap j t _).trans ?_)
      exact List.Perm.cons j List.perm_middle.symm
    exact h1.trans ((b.perm.cons j).trans (List.perm_append_comm (l₁ := [j]) (l₂ := List.range j)))
  · intro x hx y hy
    have hy' := hp.mem_iff.mp hy
    rcases List.mem_cons.mp hx with rfl | hx
    · rcases List.mem_cons.mp hy' with rfl | hy'
      · exact hR
      · exact b.root swo tot h0 y (.tail _ hy') fun e => hnt (e ▸ hy')
    · rcases List.mem_cons.mp hy' with rfl | hy'
      · exact swo.trans hR (b.far x hx t (.head _))
      · exact b.far x hx y (.tail _ hy')
theorem Best.drop (b : Best R j l out) (swo : SWO R) (tot : Tot R) {t : Nat} (h0 : l[0]? = some t) (hR : R j t = false) : Best R (j + 1) l (j :: out) := by
  have ht : t ∈ l := List.mem_of_getElem? h0
  have hj : R t j = true := tot _ _ (Nat.ne_of_gt (b.lt t ht)) hR
  refine ⟨b.heap, ?_, ?_⟩
  · rw [List.range_succ]
    exact (b.perm.cons j).trans (List.perm_append_comm (l₁ := [j]) (l₂ := List.range j))
  · intro x hx y hy
    rcases List.mem_cons.mp hx with rfl | hx
    · by_cases e : y = t
      · rw [e]; exact hj
      · exact swo.trans (b.root swo tot h0 y hy e) hj
    · exact b.far x hx y hy
theorem Best.start (swo : SWO R) (m : Nat) : Best R m (heapDown (fun a b => R b a) ((List.range m).length / 2) (List.range m)) [] :=
  ⟨heapify_heap swo.flip _, heapDown_perm _ _, fun x hx => nomatch hx⟩
theorem Best.first (b : Best R n l out) (swo : SWO R) {l' lS : List Nat} (hp : l'.Perm l) (hs : l'.Pairwise (fun x y => R x y = true)) (hS1 : lS.Perm (List.range n)) (hS2 : lS.Pairwise (fun x y => R x y = true)) : lS.take l.length = l' := by
  rw [← hp.length_eq]
  refine take_unique (R := fun x y => R x y = true) (fun a b h1 h2 => ?_) l' lS out hS2 hs ?_ fun x hx y hy => b.far x hx y (hp.mem_iff.mp hy)
  · have := swo.asymm _ _ h1; rw [h2] at this; cases this
  · exact ((List.Perm.append_left out hp).trans b.perm).trans hS1.symm
end
theorem one_first {lt : Nat → Nat → Bool} (swo : SWO lt) {i n : Nat} {lS : List Nat} (hi : i < n) (hb : ∀ j, j < n → j ≠ i → slt lt i j) (hS1 : lS.Perm (List.range n)) (hS2 : lS.Pairwise (slt lt)) : lS.take 1 = [i] := by
  have hm : i ∈ List.range n := List.mem_range.mpr hi
  refine take_unique (slt_asymm swo) [i] lS ((List.range n).erase i) hS2 (List.pairwise_singleton _ _) ?_ fun x hx y hy => ?_
  · exact (List.perm_append_comm.trans (List.perm_cons_erase hm).symm).trans hS1.symm
  · rw [List.mem_singleton.mp hy]
    have h1 : x ∈ List.range n := List.mem_of_mem_erase hx
    refine hb x (List.mem_range.mp h1) fun e => ?_
    rw [e, List.nodup_range.mem_erase_iff] at hx
    exact hx.1 rfl
theorem slice_take (vs : List Value) {y : Int} (h : 0 ≤ y) : (slicePick vs.toArray none (some y) none).toList = vs.take y.toNat := by
  have e : sliceBounds none (some y) none vs.toArray.size = (((0 : Nat) : Int), ((min y.toNat vs.toArray.size : Nat) : Int), 1) := by
    have h1 : (1 : Int) > 0 := by decide
    have h2 : ¬ y < 0 := by lia
    simp only [sliceBounds, Option.getD_none, if_pos h1, if_neg h2, Prod.mk.injEq]
    exact ⟨rfl, by lia, trivial⟩
  rw [kmk_pick_nat _ e]
  simp only [List.size_toArray, List.drop_zero, Nat.sub_zero]
  exact kmk_take_min vs y.toNat
theorem boot_AE : bootBuiltins (Str.ofString "AttributeError") = some (.type "AttributeError") := by kernel_rfl
structure Frs (A : Around) (s : Shared) (H : Heap) (Lp La : Addr) (op oa : Obj) : Prop where
  fr : ∃ ep ea, A.frames = some [ep, ea] ∧ ep.frame = some Lp ∧ ea.frame = some La ∧ ep.scope.kind ≠ .module ∧ ea.scope.kind ≠ .module
  p : s.heap.get? Lp = some op ∧ (∀ vs, op.data ≠ .fields vs) ∧ H.get? Lp = none
  a : s.heap.get? La = some oa ∧ (∀ vs, oa.data ≠ .fields vs) ∧ H.get? La = none
  pa : Lp ≠ La
noncomputable def Src (H : Heap) (s : Shared) (RA : Addr) (v : Value) (Lp La : Addr) (D : List Addr) : Prop := (v = .ref RA ∧ D = [Lp, La]) ∨ ∃ I oI, v = .ref I ∧ D = [I, Lp, La] ∧ s.heap.get? I = some oI ∧ IsLi oI RA 0 ∧ H.get? I = none
theorem Src.facts {A : Around} {H : Heap} {s : Shared} {RA Lp La : Addr} {op oa : Obj} {v : Value} {D : List Addr} (src : Src H s RA v Lp La D) (fr : Frs A s H Lp La op oa) : Lp ∈ D ∧ La ∈ D ∧ ∀ d ∈ D, H.get? d = none := by
  rcases src with ⟨rfl, rfl⟩ | ⟨I, oI, rfl, rfl, _, _, e⟩
  · refine ⟨.head _, .tail _ (.head _), fun d hd => ?_⟩
    simp only [List.mem_cons, List.not_mem_nil, or_false] at hd
    rcases hd with rfl | rfl
    · exact fr.p.2.2
    · exact fr.a.2.2
  · refine ⟨.tail _ (.head _), .tail _ (.tail _ (.head _)), fun d hd => ?_⟩
    simp only [List.mem_cons, List.not_mem_nil, or_false] at hd
    rcases hd with rfl | rfl | rfl
    · exact e
    · exact fr.p.2.2
    · exact fr.a.2.2
theorem stays_hides {H h : Heap} {D : List Addr} (st : H.StaysIn h) (hD : ∀ d ∈ D, H.get? d = none) : H.StaysIn (hideAll h D) := stays_hide st hD
theorem hide_news {h h₁ : Heap} {D : List Addr} {b L : Addr} {o : Obj} (hb : b ∈ D) (e : h.get? b = some o) (k : ∀ b o, h.get? b = some o → h₁.get? b = some o) (hL : L = h.objs.size) : h₁.get? b = some o ∧ b ≠ L ∧ (hideAll h D).get? b = none :=
  ⟨k _ _ e, by rw [hL]; exact Nat.ne_of_lt (Heap.lt_size e), hideAll_none _ hb⟩
noncomputable def SrcAt (h₀ : Heap) (L : Addr) (h : Heap) (RA : Addr) (v : Value) (news : List (Addr × Obj)) : Prop :=
  v = .ref RA ∨ ∃ I oI, v = .ref I ∧ h.get? I = some oI ∧ I ≠ L ∧ h₀.get? I = none ∧ IsLi oI RA 0 ∧ ∀ p ∈ news, p.1 ≠ I
section
variable {prog : Program} {w : World} {A : Around} {E Q : Value → Shared → Prop} {s : Shared} {h₀ : Heap} {L RA : Addr} {m : Str → Option Value} {news : List (Addr × Obj)} {v : Value} {its : List Value} {n : Nat}
theorem iter_src (F : Fr h₀ L s.heap m) (N : News h₀ L s.heap news) (src : SrcAt h₀ L s.heap RA v news) (hl : s.heap.get? RA = some (listOf its.toArray n))
    (h : ∀ J oJ h', Fr h₀ L h' m → News h₀ L h' ((J, oJ) :: news) → IsLi oJ RA 0 → (∀ p ∈ news, p.1 ≠ J) → J ≠ RA → Q (.ref J) { s with heap := h' }) : wpAny (model prog w) A (call (.builtin "iter") [v]) Q E s := by
  refine call_iter ?_
  rcases src with rfl | ⟨I, oI, rfl, eI, hIL, hI0, cI, ap⟩
  · refine wpAny_pyIter_list (PySem.IsL.isList (n := n) hl) ?_
    have fI := fresh_base F (Heap.get?_none_of_le (Nat.le_refl _))
    refine h _ _ _ (F.push _) (newsCons (N.grown fun _ _ e => Heap.get?_push_of_some _ e) (Heap.get?_push_size _ rfl) fI.1 fI.2) ⟨rfl, rfl⟩ (fun p hp => Nat.ne_of_lt (Heap.lt_size (N p hp).1)) (Nat.ne_of_gt (Heap.lt_size hl))
  · refine wpAny_pyIter_listiter ⟨oI, eI, cI⟩ (h I oI _ F (newsCons N eI hIL hI0) cI ap ?_)
    rintro rfl
    rw [eI] at hl
    cases hl
    exact absurd cI.1 (by simp)
end
section
variable {prog : Program} {w : World} {A : Around} {E : Value → Shared → Prop} {s : Shared} {h₀ : Heap} {m : Str → Option Value} {env : Env}
theorem comp_finA {y : Str} {py : Pos} {P : Unit → Shared → Prop} {C : Addr} {oC : Obj} {m₂ : Str → Option Value} {news : List (Addr × Obj)} {v : Value} (F : Fr h₀ env.locals s.heap m) (N : News h₀ env.locals s.heap ((C, oC) :: news)) (hoC : LCg.NsObj oC m₂) (off : ∀ p ∈ news, p.1 ≠ C)
    (hy : env.kindOf y = some .local) (hp : (env.scope.kind == .class || (env.scope.kind == .module && env.locals != env.globals)) = false)
    (fin : ∀ h₂, (∃ mC, h₂.Ns C mC) → (∀ h', Heap.SameBut C h₂ h' → Fr h₀ env.locals h' (fun z => if z = y then some v else m z) ∧ News h₀ env.locals h' news) → P () { s with heap := h₂, toks := s.toks + 1 }) :
    wpAny (model prog w) A (assign (.Name y py) env v) P E s := by
  have zC := N _ (.head _)
  refine wpAny_assign_Name (wpAny_storeName_local hy F.ns (fun h₂ hn₂ hs₂ => ?_) hp)
  have hL₀ : h₀.get? env.locals = none := Heap.get?_none_of_le F.above
  have F₂ : Fr h₀ env.locals h₂ (fun z => if z = y then some v else m z) := ⟨hn₂, fun b o e => hs₂.extBut b o (fun q => by rw [q, hL₀] at e; cases e) (F.keep b o e), F.above⟩
  have N2 : News h₀ env.locals h₂ news := fun p hp => ⟨hs₂.extBut _ _ (newsTail N p hp).2.1 (newsTail N p hp).1, (newsTail N p hp).2⟩
  refine fin h₂ ⟨m₂, (hoC.ns zC.1).sameBut hs₂ zC.2.1⟩ fun h' hs' => ?_
  have K := Keep.ofSame hs'
  exact ⟨frKeep1 F₂ K zC.2, newsKeep N2 K fun p hp => by simpa using off p hp⟩
end
noncomputable def ItAt (o : Obj) (RA : Addr) (j n : Nat) : Prop := IsLi o RA j ∨ (j = n ∧ ∃ y, o.cls = .type "list_iterator" ∧ o.data = .fields #[.none, y])
theorem gone_obj {h : Heap} {it : Addr} (g : Gone h it) : ∃ o, h.get? it = some o ∧ ∃ y, o.cls = .type "list_iterator" ∧ o.data = .fields #[.none, y] := let ⟨o, y, e, c, d⟩ := g; ⟨o, e, y, c, d⟩
theorem rangeSize_up (n : Int) : Builtin.Range.rangeSize 0 n 1 = max n 0 := by rw [rangeSize_one]; split <;> lia
theorem rangeSize_dn (n : Int) : Builtin.Range.rangeSize 0 (-n) (-1) = max n 0 := by
  unfold Builtin.Range.rangeSize
  rw [if_neg (show ¬ ((-1 : Int) > 0) by decide), show (-(-1) : Int) = 1 by decide, Int.ediv_one]
  split <;> lia
theorem small_up {n : Int} (h0 : -10 ≤ n) (h1 : n ≤ 100) : Builtin.Range.small 0 n 1 = true := by
  unfold Builtin.Range.small
  rw [rangeSize_up]
  simp only [Builtin.Range.rangeFitsLong, Bool.and_eq_true, decide_eq_true_eq, Bool.or_eq_true, beq_iff_eq]
  refine ⟨⟨⟨⟨?_, ?_⟩, ?_⟩, ?_⟩, ?_⟩ <;> first | lia | (right; rw [if_pos (by decide)]; simp only [Bool.and_eq_true, decide_eq_true_eq]; lia)
theorem small_dn {n : Int} (h0 : -10 ≤ n) (h1 : n ≤ 100) : Builtin.Range.small 0 (-n) (-1) = true := by
  unfold Builtin.Range.small
  rw [rangeSize_dn]
  simp only [Builtin.Range.rangeFitsLong, Bool.and_eq_true, decide_eq_true_eq, Bool.or_eq_true, beq_iff_eq]
  refine ⟨⟨⟨⟨?_, ?_⟩, ?_⟩, ?_⟩, ?_⟩ <;> first | lia | (right; rw [if_neg (by decide)]; simp only [Bool.and_eq_true, decide_eq_true_eq]; lia)
section
variable {prog : Program} {w : World} {A : Around} {E : Value → Shared → Prop} {s : Shared} {h₀ : Heap} {L : Addr} {m : Str → Option Value} {news : List (Addr × Obj)} {p : Program} {loose : List Str} {mean : ExcName → Option Value} {mg mb : Str → Option Value}
theorem range_up {n : Int} {t : Tok} {Q : Value → Shared → Prop} (T : Top p loose mean mg mb h₀) (F : Fr h₀ L s.heap m) (N : News h₀ L s.heap news) (h : ∀ r h' tk t u v, Fr h₀ L h' m → News h₀ L h' news → IsRange h' r 0 n 1 t u v → Q (.ref r) { s with heap := h', toks := tk }) : wpAny (model prog w) A (call (.type "range") [.int n t]) Q E s :=
  call_range_1 (h _ _ _ _ _ _ (F.push _) (N.grown fun _ _ e => Heap.get?_push_of_some _ e) (Heap.get?_push_size _ rfl))
theorem range_dn {n : Int} {t0 t1 t2 : Tok} {Q : Value → Shared → Prop} (T : Top p loose mean mg mb h₀) (F : Fr h₀ L s.heap m) (N : News h₀ L s.heap news) (hn : n.natAbs < 1000) (h : ∀ r h' tk t u v, Fr h₀ L h' m → News h₀ L h' news → IsRange h' r 0 (-n) (-1) t u v → Q (.ref r) { s with heap := h', toks := tk }) : wpAny (model prog w) A (call (.type "range") [.int 0 t0, .int (-n) t1, .int (-1) t2]) Q E s :=
  call_range_3 (by decide) (h _ _ _ _ _ _ (F.push _) (N.grown fun _ _ e => Heap.get?_push_of_some _ e) (Heap.get?_push_size _ rfl))
end
section
variable {prog : Program} {w : World} {A : Around} {E : Value → Shared → Prop} {s : Shared}
theorem it_iter {J RA : Addr} {o : Obj} {j n : Nat} {Q : Value → Shared → Prop} (e : s.heap.get? J = some o) (h : ItAt o RA j n) (hq : Q (.ref J) s) : wpAny (model prog w) A (pyIter (.ref J)) Q E s := by
  rcases h with h | ⟨_, y, hc, hd⟩
  · exact wpAny_pyIter_listiter ⟨o, e, h⟩ hq
  · exact li_iter ⟨o, y, e, hc, hd⟩ hq
theorem it_end {J RA : Addr} {o : Obj} {n : Nat} {its : List Value} {Q : Option Value → Shared → Prop} (hA : A.handled = none) (e : s.heap.get? J = some o) (h : ItAt o RA n n) (hl : s.heap.IsList RA its.toArray) (hn : its.length = n) (hq : ∀ h', Keep [J] s.heap h' → Q none { s with heap := h' }) : wpAny (model prog w) A (pyNext (.ref J)) Q E s := by
  rcases h with h | ⟨_, y, hc, hd⟩
  · exact wpAny_pyNext_list_end hA ⟨o, e, h⟩ hl (by simp; lia) fun h' hx => hq h' (Keep.ofExt hx)
  · exact li_over hA ⟨o, y, e, hc, hd⟩ fun h' K => hq h' (K.mono fun x hx => nomatch hx)
theorem cmp_lt {v v' : Value} {b : Bool} {Q : Value → Shared → Prop} (h : LtAt A s v v' b) (hq : Q (.bool b) s) : wpAny (model prog w) A (compareOp .Lt v v') Q E s :=
  show wpAny (model prog w) A (richCompare .Lt v v') Q E s from h prog w E Q hq
theorem cmp_lt2 {v v' : Value} {b c : Bool} {Q : Value → Shared → Prop} (h : LtAt A s v v' b) (hb : b = c) (hq : Q (.bool c) s) : wpAny (model prog w) A (compareOp .Lt v v') Q E s := cmp_lt h (hb ▸ hq)
end
theorem isTup3 {h : Heap} {a : Addr} {x y z : Value} {n : Nat} (e : h.get? a = some { cls := .type "tuple", data := .seq (x :: y :: [z]).toArray n }) : IsTup h a #[x, y, z] := ⟨_, e, rfl, _, rfl⟩
theorem insAt_congr {b b' : Nat → Nat → Bool} {x : Nat} : ∀ {l : List Nat}, (∀ y ∈ l, b x y = b' x y) → insAt b x l = insAt b' x l
  | [], _ => rfl
  | y :: ys, h => by
    unfold insAt
    rw [h y (.head _), insAt_congr fun z hz => h z (.tail _ hz)]
theorem ordP_congr {b b' : Nat → Nat → Bool} : ∀ n : Nat, (∀ p q, p < n → q < n → b p q = b' p q) → ordP b n = ordP b' n
  | 0, _ => rfl
  | n + 1, h => by
    rw [ordP_succ, ordP_succ, ordP_congr n fun p q hp hq => h p q (Nat.lt_succ_of_lt hp) (Nat.lt_succ_of_lt hq)]
    exact insAt_congr fun y hy => h n y (Nat.lt_succ_self n) (Nat.lt_succ_of_lt (List.mem_range.mp ((ordP_perm b' n).mem_iff.mp hy)))
theorem bef_eq {top : Nat} {R : Nat → Nat × Nat × Nat} (h0 : 0 < top) (h1 : top ≤ 256) (hR : RowsIn top R) (pk : List Nat) (n : Nat) (f : Bool) {p q : Nat} (hp : p < n) (hq : q < n) : befOf ((List.range n).map fun i => pk.map (frc top R i)) f p q = dirLt f (ltOf top R pk) p q := by
  have g : ∀ i, i < n → ((List.range n).map fun i => pk.map (frc top R i)).getD i [] = pk.map (frc top R i) := fun i hi => by simp [hi]
  unfold befOf dirLt
  rw [g p hp, g q hq, aheadP_eq h0 h1 hR, aheadP_eq h0 h1 hR]
theorem frFrame {h₀ h h' : Heap} {L : Addr} {D : List Addr} {m : Str → Option Value} {o : Obj} {sl : Array (Option Value)} (F : Fr h₀ L h m) (ho : h.get? L = some o) (e : h'.get? L = some { o with slots := sl }) (K : Keep D h h') (hD : ∀ d ∈ D, h₀.get? d = none) : Fr h₀ L h' m := by
  refine oEEEA F.ns fun o' es ep ho' r => ?_
  rw [ho] at ho'; cases ho'
  exact ⟨⟨_, es, ep, e, r⟩, fun b x q => K b x (fun hd => by rw [hD b hd] at q; cases q) (F.keep b x q), F.above⟩
theorem Src.at {H : Heap} {s : Shared} {RA Lp La L' : Addr} {op oa : Obj} {v : Value} {D : List Addr} {h₁ : Heap} (src : Src H s RA v Lp La D) (gp : s.heap.get? Lp = some op) (ndp : ∀ vs, op.data ≠ .fields vs) (ga : s.heap.get? La = some oa) (nda : ∀ vs, oa.data ≠ .fields vs)
    (hk : ∀ b o, s.heap.get? b = some o → h₁.get? b = some o) (hL : L' = s.heap.objs.size) : SrcAt (hideAll s.heap D) L' h₁ RA v [(Lp, op), (La, oa)] := by
  rcases src with ⟨e, -⟩ | ⟨I, oI, e, eD, e1, e2, -⟩
  · exact .inl e
  · have ne : ∀ {o : Obj} {a : Addr}, s.heap.get? a = some o → (∀ vs, o.data ≠ .fields vs) → a ≠ I := fun g nd q => nd _ ((congrArg Obj.data (Option.some.inj ((q ▸ g).symm.trans e1))).trans e2.2)
    exact .inr ⟨I, oI, e, hk _ _ e1, hL ▸ Nat.ne_of_lt (Heap.lt_size e1), hideAll_none _ (eD ▸ .head _), e2, fun p hp => (List.mem_cons.mp hp).elim (fun q => q ▸ ne gp ndp) fun q => List.mem_singleton.mp q ▸ ne ga nda⟩
theorem hide_non {h : Heap} {D : List Addr} {a : Addr} (e : (hideAll h D).get? a = none) : a ∈ D ∨ h.get? a = none := by
  by_cases q : a ∈ D
  · exact .inl q
  · cases q2 : h.get? a with
    | none => exact .inr rfl
    | some o => exact nomatch (hideAll_get _ q2 q).symm.trans e
theorem SrcAt.more {h₀ h : Heap} {L RA c Lp La : Addr} {v : Value} {op oa op' oa' oc : Obj} {x : Option Value} (src : SrcAt h₀ L h RA v [(Lp, op), (La, oa)]) (ec : h.get? c = some oc) (hoc : oc.data = .cell x) : SrcAt h₀ L h RA v [(c, oc), (Lp, op'), (La, oa')] := by
  rcases src with e | ⟨I, oI, e1, e2, e3, e4, e5, e6⟩
  · exact .inl e
  · have k : ∀ {p : Addr × Obj} {b : Addr} {ob : Obj}, p = (b, ob) → b ≠ I → p.1 ≠ I := fun q n r => n ((congrArg Prod.fst q).symm.trans r)
    exact .inr ⟨I, oI, e1, e2, e3, e4, e5, fun p hp => (List.mem_cons.mp hp).elim (fun q => k q fun r => nomatch hoc.symm.trans ((congrArg Obj.data (Option.some.inj (ec.symm.trans (r ▸ e2)))).trans e5.2)) fun hp => (List.mem_cons.mp hp).elim (fun q => k q (e6 _ (.head _))) fun q => k (List.mem_singleton.mp q) (e6 _ (.tail _ (.head _)))⟩
theorem cell_ne {h : Heap} {L a : Addr} {o : Obj} (hL : L = h.objs.size) (g : h.get? a = some o) : L + 1 ≠ a := fun q => Nat.not_lt.mpr (Nat.le_succ _) ((hL ▸ q : h.objs.size + 1 = a) ▸ Heap.lt_size g)
theorem notin3 {a x y z : Addr} (h1 : a ≠ x) (h2 : a ≠ y) (h3 : a ≠ z) : a ∉ [x, y, z] := fun h => (List.mem_cons.mp h).elim h1 fun h => (List.mem_cons.mp h).elim h2 fun h => h3 (List.mem_singleton.mp h)
theorem nofields3 {h : Heap} {x y z : Addr} {ox oy oz : Obj} (e1 : h.get? x = some ox) (n1 : ∀ vs, ox.data ≠ .fields vs) (e2 : h.get? y = some oy) (n2 : ∀ vs, oy.data ≠ .fields vs) (e3 : h.get? z = some oz) (n3 : ∀ vs, oz.data ≠ .fields vs) : ∀ b o, b ∈ [x, y, z] → h.get? b = some o → ∀ vs, o.data ≠ .fields vs := fun b o hb e => by
  have k : ∀ {c : Addr} {oc : Obj}, b = c → h.get? c = some oc → (∀ vs, oc.data ≠ .fields vs) → ∀ vs, o.data ≠ .fields vs := fun q g n => Option.some.inj (g.symm.trans (q ▸ e)) ▸ n
  exact (List.mem_cons.mp hb).elim (fun q => k q e1 n1) fun hb => (List.mem_cons.mp hb).elim (fun q => k q e2 n2) fun hb => k (List.mem_singleton.mp hb) e3 n3
end
-- part NsS
section
open PySem PySem.W PyProof.Rows PySem.Calls PySem.Flt
set_option maxRecDepth 100000
set_option maxHeartbeats 4000000
theorem fillNsS : True := by
  w_top off
  trivial
section
variable {w : World} {A : Around} {s : Shared} {H : Heap} {G : PM} {p : Program} {loose : List Str} {mean : ExcName → Option Value} {mg mb : Str → Option Value} {Q E : Value → Shared → Prop}
inductive NsSIC (s : Shared) (h₀ : Heap) (L' : Addr) (Lp : Addr) (La : Addr) (RA : Addr) (J : Addr) (ra : List Addr) (kb : Nat → List UInt64) (d : Nat) (oc : Obj) (op : Obj) (oa : Obj) (sp : Array (Option Value)) (sa : Array (Option Value)) (wish : Int) (tw : Tok) (mm : Str → Option Value) : Value → Shared → Addr → Addr → Nat → Shared → Prop
  | mk {it : Value} {s₂ : Shared} {C : Addr} {Dl : Addr} {n : Nat} {s' : Shared} : ∀ (z TI TO i1 : Addr), ∀ (j nn : Nat), ∀ (u1 u2 : Value), ∀ (oC oI : Obj), ∀ (left : Int), ∀ (m₂ : Str → Option Value), ∀ (f : Nat → Value), ∀ (ks : Nat → Key), ∀ (os : Nat → Int), ∀ (rest : Nat → List Value), ∀ (ents : List (Addr × Obj)), ∀ (h' : Heap), ∀ (tk' : Nat), (it = .ref z) → (s' = { s with heap := h', toks := tk' }) → (Fr h₀ L' h' (known [("n", .int wish tw), ("it", .ref J)] mm)) → (News h₀ L' h' ((C, oC) :: (Dl, lst ((List.range j).map f) nn) :: (z, zipObj .none TI TO) :: (TO, prObj u1 u2) :: (i1, riObj ((j : Int)) left 1) :: (J, oI) :: (TI, prObj (.ref i1) (.ref J)) :: (L' + 1, oc) :: (Lp, { op with slots := sp }) :: (La, { oa with slots := sa }) :: ents)) → (ZApart z TI TO i1 J RA) → ((C ≠ Dl ∧ C ≠ z ∧ C ≠ TO ∧ C ≠ i1 ∧ C ≠ J ∧ Dl ≠ z ∧ Dl ≠ TO ∧ Dl ≠ i1 ∧ Dl ≠ J)) → ((∀ p ∈ (TI, prObj (.ref i1) (.ref J)) :: (L' + 1, oc) :: (Lp, { op with slots := sp }) :: (La, { oa with slots := sa }) :: ents, p.1 ≠ C ∧ p.1 ≠ Dl ∧ p.1 ≠ z ∧ p.1 ≠ TO ∧ p.1 ≠ i1 ∧ p.1 ≠ J)) → (IsLi oI RA j) → (LCg.NsObj oC m₂) → (j + n = ra.length) → (left = max wish 0 - j) → (j ≤ wish.toNat) → (Ents (gOf h₀ ents) tk' kb true 1 d f ks os rest (List.range j)) → ((∀ i, i < j → os i = (i : Int))) → ((∀ i, i < j → rest i = [.ref (ra.getD i 0)])) → NsSIC s h₀ L' Lp La RA J ra kb d oc op oa sp sa wish tw mm it s₂ C Dl n s'
inductive NsSI1 (s : Shared) (h₀ : Heap) (L' : Addr) (Lp : Addr) (La : Addr) (RA : Addr) (v : Value) (oc : Obj) (op : Obj) (oa : Obj) (wish : Int) (tw : Tok) : Shared → Prop
  | mk {s' : Shared} : (wish ≠ 1) → ∀ (h' : Heap), ∀ (tk' : Nat), ∀ (m : Str → Option Value), ∀ (sp sa : Array (Option Value)), (s' = { s with heap := h', toks := tk' }) → (Fr h₀ L' h' m) → (News h₀ L' h' [(L' + 1, oc), (Lp, { op with slots := sp }), (La, { oa with slots := sa })]) → (m "n" = some (.int wish tw)) → (m "iterable" = some v) → (SrcAt h₀ L' h' RA v [(L' + 1, oc), (Lp, { op with slots := sp }), (La, { oa with slots := sa })]) → NsSI1 s h₀ L' Lp La RA v oc op oa wish tw s'
inductive NsSI2 (s : Shared) (h₀ : Heap) (L' : Addr) (Lp : Addr) (La : Addr) (RA : Addr) (v : Value) (oc : Obj) (op : Obj) (oa : Obj) (wish : Int) (tw : Tok) : Shared → Prop
  | mk {s' : Shared} : ∀ (h' : Heap), ∀ (tk' : Nat), ∀ (m : Str → Option Value), ∀ (sp sa : Array (Option Value)), (s' = { s with heap := h', toks := tk' }) → (Fr h₀ L' h' m) → (News h₀ L' h' [(L' + 1, oc), (Lp, { op with slots := sp }), (La, { oa with slots := sa })]) → (m "n" = some (.int wish tw)) → (m "iterable" = some v) → (SrcAt h₀ L' h' RA v [(L' + 1, oc), (Lp, { op with slots := sp }), (La, { oa with slots := sa })]) → NsSI2 s h₀ L' Lp La RA v oc op oa wish tw s'
noncomputable def NsSI3 (s : Shared) (h₀ : Heap) (L' : Addr) (Lp : Addr) (La : Addr) (RA : Addr) (J : Addr) (ra : List Addr) (kb : Nat → List UInt64) (d : Nat) (oc : Obj) (op : Obj) (oa : Obj) (sp : Array (Option Value)) (sa : Array (Option Value)) (wish : Int) (tw : Tok) (ZZ : Flow → Shared → Prop) : Prop := ∀ (Dl : Addr), ∀ (j nn : Nat), ∀ (oI : Obj), ∀ (f : Nat → Value), ∀ (ks : Nat → Key), ∀ (os : Nat → Int), ∀ (rest : Nat → List Value), ∀ (ents : List (Addr × Obj)), ∀ (h' : Heap), ∀ (tk' : Nat), ∀ (m : Str → Option Value), (Fr h₀ L' h' m) → (News h₀ L' h' ((Dl, lst ((List.range j).map f) nn) :: (J, oI) :: (L' + 1, oc) :: (Lp, { op with slots := sp }) :: (La, { oa with slots := sa }) :: ents)) → (m "n" = some (.int wish tw)) → (m "it" = some (.ref J)) → (m "result" = some (.ref Dl)) → (Dl ≠ J) → ((∀ p ∈ (L' + 1, oc) :: (Lp, { op with slots := sp }) :: (La, { oa with slots := sa }) :: ents, p.1 ≠ Dl ∧ p.1 ≠ J)) → (ItAt oI RA j ra.length) → (j = min wish.toNat ra.length) → (Ents (gOf h₀ ents) tk' kb true 1 d f ks os rest (List.range j)) → ((∀ i, i < j → os i = (i : Int))) → ((∀ i, i < j → rest i = [.ref (ra.getD i 0)])) → ZZ (.next) ({ s with heap := h', toks := tk' })
noncomputable def NsSI4 (s : Shared) (h₀ : Heap) (L' : Addr) (Lp : Addr) (La : Addr) (Dl : Addr) (ra : List Addr) (kb : Nat → List UInt64) (d : Nat) (j : Nat) (oc : Obj) (op : Obj) (oa : Obj) (sp : Array (Option Value)) (sa : Array (Option Value)) (ZZ : Flow → Shared → Prop) : Prop := ∀ (l out : List Nat), ∀ (nh : Nat), ∀ (f : Nat → Value), ∀ (ks : Nat → Key), ∀ (os : Nat → Int), ∀ (rest : Nat → List Value), ∀ (ents : List (Addr × Obj)), ∀ (h' : Heap), ∀ (tk' : Nat), ∀ (m : Str → Option Value), (Fr h₀ L' h' m) → (News h₀ L' h' ((Dl, listOf (l.map f).toArray nh) :: (L' + 1, oc) :: (Lp, { op with slots := sp }) :: (La, { oa with slots := sa }) :: ents)) → (m "result" = some (.ref Dl)) → ((∀ p ∈ (L' + 1, oc) :: (Lp, { op with slots := sp }) :: (La, { oa with slots := sa }) :: ents, p.1 ≠ Dl)) → (Best (rlt true kb) ra.length l out) → (l.length = j) → (Ents (gOf h₀ ents) tk' kb true 1 d f ks os rest l) → ((∀ i ∈ l, rest i = [.ref (ra.getD i 0)])) → ZZ (.next) ({ s with heap := h', toks := tk' })
noncomputable def NsSI5 (s : Shared) (h₀ : Heap) (L' : Addr) (Lp : Addr) (La : Addr) (RA : Addr) (J : Addr) (Dl : Addr) (ra : List Addr) (kb : Nat → List UInt64) (d : Nat) (j : Nat) (oc : Obj) (op : Obj) (oa : Obj) (sp : Array (Option Value)) (sa : Array (Option Value)) (c : Nat) (ZZ : Value → Shared → Prop) : Prop := ∀ (l out : List Nat), ∀ (jj nh : Nat), ∀ (oI : Obj), ∀ (f : Nat → Value), ∀ (ks : Nat → Key), ∀ (os : Nat → Int), ∀ (rest : Nat → List Value), ∀ (ents : List (Addr × Obj)), ∀ (h' : Heap), ∀ (tk' : Nat), ∀ (m : Str → Option Value), ∀ (od : Int), ∀ (ot : Tok), ∀ (t : Nat), ∀ (ea kt : Addr), ∀ (en ktn : Nat), ∀ (et : Tok), (Fr h₀ L' h' m) → (News h₀ L' h' ((Dl, listOf (l.map f).toArray nh) :: (J, oI) :: (L' + 1, oc) :: (Lp, { op with slots := sp }) :: (La, { oa with slots := sa }) :: ents)) → (m "result" = some (.ref Dl)) → (m "top" = some (.ref kt)) → (m "order" = some (.int od ot)) → (m "_heapreplace" = some (.ref 49)) → ((∀ p ∈ (L' + 1, oc) :: (Lp, { op with slots := sp }) :: (La, { oa with slots := sa }) :: ents, p.1 ≠ Dl ∧ p.1 ≠ J)) → (Best (rlt true kb) jj l out) → (l.length = j) → (ItAt oI RA jj ra.length) → (jj + c = ra.length) → (Ents (gOf h₀ ents) tk' kb true 1 d f ks os rest l) → ((∀ i ∈ l, rest i = [.ref (ra.getD i 0)])) → ((∀ i ∈ l, os i < od)) → (od.natAbs < 1000 + jj) → (l[0]? = some t) → (f t = .ref ea) → (gOf h₀ ents ea = some { cls := .type "tuple", data := .seq (.ref kt :: .int (os t) et :: rest t).toArray en }) → (gOf h₀ ents kt = some (listOf (kvals (ks t)).toArray ktn)) → ZZ (.ref J) ({ s with heap := h', toks := tk' })
theorem nsmallest_ok {Kf RA Lp La : Addr} {op oa : Obj} {ra : List Addr} {kb : Nat → List UInt64} {d n : Nat} {wish : Int} {tw : Tok} {v : Value} {D : List Addr} {lt : Nat → Nat → Bool} {lS : List Nat}
    (X₀ : (hd.heap_1 w.params).In H) (T : Top p loose mean mg mb H) (st : H.StaysIn s.heap) (hA : A.handled = none) (hu : A.units + 1200 < cLine) (hroom : A.depth + 10 < recursionLimit)
    (hK : KeyOk w H Kf ra kb d) (hRA : H.get? RA = some (listOf (ra.map Value.ref).toArray n)) (h2 : 2 ≤ ra.length) (h64 : ra.length < 64) (hex : ∀ a ∈ ra, ∃ o, H.get? a = some o ∧ o.cls = .type "list")
    (swo : SWO lt) (hlt : ∀ i j, kLt (kb i) (kb j) = lt i j) (hgt : ∀ i j, kGt (kb i) (kb j) = lt j i) (hr : ∀ i j, (rlt true kb) i j = true ↔ slt lt i j)
    (hw0 : -10 ≤ wish) (hw1 : wish ≤ 100) (frs : Frs A s H Lp La op oa) (src : Src H s RA v Lp La D) (hS1 : lS.Perm (List.range ra.length)) (hS2 : lS.Pairwise (slt lt))
    (hq : ∀ (h' : Heap) (tk' : Nat) (a : Addr) (nn : Nat) (sp sa : Array (Option Value)), Keep D s.heap h' → h'.get? Lp = some { op with slots := sp } → h'.get? La = some { oa with slots := sa } → (a ∈ D ∨ s.heap.get? a = none) → h'.get? a = some (listOf ((lS.take wish.toNat).map fun i => Value.ref (ra.getD i 0)).toArray nn) →
      Q (.ref a) { s with heap := h', toks := tk' }) :
    wpAny (model PySem.Challenge.rw_mq0320_01.row.prog w) A (call (.ref 90) [.int wish tw, v] [(Str.ofString "key", .ref Kf)]) Q E s := by
  refine oAA (src.facts frs) fun hpD haD hD => ?_
  refine oEEAAAA frs.fr fun ep ea hframes hfp hfa hkp hka => ?_
  have gp := frs.p.1
  have ndp := frs.p.2.1
  have ga := frs.a.1
  have nda := frs.a.2.1
  have hpa := frs.pa
  refine wpAny_call ?_
  refine' callFC (binds := [("n", .int wish tw), ("iterable", v), ("key", .ref Kf)]) D ?k6 ?k7 (X₀.keeps st) (T.nolimit.keeps st) (by first | exact room1 hroom | lia) ?k9 ?kB ?kD ?_ ?c2 ?c3 ?c4
  case k6 => k_is
  case k7 => k_is
  case k9 => exact binds_K (X₀.keeps st) rfl (by k_is) rfl rfl rfl
  case kB => exact rfl
  case kD => decide +kernel
  case c2 => exact rfl
  case c3 => exact rfl
  case c4 => exact rfl
  intro L' h₁ tk₁ cells F N Y hk₁ hL htk₁
  have st' : H.StaysIn (hideAll s.heap D) := stays_hide st hD
  have X' := X₀.keeps st'
  have T' := T.keeps st'
  have hHS : Stat H.get? := stat_K X₀
  have zp := hide_news hpD gp hk₁ hL
  have za := hide_news haD ga hk₁ hL
  have hsrc : SrcAt (hideAll s.heap D) L' h₁ RA v [(Lp, op), (La, oa)] := Src.at src gp ndp ga nda hk₁ hL
  have hfin : ∀ h', (hideAll s.heap D).StaysIn h' → Keep D s.heap h' := fun h' q => keep_hide q
  have hnon : ∀ a, (hideAll s.heap D).get? a = none → a ∈ D ∨ s.heap.get? a = none := fun a e => hide_non e
  have hsS : Stat (hideAll s.heap D).get? := stat_K X'
  have F0 : Fr (hideAll s.heap D) L' h₁ _ := F
  have N0 : News (hideAll s.heap D) L' h₁ cells := N
  generalize hideAll s.heap D = h₀ at *
  clear F N
  k_cells Y
  refine oEA (⟨_, by assumption, N0⟩ : ∃ oc : Obj, oc.data = .cell (some (.ref Kf)) ∧ News h₀ L' h₁ [(L' + 1, oc)]) fun oc hoc N1 => ?_
  have F1 := frKnown F0 [("n", .int wish tw), ("iterable", v)] (allc (rfl) (allc (rfl) alln))
  have N2 : News h₀ L' h₁ [(L' + 1, oc), (Lp, { op with slots := op.slots }), (La, { oa with slots := oa.slots })] := newsCons (newsCons (newsCons (fun p hp => nomatch hp) za.1 za.2.1 za.2.2) zp.1 zp.2.1 zp.2.2) (N1 _ (.head _)).1 (N1 _ (.head _)).2.1 (N1 _ (.head _)).2.2
  have src1 : SrcAt h₀ L' h₁ RA v [(L' + 1, oc), (Lp, { op with slots := op.slots }), (La, { oa with slots := oa.slots })] := SrcAt.more hsrc (N1 _ (.head _)).1 hoc
  have hcp : L' + 1 ≠ Lp := cell_ne hL gp
  have hca : L' + 1 ≠ La := cell_ne hL ga
  clear hsrc F0 N0 N1
  repeat' (first | ((fail_if_success (with_reducible refine isIf ?_)); walk_at "go2") | (dsimp only; (fail_if_success (with_reducible refine isIf ?_)); walk_at "go2"))
  refine cut (fun f s' => Box (match f with
      | .ret x => Q x s'
      | .next => (NsSI1 s h₀ L' Lp La RA v oc op oa wish tw) s'
      | _ => False)) ?_ ?_
  · walk_at "got"
    · rename wish = 1 => hw
      rename Fr _ _ _ _ => F2
      rename News _ _ _ _ => N2
      refine iter_src F2 N2 src1 (F2.keep _ _ (st' _ _ hRA)) fun J oJ h3 F3 N3 cJ apJ hJR => ?_
      clear F2 N2
      walk_at "got"
      rename Fr _ _ _ _ => F4
      rename News _ _ _ _ => N4
      refine call_object0 ?_
      have N5 := newsNew F4 N4 plainObj
      have F5 := F4.push plainObj
      clear F4 N4
      (try clear F3)
      (try clear N3)
      walk_at "got"
      show wpAny _ _ (call (.builtin "min") [.ref J] [(Str.ofString "default", _), (Str.ofString "key", .ref Kf)]) _ _ _
      rename Fr _ _ _ _ => F6
      rename News _ _ _ _ => N6
      have zS := N6 _ (.head _)
      have zJ := N6 _ (.tail _ (.head _))
      have hJ0 : H.get? J = none := by
        cases q : H.get? J with
        | none => rfl
        | some o => have := st' _ _ q; rw [zJ.2.2] at this; cases this
      refine min_key (lt := lt) hA (by show A.units + 3 + 600 < cLine; first | exact room3 hu (by decide) | lia) (by show A.depth + 1 + 4 < recursionLimit; first | exact room3 hroom (by decide) | lia) hK hHS hRA (fun b o e => F6.keep _ _ (st' _ _ e)) hJ0 zJ.1 cJ (by lia) swo hlt ?_
      intro i h7 tk7 hi hbest K7
      have F7 := frKeep1 F6 K7 zJ.2
      have Nc := newsKeep (newsTail (newsTail N6)) K7 (fun p hp => by simpa using apJ p hp)
      have N7 := newsCons Nc (K7 _ _ (by
        intro q
        have q' := List.mem_singleton.mp q
        have e := zS.1
        rw [q', zJ.1] at e
        have e2 := cJ.1
        injection e with e
        have e3 : oJ = plainObj := e
        rw [e3] at e2
        exact absurd e2 (by simp [plainObj])) zS.1) zS.2.1 zS.2.2
      clear F6 N6 Nc
      have hm : ra.getD i 0 ∈ ra := by
        rw [List.getD_eq_getElem?_getD, List.getElem?_eq_getElem hi]; exact List.getElem_mem hi
      refine oEA (hex _ hm) fun oi eo ci => ?_
      have hiS : ra.getD i 0 ≠ _ := fun q => by
        have := st' _ _ eo
        rw [q] at this
        exact absurd (zS.2.2.symm.trans this) (by simp)
      dsimp only
      walk_at "got"
      rename Fr _ _ _ _ => F8
      rename News _ _ _ _ => N8
      refine wpAny_is_ref_other hiS (F8.keep _ _ (st' _ _ eo)) (N8 _ (.head _)).1 (by rw [ci]; simp) ?_
      walk_at "got"
      rename Fr _ _ _ _ => F9
      rename News _ _ _ _ => N9
      have z9 := N9 _ (.head _)
      refine ⟨hq _ _ _ 0 _ _ (hfin _ F9.keep) (N9 _ (.tail _ (.tail _ (.tail _ (.head _))))).1 (N9 _ (.tail _ (.tail _ (.tail _ (.tail _ (.head _)))))).1 (hnon _ z9.2.2) ?_⟩
      rw [hw, show (1 : Int).toNat = 1 from rfl, one_first swo hi hbest hS1 hS2]
      exact z9.1
    · rename Fr _ _ _ _ => F2
      rename News _ _ _ _ => N2
      exact ⟨by omega, _, _, _, _, _, rfl, F2, N2, rfl, rfl, src1⟩
  rintro f s' hb
  have hb := hb.out
  cases f with
  | brk => exact hb.elim
  | cont => exact hb.elim
  | ret x => exact hb
  | next =>
  obtain ⟨hw1n, h2', tk2, m, sp, sa, rfl, F2, N2, l1, l2, src2⟩ := hb
  have F3 := frKnown F2 [("n", .int wish tw), ("iterable", v)] (by first | exact allc l1 (allc l2 alln) | simp [l1, l2])
  clear F1 F2 src1
  dsimp only
  walk_at "got"
  refine cut (fun f s' => Box (match f with
      | .ret x => Q x s'
      | .next => (NsSI2 s h₀ L' Lp La RA v oc op oa wish tw) s'
      | _ => False)) ?_ ?_
  · refine wpAny_Try_except ?_
    walk_at "got"
    rcases src2 with rfl | ⟨I, oI, rfl, eI, hIL, hI0, cI, apI⟩
    · rename Fr _ _ _ _ => F4
      refine len_list (PySem.IsL.isList (F4.keep _ _ (st' _ _ hRA))) (by simp; lia) ?_
      walk_at "got"
      · rename Fr _ _ _ _ => F5
        rename News _ _ _ _ => N5
        show wpAny _ _ (call (.builtin "sorted") [.ref RA] [(Str.ofString "key", .ref Kf)]) _ _ _
        refine sorted_key (b := false) (lt := lt) F5 N5 st' hA (by show A.units + 3 + 600 < cLine; first | exact room3 hu (by decide) | lia) (by show A.depth + 1 + 4 < recursionLimit; first | exact room3 hroom (by decide) | lia) hK hHS hRA h2 h64 swo hlt ?_
        intro Ds h6 tk6 cs l F6 N6 apS htk6 hperm hsort
        have el : lS = l := sort_unique (slt_asymm swo) hS2 hsort (hperm.trans hS1.symm)
        clear F5 N5
        dsimp only
        walk_at "got"
        rename Fr _ _ _ _ => F7
        rename News _ _ _ _ => N7
        have hwl : ra.length ≤ wish.toNat := by
          have h1 : ((List.map Value.ref ra).toArray.size : Int) ≤ wish := by assumption
          simp at h1; lia
        refine kba_turn (value' := PySem.Expr.Name (PySem.Str.ofString "a") ⟨0, 0, 0, 0⟩) (fun _ => rfl) ?_
        refine kmk_slice_lit F7 N7 (PySem.IsL.isList (n := cs) (N7 _ (.head _)).1) .none (.int wish _) (slice_take _ (by lia)) ?_ (by with_unfolding_all rfl) (fun _ => rfl) (by rw [List.size_toArray, sizeLine_eq, List.length_map, hperm.length_eq, List.length_range]; lia)
        intro D2 h8 F8 N8 hD2
        have z8 := N8 _ (.head _)
        refine ⟨hq _ _ D2 0 _ _ (hfin _ F8.keep) (N8 _ (.tail _ (.tail _ (.tail _ (.head _))))).1 (N8 _ (.tail _ (.tail _ (.tail _ (.tail _ (.head _)))))).1 (hnon _ z8.2.2) ?_⟩
        rw [el, List.map_take]
        exact z8.1
      · rename Fr _ _ _ _ => F5
        rename News _ _ _ _ => N5
        exact ⟨_, _, _, _, _, rfl, F5, N5, rfl, rfl, .inl rfl⟩
    · rename Fr _ _ _ _ => F4
      rename News _ _ _ _ => N4
      have zc := N4 _ (.head _)
      have zp4 := N4 _ (.tail _ (.head _))
      have za4 := N4 _ (.tail _ (.tail _ (.head _)))
      have hfs : ∀ d ∈ [L', Lp, La], h₀.get? d = none := allc (Heap.get?_none_of_le F4.above) (allc zp4.2.2 (allc za4.2.2 alln))
      refine oEEEAA (id F4.ns) fun oL esL epL hoL hdL _ => ?_
      have hnf : ∀ b o, b ∈ [L', Lp, La] → h2'.get? b = some o → ∀ vs, o.data ≠ .fields vs := nofields3 hoL (fun vs => by rw [hdL]; simp) zp4.1 ndp za4.1 nda
      have hI3 : I ∉ [L', Lp, La] := notin3 hIL (apI _ (.tail _ (.head _))).symm (apI _ (.tail _ (.tail _ (.head _)))).symm
      have after : ∀ h₂, SK [L', Lp, La] h2' h₂ → Fr h₀ L' h₂ _ ∧ ∃ sp sa, News h₀ L' h₂ [(L' + 1, oc), (Lp, { op with slots := sp }), (La, { oa with slots := sa })] ∧ h₂.get? I = some oI := fun h₂ S => by
        refine ⟨frSK F4 S hfs, ?_⟩
        refine oE (S.slot Lp _ (by simp) zp4.1) fun sl e1 => ?_
        refine oE (S.slot La _ (by simp) za4.1) fun sl' e2 => ?_
        refine ⟨sl, sl', newsCons (newsCons (newsCons (fun p hp => nomatch hp) e2 za4.2.1 za4.2.2) e1 zp4.2.1 zp4.2.2) (S.keep _ _ (notin3 (Nat.succ_ne_self _) hcp hca) zc.1) zc.2.1 zc.2.2, S.keep _ _ hI3 eI⟩
      refine len_raises (A := A.deeper _) hA eI cI fun h5 tk5 e hx => ?_
      refine catch_c (fs := [L', Lp, La]) (A₀ := A) (X'.keeps (stays_hides F4.keep hfs)) hframes rfl ⟨(show ScopeKind.function ≠ ScopeKind.module by decide), ⟨L', oL, rfl, hideAll_none _ (.head _), hoL, by rw [hdL]; simp⟩, hkp, ⟨Lp, _, hfp, hideAll_none _ (.tail _ (.head _)), zp4.1, ndp⟩, hka, ⟨La, _, hfa, hideAll_none _ (.tail _ (.tail _ (.head _))), za4.1, nda⟩, trivial⟩ hx hnf ?_ ?_
      · intro h₂ Q' E' S k
        refine oAEEA (after h₂ S) fun F5 sp sa N5 _ => ?_
        clear after F4 N4
        walk_at "got"
        refine' nameX_B (v := .type "AttributeError") ?cF ?cX ?cT ?ce ?cv ?cn ?_ ?ca ?cb
        case cF => k_asm
        case cX => k_asm
        case cT => k_asm
        case ca => rfl
        case cb => rfl
        case ce => k_is
        case cv => exact boot_AE
        case cn => decide
        refine spliced_none ?_
        refine wpAny_newTuple ?_
        refine k _ (h₂.push { cls := .type "tuple", data := .seq [Value.type "TypeError", Value.type "AttributeError"].toArray }) ?_ ?_
        · exact fun b o e => Heap.get?_push_of_some _ e
        · exact Heap.get?_push_size _ rfl
      · intro h₂ E' S
        refine oAEEA (after h₂ S) fun F5 sp sa N5 e5 => ?_
        clear after F4 N4
        walk_at "got"
        rename Fr _ _ _ _ => F6
        rename News _ _ _ _ => N6
        refine ⟨_, _, _, sp, sa, rfl, F6, N6, rfl, rfl, .inr ⟨I, oI, rfl, e5, hIL, hI0, cI, allc (apI _ (.head _)) (allc (show Lp ≠ I from apI (Lp, _) (.tail _ (.head _))) (allc (show La ≠ I from apI (La, _) (.tail _ (.tail _ (.head _)))) alln))⟩⟩
  clear F3 src2
  rintro f s' hb2
  have hb2 := hb2.out
  cases f with
  | brk => exact hb2.elim
  | cont => exact hb2.elim
  | ret x => exact hb2
  | next =>
  clear l1 l2
  obtain ⟨h3, tk3, m3, sp, sa, rfl, F2, N2, l1, l2, src3⟩ := hb2
  have F3 := frKnown F2 [("n", .int wish tw), ("iterable", v)] (by first | exact allc l1 (allc l2 alln) | simp [l1, l2])
  clear F2
  dsimp only
  walk_at "got"
  refine is_ref_none ?_
  walk_at "got"
  rename Fr _ _ _ _ => F4
  rename News _ _ _ _ => N4
  refine iter_src F4 N4 src3 (F4.keep _ _ (st' _ _ hRA)) fun J oJ h4 F5 N5 cJ apJ hJR => ?_
  clear F4 N4 src3
  walk_at "got"
  rename Fr _ _ _ _ => F6
  rename News _ _ _ _ => N6
  have F7 := frKnown F6 [("n", .int wish tw), ("it", .ref J)] (allc (rfl) (allc (rfl) alln))
  clear F6
  (try clear F5)
  (try clear N5)
  generalize hmm : known [("n", .int wish tw), ("it", .ref J)] _ = mm at F7
  have mn : mm "n" = some (.int wish tw) := by rw [← hmm]; rfl
  have mi : mm "it" = some (.ref J) := by rw [← hmm]; rfl
  clear hmm
  have F7 := frKnown F7 [("n", .int wish tw), ("it", .ref J)] (by first | exact allc mn (allc mi alln) | simp [mn, mi])
  dsimp only
  refine cutC (NsSI3 s h₀ L' Lp La RA J ra kb d oc op oa sp sa wish tw) ?_ ?_
  · intro Pz mkP
    refine comp_myA (h₀ := h₀) (L := L') (m := known [("n", .int wish tw), ("it", .ref J)] mm) (NsSIC s h₀ L' Lp La RA J ra kb d oc op oa sp sa wish tw mm) rfl (by with_unfolding_all rfl) (by decide) (by rfl) (by decide) ?_ ?_ ?_
    · walk_at "got"
      rename Fr _ _ _ _ => F8
      rename News _ _ _ _ => N8
      refine range_up T' F8 N8 ?_
      intro r h9 tk9 t1 t2 t3 F9 N9 hr9
      clear F8 N8
      dsimp only
      walk_at "got"
      rename Fr _ _ _ _ => F10
      rename News _ _ _ _ => N10
      have zJ := N10 _ (.head _)
      refine call_zipR hr9 (small_up hw0 hw1) ⟨oJ, zJ.1, cJ⟩ fun h11 e1 e2 e3 e4 hk => ?_
      rw [rangeSize_up] at e4
      have F11 := F10.keeps hk
      have N11 := N10.grown hk
      have hf : ∀ c, h9.objs.size ≤ c → c ≠ L' ∧ h₀.get? c = none := fun c hc => fresh_base F10 (Heap.get?_none_of_le hc)
      have Nz := newsCons (newsCons (newsCons (newsCons N11 e2 (hf _ (Nat.le_add_right _ _)).1 (hf _ (Nat.le_add_right _ _)).2) e4 (hf _ (Nat.le_refl _)).1 (hf _ (Nat.le_refl _)).2) e3 (hf _ (Nat.le_add_right _ _)).1 (hf _ (Nat.le_add_right _ _)).2) e1 (hf _ (Nat.le_add_right _ _)).1 (hf _ (Nat.le_add_right _ _)).2
      have hRl : RA < h9.objs.size := Heap.lt_size (F10.keep _ _ (st' _ _ hRA))
      have hJl : J < h9.objs.size := Heap.lt_size zJ.1
      have hold : ∀ p ∈ (L' + 1, oc) :: (Lp, { op with slots := sp }) :: (La, { oa with slots := sa }) :: [], p.1 < h9.objs.size := fun p hp => Heap.lt_size (N10 p (.tail _ hp)).1
      dsimp only
      refine wpAny_pyIter_zip e1 ?_
      refine ⟨_, F11, Nz, fun C Dl h₁' oC m₂ hCD hap hD hC F12 N12 hoC => ⟨ra.length, _, _, _, _, 0, 0, .none, .none, oC, oJ, max wish 0, m₂, fun _ => .none, fun _ => [], fun _ => 0, fun _ => [], [], _, _, rfl, rfl, F12, ?_, zApart_new hJl hRl hJR.symm, ?_, ?_, cJ, hoC, by lia, by lia, by lia, Ents.nil, fun i hi => absurd hi (Nat.not_lt_zero _), fun i hi => absurd hi (Nat.not_lt_zero _)⟩⟩
      · exact allc (N12 _ (.head _)) (allc (N12 _ (.tail _ (.head _))) (allc (N12 _ (.tail _ (.tail _ (.head _)))) (allc (N12 _ (.tail _ (.tail _ (.tail _ (.head _))))) (allc (N12 _ (.tail _ (.tail _ (.tail _ (.tail _ (.head _)))))) (allc (N12 _ (.tail _ (.tail _ (.tail _ (.tail _ (.tail _ (.tail _ (.head _)))))))) (allc (N12 _ (.tail _ (.tail _ (.tail _ (.tail _ (.tail _ (.head _))))))) (allc (N12 _ (.tail _ (.tail _ (.tail _ (.tail _ (.tail _ (.tail _ (.tail _ (.head _))))))))) (allc (N12 _ (.tail _ (.tail _ (.tail _ (.tail _ (.tail _ (.tail _ (.tail _ (.tail _ (.head _)))))))))) (allc (N12 _ (.tail _ (.tail _ (.tail _ (.tail _ (.tail _ (.tail _ (.tail _ (.tail _ (.tail _ (.head _))))))))))) alln)))))))))
      · exact ⟨hCD, (hap _ (.head _)).1.symm, (hap _ (.tail _ (.head _))).1.symm, (hap _ (.tail _ (.tail _ (.head _)))).1.symm, (hap _ (.tail _ (.tail _ (.tail _ (.tail _ (.head _)))))).1.symm, (hap _ (.head _)).2.symm, (hap _ (.tail _ (.head _))).2.symm, (hap _ (.tail _ (.tail _ (.head _)))).2.symm, (hap _ (.tail _ (.tail _ (.tail _ (.tail _ (.head _)))))).2.symm⟩
      · exact allc (⟨(hap _ (.tail _ (.tail _ (.tail _ (.head _))))).1, (hap _ (.tail _ (.tail _ (.tail _ (.head _))))).2, Nat.ne_of_lt (Nat.add_lt_add_left (by decide) _), Nat.ne_of_lt (Nat.add_lt_add_left (by decide) _), Nat.ne_of_gt (Nat.lt_add_of_pos_right (by decide)), Nat.ne_of_gt (Nat.lt_of_lt_of_le hJl (Nat.le_add_right _ _))⟩) (fun p hp => by
          have hlt := hold p hp
          refine ⟨(hap p (.tail _ (.tail _ (.tail _ (.tail _ (.tail _ hp)))))).1, (hap p (.tail _ (.tail _ (.tail _ (.tail _ (.tail _ hp)))))).2, Nat.ne_of_lt (Nat.lt_of_lt_of_le hlt (Nat.le_add_right _ _)), Nat.ne_of_lt (Nat.lt_of_lt_of_le hlt (Nat.le_add_right _ _)), Nat.ne_of_lt hlt, apJ p hp⟩)
    · rintro it s₂ C Dl n s' Q' E' ⟨z, TI, TO, i1, j, nn, u1, u2, oC, oI, left, m₂, f, ks, os, rest, ents, h', tk', rfl, rfl, F8, N8, _⟩ hQ'
      exact wpAny_pyIter_zip (N8 _ (.tail _ (.tail _ (.head _)))).1 hQ'
    · rintro it s₂ C Dl ms s' ⟨z, TI, TO, i1, j, nn, u1, u2, oC, oI, left, m₂, f, ks, os, rest, ents, h', tk', rfl, rfl, F8, N8, D8, ⟨c1, c2, c3, c4, c5, c6, c7, c8, c9⟩, ap, cI, hoC, hj, hleft, hjw, hE, hos, hrest⟩
      have zC := N8 _ (.head _)
      have zD := N8 _ (.tail _ (.head _))
      have zz := N8 _ (.tail _ (.tail _ (.head _)))
      have zO := N8 _ (.tail _ (.tail _ (.tail _ (.head _))))
      have z1 := N8 _ (.tail _ (.tail _ (.tail _ (.tail _ (.head _)))))
      have zJ := N8 _ (.tail _ (.tail _ (.tail _ (.tail _ (.tail _ (.head _))))))
      have zI := N8 _ (.tail _ (.tail _ (.tail _ (.tail _ (.tail _ (.tail _ (.head _)))))))
      have Nr : News h₀ L' h' ((TI, prObj (.ref i1) (.ref J)) :: (L' + 1, oc) :: (Lp, { op with slots := sp }) :: (La, { oa with slots := sa }) :: ents) := fun p hp => N8 p (.tail _ (.tail _ (.tail _ (.tail _ (.tail _ (.tail _ hp))))))
      have hl := PySem.IsL.isList (n := n) (F8.keep _ _ (st' _ _ hRA))
      rcases Int.lt_or_le 0 left with hl0 | hl0
      rotate_left
      · refine zipR_end1 (a := u1) (b := u2) hA D8 zz.1 zI.1 z1.1 hl0 fun h9 K9 => ?_
        have F9 := frKeep1 F8 K9 zz.2
        have N9 := newsCons (newsCons (newsCons (newsKeep Nr K9 (fun p hp => by first | exact nin1 ((ap p hp).2.2.1) | exact nin2 ((ap p hp).2.2.1) | exact allc ((ap p hp).2.2.1) alln | simpa using (ap p hp).2.2.1)) (K9 _ _ (by first | exact nin1 (D8.i2z) | exact nin2 (D8.i2z) | exact allc (D8.i2z) alln | simpa using D8.i2z) zJ.1) zJ.2.1 zJ.2.2) (K9 _ _ (by first | exact nin1 (c6) | exact nin2 (c6) | exact allc (c6) alln | simpa using c6) zD.1) zD.2.1 zD.2.2) (K9 _ _ (by first | exact nin1 (c2) | exact nin2 (c2) | exact allc (c2) alln | simpa using c2) zC.1) zC.2.1 zC.2.2
        dsimp only
        refine' comp_finA ?fF ?fN ?fh ?fo ?fy ?fp ?_
        case fF => exact F9
        case fN => exact N9
        case fh => exact hoC
        case fy => rfl
        case fp => rfl
        case fo =>
          exact allc (c1.symm) (allc (c5.symm) (fun p hp => (ap p hp).1))
        intro hx nC kk
        refine oE nC fun mC nC => ?_
        refine ⟨mC, nC, fun h10 hs10 => ?_⟩
        refine oA (kk h10 hs10) fun F10 N10 => ?_
        refine mkP _ _ (fun _ zz => zz Dl j nn oI f ks os rest ents h10 _ _ F10 (newsCons (newsCons (fun p hp => N10 p (.tail _ (.tail _ (.tail _ hp)))) (N10 _ (.tail _ (.head _))).1 zJ.2.1 zJ.2.2) (N10 _ (.head _)).1 zD.2.1 zD.2.2) rfl rfl rfl c9 (fun p hp => ⟨(ap p (.tail _ hp)).2.1, (ap p (.tail _ hp)).2.2.2.2.2⟩) (.inl cI) (by lia) (hE.grow (fun _ _ e => e) (by (try dsimp only); lia)) hos hrest)
      rcases Nat.eq_zero_or_pos ms with rfl | hn
      · refine zipR_end2 hA D8 zz.1 zI.1 zO.1 z1.1 hl0 ⟨oI, zJ.1, cI⟩ hl (by simp; lia) fun h9 K9 hg => ?_
        refine oEA (gone_obj hg) fun oG eG hG => ?_
        have hz4 : ∀ d ∈ [z, TO, i1, J], h₀.get? d = none := allc zz.2.2 (allc zO.2.2 (allc z1.2.2 (allc zJ.2.2 alln)))
        have F9 := frKeep F8 K9 (by simp [zz.2.1.symm, zO.2.1.symm, z1.2.1.symm, zJ.2.1.symm]) hz4
        have N9 := newsCons (newsCons (newsCons (newsKeep Nr K9 (fun p hp => by
          refine oAAAAA (ap p hp) fun _ _ q3 q4 q5 q6 => ?_
          simp [q3, q4, q5, q6])) eG zJ.2.1 zJ.2.2) (K9 _ _ (by simp [c6, c7, c8, c9]) zD.1) zD.2.1 zD.2.2) (K9 _ _ (by simp [c2, c3, c4, c5]) zC.1) zC.2.1 zC.2.2
        dsimp only
        refine' comp_finA ?gfF ?gfN ?gfh ?gfo ?gfy ?gfp ?_
        case gfF => exact F9
        case gfN => exact N9
        case gfh => exact hoC
        case gfy => rfl
        case gfp => rfl
        case gfo =>
          exact allc (c1.symm) (allc (c5.symm) (fun p hp => (ap p hp).1))
        intro hx nC kk
        refine oE nC fun mC nC => ?_
        refine ⟨mC, nC, fun h10 hs10 => ?_⟩
        refine oA (kk h10 hs10) fun F10 N10 => ?_
        refine mkP _ _ (fun _ zz => zz Dl j nn oG f ks os rest ents h10 _ _ F10 (newsCons (newsCons (fun p hp => N10 p (.tail _ (.tail _ (.tail _ hp)))) (N10 _ (.tail _ (.head _))).1 zJ.2.1 zJ.2.2) (N10 _ (.head _)).1 zD.2.1 zD.2.2) rfl rfl rfl c9 (fun p hp => ⟨(ap p (.tail _ hp)).2.1, (ap p (.tail _ hp)).2.2.2.2.2⟩) (.inr ⟨by omega, hG⟩) (by lia) (hE.grow (fun _ _ e => e) (by (try dsimp only); lia)) hos hrest)
      have hjr : j < ra.length := by lia
      have hzlt : z < h'.objs.size := Heap.lt_size zz.1
      refine zipR_item D8 zz.1 zI.1 zO.1 z1.1 hl0 ⟨oI, zJ.1, cI⟩ hl (y := .ref ra[j]) (by simp [hjr]) fun h9 e1 e2 e3 e4 e5 e6 K9 => ?_
      refine oEA e4 fun oI9 eI9 cI9 => ?_; (try clear e4)
      have hz4 : ∀ d ∈ [z, TO, i1, J], h₀.get? d = none := allc zz.2.2 (allc zO.2.2 (allc z1.2.2 (allc zJ.2.2 alln)))
      have F9 := frKeep F8 K9 (by simp [zz.2.1.symm, zO.2.1.symm, z1.2.1.symm, zJ.2.1.symm]) hz4
      have fT := fresh_base F8 (Heap.get?_none_of_le (Nat.le_refl _))
      have apn : ∀ p ∈ (TI, prObj (.ref i1) (.ref J)) :: (L' + 1, oc) :: (Lp, { op with slots := sp }) :: (La, { oa with slots := sa }) :: ents, p.1 ≠ h'.objs.size := fun p hp => Nat.ne_of_lt (Heap.lt_size (Nr p hp).1)
      dsimp only
      refine wpAny_letOwnedTupleGo_zip e1 fun h10 g10 K10 => ?_
      have KK := Keep.ofSame K10
      have F10 := frKeep1 F9 KK zz.2
      have k2 : ∀ b o, b ≠ z → b ≠ TO → b ≠ i1 → b ≠ J → h'.get? b = some o → h10.get? b = some o := fun b o b1 b2 b3 b4 e => KK _ _ (by first | exact nin1 (b1) | exact nin2 (b1) | exact allc (b1) alln | simpa using b1) (K9 b o (by simp [b1, b2, b3, b4]) e)
      have N10 : News h₀ L' h10 ((C, oC) :: (Dl, lst ((List.range j).map f) nn) :: (h'.objs.size, prObj (.int ((j : Int)) tk') (.ref ra[j])) :: (z, zipObj .none TI TO) :: (TO, prObj (.int ((j : Int)) tk') (.ref ra[j])) :: (i1, riObj ((j : Int) + 1) (left - 1) 1) :: (J, oI9) :: (TI, prObj (.ref i1) (.ref J)) :: (L' + 1, oc) :: (Lp, { op with slots := sp }) :: (La, { oa with slots := sa }) :: ents) := by
        have hzT : h'.objs.size ≠ z := Nat.ne_of_gt hzlt
        refine newsCons (newsCons (newsCons (newsCons (newsCons (newsCons (newsCons (fun p hp => ⟨k2 _ _ (ap p hp).2.2.1 (ap p hp).2.2.2.1 (ap p hp).2.2.2.2.1 (ap p hp).2.2.2.2.2 (Nr p hp).1, (Nr p hp).2⟩) (KK _ _ (by first | exact nin1 (D8.i2z) | exact nin2 (D8.i2z) | exact allc (D8.i2z) alln | simpa using D8.i2z) eI9) zJ.2.1 zJ.2.2) (KK _ _ (by first | exact nin1 (D8.i1z) | exact nin2 (D8.i1z) | exact allc (D8.i1z) alln | simpa using D8.i1z) e3) z1.2.1 z1.2.2) (KK _ _ (by first | exact nin1 (D8.TOz) | exact nin2 (D8.TOz) | exact allc (D8.TOz) alln | simpa using D8.TOz) e2) zO.2.1 zO.2.2) g10 zz.2.1 zz.2.2) (KK _ _ (by first | exact nin1 (hzT) | exact nin2 (hzT) | exact allc (hzT) alln | simpa using hzT) e5) fT.1 fT.2) (k2 _ _ c6 c7 c8 c9 zD.1) zD.2.1 zD.2.2) (k2 _ _ c2 c3 c4 c5 zC.1) zC.2.1 zC.2.2
      have hCT : C ≠ h'.objs.size := Nat.ne_of_lt (Heap.lt_size zC.1)
      have hDT : Dl ≠ h'.objs.size := Nat.ne_of_lt (Heap.lt_size zD.1)
      have offC : ∀ p ∈ (Dl, lst ((List.range j).map f) nn) :: (h'.objs.size, prObj (.int ((j : Int)) tk') (.ref ra[j])) :: (z, zipObj .none TI TO) :: (TO, prObj (.int ((j : Int)) tk') (.ref ra[j])) :: (i1, riObj ((j : Int) + 1) (left - 1) 1) :: (J, oI9) :: (TI, prObj (.ref i1) (.ref J)) :: (L' + 1, oc) :: (Lp, { op with slots := sp }) :: (La, { oa with slots := sa }) :: ents, p.1 ≠ C := by
        exact allc (c1.symm) (allc (hCT.symm) (allc (c2.symm) (allc (c3.symm) (allc (c4.symm) (allc (c5.symm) (fun p hp => (ap p hp).1))))))
      clear F9
      refine unpackN_ F10 N10 (isTup_pair' (N10 _ (.tail _ (.tail _ (.head _)))).1) hA rfl rfl fun h11 F11 N11 => ?_
      refine wpAny_assignInOrder_more (comp_store rfl rfl F11 N11 offC hoC fun h12 o12 F12 N12 c12 => ?_)
      refine wpAny_assignInOrder_more (comp_store rfl rfl F12 N12 offC c12 fun h13 o13 F13 N13 c13 => ?_)
      refine wpAny_assignInOrder_none ?_
      refine oEAA (⟨_, c13, by rw [if_neg (by decide), if_pos rfl], by rw [if_pos rfl]⟩ : ∃ m8, LCg.NsObj o13 m8 ∧ m8 "i" = some (.int ((j : Int)) tk') ∧ m8 "elem" = some (.ref ra[j])) fun m13 c14 y1 y2 => ?_
      clear F10 N10 F11 N11 F12 N12 c12 c13
      dsimp only
      refine oA (id hK) fun q38240z0 hKc => ?_; obtain ⟨oK, fdK, eK, dK⟩ := q38240z0
      walk_at "got"
      · rename Fr _ _ _ _ => F14
        exact F14.keep _ _ (st' _ _ eK)
      rename Fr _ _ _ _ => F14
      rename News _ _ _ _ => N14
      refine hKc _ _ _ _ j ra[j] (List.getElem?_eq_getElem hjr) ?_ hA ?_ ?_ ?_
      · exact fun b o e => F14.keep b o (st' b o e)
      · show A.units + 3 + 500 < cLine; first | exact room3 hu (by decide) | lia
      · show A.depth + 1 + 4 < recursionLimit; first | exact room3 hroom (by decide) | lia
      intro h15 tk15 kc k kn K15 hkc ek b1 b2 b3 b4 b5
      have F15 := frKeep0 F14 K15
      have N15 := newsFresh F14 hkc ek (newsKeep0 N14 K15)
      have fkc := fresh_base F14 hkc
      have hkcn : ∀ b o, h13.get? b = some o → b ≠ kc := fun b o e q => by
        rw [q] at e
        have h1 : h13.get? kc = none := hkc
        rw [h1] at e; cases e
      have hN13 := N14
      have hE15 := hE.grow (gOf_cons (o := listOf (kvals k).toArray kn) (fun p hp => hN13 p (.tail _ (.tail _ (.tail _ (.tail _ (.tail _ (.tail _ (.tail _ (.tail _ (.tail _ (.tail _ (.tail _ hp)))))))))))) hkc) (Nat.le_refl _)
      have apk : ∀ p ∈ (TI, prObj (.ref i1) (.ref J)) :: (L' + 1, oc) :: (Lp, { op with slots := sp }) :: (La, { oa with slots := sa }) :: ents, p.1 ≠ kc := fun p hp => hkcn _ _ (hN13 p (.tail _ (.tail _ (.tail _ (.tail _ (.tail _ (.tail _ (.tail _ hp)))))))).1
      have kC := hkcn _ _ (hN13 _ (.head _)).1
      have kD := hkcn _ _ (hN13 _ (.tail _ (.head _))).1
      have kz := hkcn _ _ (hN13 _ (.tail _ (.tail _ (.tail _ (.head _))))).1
      have kO := hkcn _ _ (hN13 _ (.tail _ (.tail _ (.tail _ (.tail _ (.head _)))))).1
      have k1 := hkcn _ _ (hN13 _ (.tail _ (.tail _ (.tail _ (.tail _ (.tail _ (.head _))))))).1
      have kJ := hkcn _ _ (hN13 _ (.tail _ (.tail _ (.tail _ (.tail _ (.tail _ (.tail _ (.head _)))))))).1
      clear hN13
      (try clear N13)
      clear F14 N14
      (try clear F13)
      dsimp only
      walk_at "got"
      rename Fr _ _ _ _ => F16
      rename News _ _ _ _ => N16
      rename kc < _ ∧ _ => lD
      show wpAny _ _ (call (.builtin "list.append") [.ref Dl, .ref _]) _ _ _
      have zt := N16 _ (.head _)
      have zk := N16 _ (.tail _ (.head _))
      have zD16 := N16 _ (.tail _ (.tail _ (.tail _ (.head _))))
      refine append_at zD16.1 (fun h17 hs17 e17 => ?_) (by rw [sizeLine_eq]; simp; lia)
      have K17 := Keep.ofSame hs17
      have F17 := frKeep1 F16 K17 zD16.2
      have hE17 := hE.entry (kc := kc) (t := tk') (nn := 0) (kn := kn) (o := (j : Int)) (r := [.ref ra[j]]) (x := j) (k := k) (tk' := tk15) (fun p hp => apk p (.tail _ (.tail _ (.tail _ (.tail _ hp))))) (allLt_ne lD.2.2.2.2.2.2.2.2.2.2.2.2) (Nat.ne_of_lt lD.1) fkc.2 zt.2.2 (fun i hi => List.mem_range.mp hi) b2 b1
        (fun p hp => ⟨by have h1 := (b4 p hp).1; (try dsimp only at h1); lia, (b4 p hp).2⟩) (by (try dsimp only at b5); lia) rfl b3 (fun i hi => by have h1 := List.mem_range.mp hi; simp only [if_true, Bool.false_eq_true, if_false]; rw [hos i h1]; lia)
      have em : ∀ a : Addr, (List.range (j + 1)).map (upd f j (.ref a)) = (List.range j).map f ++ [Value.ref a] := fun a => by
        rw [List.range_succ, List.map_append, upd_map _ _ (by simp)]; simp [upd_same]
      have e7 : (j : Int) + 1 = ((j + 1 : Nat) : Int) := by lia
      have apE0 := ap_cons2 (R := fun x => x ≠ C ∧ x ≠ Dl ∧ x ≠ z ∧ x ≠ TO ∧ x ≠ i1 ∧ x ≠ J) (fun p hp => ap p (.tail _ (.tail _ (.tail _ (.tail _ hp))))) (o := listOf (kvals k).toArray kn) ⟨kC.symm, kD.symm, kz.symm, kO.symm, k1.symm, kJ.symm⟩
      have apE := ap_cons2 (R := fun x => x ≠ C ∧ x ≠ Dl ∧ x ≠ z ∧ x ≠ TO ∧ x ≠ i1 ∧ x ≠ J) apE0 (o := { cls := .type "tuple", data := .seq (Value.ref kc :: .int ((j : Int)) tk' :: [.ref ra[j]]).toArray 0 }) ⟨Nat.ne_of_gt lD.2.1, Nat.ne_of_gt lD.2.2.1, Nat.ne_of_gt lD.2.2.2.2.1, Nat.ne_of_gt lD.2.2.2.2.2.1, Nat.ne_of_gt lD.2.2.2.2.2.2.1, Nat.ne_of_gt lD.2.2.2.2.2.2.2.1⟩
      have apF := ap_cons2 (R := fun x => x ≠ C ∧ x ≠ Dl ∧ x ≠ z ∧ x ≠ TO ∧ x ≠ i1 ∧ x ≠ J) (ap_cons2 (R := fun x => x ≠ C ∧ x ≠ Dl ∧ x ≠ z ∧ x ≠ TO ∧ x ≠ i1 ∧ x ≠ J) (ap_cons2 (R := fun x => x ≠ C ∧ x ≠ Dl ∧ x ≠ z ∧ x ≠ TO ∧ x ≠ i1 ∧ x ≠ J) (ap_cons2 (R := fun x => x ≠ C ∧ x ≠ Dl ∧ x ≠ z ∧ x ≠ TO ∧ x ≠ i1 ∧ x ≠ J) apE (o := { oa with slots := sa }) (ap _ (.tail _ (.tail _ (.tail _ (.head _)))))) (o := { op with slots := sp }) (ap _ (.tail _ (.tail _ (.head _))))) (o := oc) (ap _ (.tail _ (.head _)))) (o := prObj (.ref i1) (.ref J)) (ap _ (.head _))
      have Nq : News h₀ L' _ ((TI, prObj (.ref i1) (.ref J)) :: (L' + 1, oc) :: (Lp, { op with slots := sp }) :: (La, { oa with slots := sa }) :: (_, { cls := .type "tuple", data := .seq (Value.ref kc :: .int ((j : Int)) tk' :: [.ref ra[j]]).toArray 0 }) :: (kc, listOf (kvals k).toArray kn) :: ents) := newsCons (newsCons (newsCons (newsCons (newsCons (newsCons (fun p hp => N16 p (.tail _ (.tail _ (.tail _ (.tail _ (.tail _ (.tail _ (.tail _ (.tail _ (.tail _ (.tail _ (.tail _ (.tail _ (.tail _ hp)))))))))))))) zk.1 zk.2.1 zk.2.2) zt.1 zt.2.1 zt.2.2) (N16 _ (.tail _ (.tail _ (.tail _ (.tail _ (.tail _ (.tail _ (.tail _ (.tail _ (.tail _ (.tail _ (.tail _ (.tail _ (.head _)))))))))))))).1 (N16 _ (.tail _ (.tail _ (.tail _ (.tail _ (.tail _ (.tail _ (.tail _ (.tail _ (.tail _ (.tail _ (.tail _ (.tail _ (.head _)))))))))))))).2.1 (N16 _ (.tail _ (.tail _ (.tail _ (.tail _ (.tail _ (.tail _ (.tail _ (.tail _ (.tail _ (.tail _ (.tail _ (.tail _ (.head _)))))))))))))).2.2) (N16 _ (.tail _ (.tail _ (.tail _ (.tail _ (.tail _ (.tail _ (.tail _ (.tail _ (.tail _ (.tail _ (.tail _ (.head _))))))))))))).1 (N16 _ (.tail _ (.tail _ (.tail _ (.tail _ (.tail _ (.tail _ (.tail _ (.tail _ (.tail _ (.tail _ (.tail _ (.head _))))))))))))).2.1 (N16 _ (.tail _ (.tail _ (.tail _ (.tail _ (.tail _ (.tail _ (.tail _ (.tail _ (.tail _ (.tail _ (.tail _ (.head _))))))))))))).2.2) (N16 _ (.tail _ (.tail _ (.tail _ (.tail _ (.tail _ (.tail _ (.tail _ (.tail _ (.tail _ (.tail _ (.head _)))))))))))).1 (N16 _ (.tail _ (.tail _ (.tail _ (.tail _ (.tail _ (.tail _ (.tail _ (.tail _ (.tail _ (.tail _ (.head _)))))))))))).2.1 (N16 _ (.tail _ (.tail _ (.tail _ (.tail _ (.tail _ (.tail _ (.tail _ (.tail _ (.tail _ (.tail _ (.head _)))))))))))).2.2) (N16 _ (.tail _ (.tail _ (.tail _ (.tail _ (.tail _ (.tail _ (.tail _ (.tail _ (.tail _ (.head _))))))))))).1 (N16 _ (.tail _ (.tail _ (.tail _ (.tail _ (.tail _ (.tail _ (.tail _ (.tail _ (.tail _ (.head _))))))))))).2.1 (N16 _ (.tail _ (.tail _ (.tail _ (.tail _ (.tail _ (.tail _ (.tail _ (.tail _ (.tail _ (.head _))))))))))).2.2
      have Nr17 := newsKeep Nq K17 (fun p hp => by first | exact nin1 ((apF p hp).2.1) | exact nin2 ((apF p hp).2.1) | exact allc ((apF p hp).2.1) alln | simpa using (apF p hp).2.1)
      have N17 := newsCons (newsCons (newsCons (newsCons Nr17 (K17 _ _ (by first | exact nin1 (c9.symm) | exact nin2 (c9.symm) | exact allc (c9.symm) alln | simpa using c9.symm) (N16 _ (.tail _ (.tail _ (.tail _ (.tail _ (.tail _ (.tail _ (.tail _ (.tail _ (.head _)))))))))).1) (N16 _ (.tail _ (.tail _ (.tail _ (.tail _ (.tail _ (.tail _ (.tail _ (.tail _ (.head _)))))))))).2.1 (N16 _ (.tail _ (.tail _ (.tail _ (.tail _ (.tail _ (.tail _ (.tail _ (.tail _ (.head _)))))))))).2.2) (K17 _ _ (by first | exact nin1 (c8.symm) | exact nin2 (c8.symm) | exact allc (c8.symm) alln | simpa using c8.symm) (N16 _ (.tail _ (.tail _ (.tail _ (.tail _ (.tail _ (.tail _ (.tail _ (.head _))))))))).1) (N16 _ (.tail _ (.tail _ (.tail _ (.tail _ (.tail _ (.tail _ (.tail _ (.head _))))))))).2.1 (N16 _ (.tail _ (.tail _ (.tail _ (.tail _ (.tail _ (.tail _ (.tail _ (.head _))))))))).2.2) (K17 _ _ (by first | exact nin1 (c7.symm) | exact nin2 (c7.symm) | exact allc (c7.symm) alln | simpa using c7.symm) (N16 _ (.tail _ (.tail _ (.tail _ (.tail _ (.tail _ (.tail _ (.head _)))))))).1) (N16 _ (.tail _ (.tail _ (.tail _ (.tail _ (.tail _ (.tail _ (.head _)))))))).2.1 (N16 _ (.tail _ (.tail _ (.tail _ (.tail _ (.tail _ (.tail _ (.head _)))))))).2.2) (K17 _ _ (by first | exact nin1 (c6.symm) | exact nin2 (c6.symm) | exact allc (c6.symm) alln | simpa using c6.symm) (N16 _ (.tail _ (.tail _ (.tail _ (.tail _ (.tail _ (.head _))))))).1) (N16 _ (.tail _ (.tail _ (.tail _ (.tail _ (.tail _ (.head _))))))).2.1 (N16 _ (.tail _ (.tail _ (.tail _ (.tail _ (.tail _ (.head _))))))).2.2
      rw [List.push_toArray, ← em] at e17
      have N18 := newsCons (newsCons N17 e17 zD16.2.1 zD16.2.2) (K17 _ _ (by first | exact nin1 (c1) | exact nin2 (c1) | exact allc (c1) alln | simpa using c1) (N16 _ (.tail _ (.tail _ (.head _)))).1) (N16 _ (.tail _ (.tail _ (.head _)))).2.1 (N16 _ (.tail _ (.tail _ (.head _)))).2.2
      rw [e7] at N18
      refine ⟨⟨ms - 1, by lia, z, TI, TO, i1, j + 1, _, _, _, o13, oI9, left - 1, m13, _, _, _, _, _, h17, _, rfl, rfl, F17, N18, D8, ⟨c1, c2, c3, c4, c5, c6, c7, c8, c9⟩, apF, cI9, c14, by lia, by lia, by lia, hE17.sub ?_, ?_, ?_⟩⟩
      · intro i hi
        have h1 := List.mem_range.mp hi
        rcases Nat.lt_or_eq_of_le (Nat.lt_succ_iff.mp h1) with q | q
        · exact .tail _ (List.mem_range.mpr q)
        · rw [q]; exact .head _
      · intro i hi
        rcases Nat.lt_or_eq_of_le (Nat.lt_succ_iff.mp hi) with q | q
        · rw [upd_ne _ _ (Nat.ne_of_lt q)]; exact hos i q
        · rw [q, upd_same]
      · intro i hi
        rcases Nat.lt_or_eq_of_le (Nat.lt_succ_iff.mp hi) with q | q
        · rw [upd_ne _ _ (Nat.ne_of_lt q)]; exact hrest i q
        · rw [q, upd_same]; simp [hjr]
  intro Dl j nn oI f ks os rest ents h' tk' m F8 N8 l1 l2 l3 hDJ ap hIt hj hE hos hrest
  clear F7 N6
  have F9 := frKnown F8 [("n", .int wish tw), ("it", .ref J), ("result", .ref Dl)] (by first | exact allc l1 (allc l2 (allc l3 alln)) | simp [l1, l2, l3])
  clear F8
  dsimp only
  walk_at "got"
  have zD := N8 _ (.head _)
  refine wpAny_truthy_list (PySem.IsL.isList (n := nn) zD.1) (by simp; lia) ?_
  rcases Nat.eq_zero_or_pos j with hj0 | hj0
  · rw [hj0] at zD ⊢
    rw [show (!(List.map f (List.range 0)).toArray.isEmpty) = false from rfl]
    walk_at "got"
    refine hq _ _ Dl nn _ _ (hfin _ F9.keep) (N8 _ (.tail _ (.tail _ (.tail _ (.head _))))).1 (N8 _ (.tail _ (.tail _ (.tail _ (.tail _ (.head _)))))).1 (hnon _ zD.2.2) ?_
    have : wish.toNat = 0 := by lia
    rw [this]
    exact zD.1
  have hne : (!(List.map f (List.range j)).toArray.isEmpty) = true := by
    refine oE (⟨j - 1, by lia⟩ : ∃ i, j = i + 1) fun i q48818z1 => ?_; obtain rfl := q48818z1
    simp
  rw [hne]
  walk_at "got"
  have Ne8 : News h₀ L' h' ents := fun p hp => N8 p (.tail _ (.tail _ (.tail _ (.tail _ (.tail _ hp)))))
  have hD0 : gOf h₀ ents Dl = none := gOf_none zD.2.2 fun p hp => (ap p (.tail _ (.tail _ (.tail _ hp)))).1
  refine wpAny_with_toks (n := tk') (by (try dsimp only); lia) ?_
  refine heapify_max_ok (l := List.range j) (f := f) (lt := rlt true kb) X' T' F9.keep zD.2.2 hA ?_ ?_ zD.1 (gOf_sub F9 Ne8) hD0 (by rw [List.length_range]; lia) (fun a ha b hb => hE.cmp (gOf_base _ _ hsS) ha hb) ?_
  · show A.units + 3 + 400 < cLine; first | exact room3 hu (by decide) | lia
  · show A.depth + 1 + 2 < recursionLimit; first | exact room3 hroom (by decide) | lia
  intro h10 tk10 K10 e10 b10
  have F10 := frKeep1 F9 K10 zD.2
  have swoR : SWO (rlt true kb) := slt_swo swo hr
  have tot : Tot (rlt true kb) := fun a b hab h => (hr b a).mpr (slt_total swo hab fun q => by rw [(hr a b).mpr q] at h; cases h)
  have hbest := Best.start swoR j
  have e10' : h10.get? Dl = some (listOf ((heapDown (fun a b => (rlt true kb) b a) ((List.range j).length / 2) (List.range j)).map f).toArray nn) := e10
  clear e10
  generalize hl0 : heapDown (fun a b => (rlt true kb) b a) ((List.range j).length / 2) (List.range j) = l at e10' hbest
  have hpl : l.Perm (List.range j) := by simpa using hbest.perm
  have N10 := newsCons (newsKeep (newsTail N8) K10 (fun p hp => by
    rcases List.mem_cons.mp hp with rfl | hp
    · simpa using hDJ.symm
    · simpa using (ap p hp).1)) e10' zD.2.1 zD.2.2
  clear F9 N8 hl0
  have hll : l.length = j := by rw [hpl.length_eq, List.length_range]
  have hEl := hE.sub fun i hi => hpl.mem_iff.mp hi
  refine oEE (by
    cases l with
    | nil => simp at hll; lia
    | cons t r => exact ⟨t, r, rfl⟩ : ∃ t r, l = t :: r) fun t r q50540z2 => ?_; obtain rfl := q50540z2
  walk_at "got"
  refine sub_at (x := f t) (j := 0) (N10 _ (.head _)).1 rfl (by simp) (by simp at hll ⊢; lia) ?_
  refine oEEEEAAEEA (hEl.ent t (.head _)) fun ea en ekv et ev eg kt ktn ekt gkt => ?_
  subst ekt
  rw [ev]
  walk_at "got"
  refine kba_turn (value' := PySem.Expr.Name (PySem.Str.ofString "a") ⟨0, 0, 0, 0⟩) (fun _ => rfl) ?_
  have Ne10 : News h₀ L' h10 ents := fun p hp => N10 p (.tail _ (.tail _ (.tail _ (.tail _ (.tail _ hp)))))
  have eg10 := gOf_sub F10 Ne10 _ _ eg
  clear Ne10
  refine item_tupleL (l := .ref kt :: .int (os t) et :: rest t) (j := 0) ⟨_, eg10, rfl, _, rfl⟩ (by decide) (by decide) (by simp [seqIndex?]; lia) rfl ?_
  walk_at "got"
  rename Fr _ _ _ _ => F11
  rename News _ _ _ _ => N11
  refine cutC (NsSI4 s h₀ L' Lp La Dl ra kb d j oc op oa sp sa) ?_ ?_
  · intro Pz mkP
    refine for_myC (NsSI5 s h₀ L' Lp La RA J Dl ra kb d j oc op oa sp sa) ?_ ?_
    · walk_at "got"
      rename Fr _ _ _ _ => F12
      rename News _ _ _ _ => N12
      have zJ12 := N12 _ (.tail _ (.head _))
      refine it_iter zJ12.1 hIt ?_
      refine ⟨ra.length - j, fun _ zz => zz (t :: r) ([]) j nn oI f ks os rest ents _ _ _ wish _ t ea kt en ktn et F12 N12 rfl rfl rfl rfl ap hbest hll hIt (by lia) (hEl.grow (fun _ _ e => e) (by have h1 : tk' ≤ tk10 := b10; (try dsimp only); lia)) (fun i hi => hrest i (hbest.lt i hi)) (fun i hi => ?_) (by lia) rfl ev eg gkt⟩
      have h1 := hbest.lt i hi
      rw [hos i h1]; lia
    · intro c l out jj nh oI f ks os rest ents h' tk' m od ot t ea kt en ktn et F12 N12 q1 q2 q3 q4 ap hB hlj hIt hjc hE hrest hod hob ht0 ev eg gkt
      intro Bz mkB
      have zD := N12 _ (.head _)
      have zJ := N12 _ (.tail _ (.head _))
      have Nr : News h₀ L' h' ((L' + 1, oc) :: (Lp, { op with slots := sp }) :: (La, { oa with slots := sa }) :: ents) := fun p hp => N12 p (.tail _ (.tail _ hp))
      have hl := PySem.IsL.isList (n := n) (F12.keep _ _ (st' _ _ hRA))
      have hDJ' : Dl ≠ J := hDJ
      rcases Nat.eq_zero_or_pos c with rfl | hc
      · have hjl : jj = ra.length := by lia
        subst hjl
        refine it_end hA zJ.1 hIt hl (by simp) fun h13 K13 => ?_
        have F13 := frKeep1 F12 K13 zJ.2
        have N13 := newsCons (newsKeep Nr K13 (fun p hp => by first | exact nin1 ((ap p hp).2) | exact nin2 ((ap p hp).2) | exact allc ((ap p hp).2) alln | simpa using (ap p hp).2)) (K13 _ _ (by first | exact nin1 (hDJ) | exact nin2 (hDJ) | exact allc (hDJ) alln | simpa using hDJ) zD.1) zD.2.1 zD.2.2
        exact mkP _ _ (fun _ zz => zz l out nh f ks os rest ents h13 tk' m F13 N13 q1 (fun p hp => (ap p hp).1) hB hlj hE hrest)
      have hjr : jj < ra.length := by lia
      have hLi : IsLi oI RA jj := by
        rcases hIt with h | ⟨h, _⟩
        · exact h
        · lia
      refine wpAny_pyNext_list_item (x := .ref ra[jj]) ⟨oI, zJ.1, hLi⟩ hl (by simp [hjr]) fun h13 hI13 hx => ?_
      refine oEA hI13 fun oI13 eI13 cI13 => ?_; (try clear hI13)
      have K13 := Keep.ofSame hx
      have F13 := frKeep1 F12 K13 zJ.2
      have N13 := newsCons (newsCons (newsKeep Nr K13 (fun p hp => by first | exact nin1 ((ap p hp).2) | exact nin2 ((ap p hp).2) | exact allc ((ap p hp).2) alln | simpa using (ap p hp).2)) eI13 zJ.2.1 zJ.2.2) (K13 _ _ (by first | exact nin1 (hDJ) | exact nin2 (hDJ) | exact allc (hDJ) alln | simpa using hDJ) zD.1) zD.2.1 zD.2.2
      have F14 := frKnown F13 [("result", .ref Dl), ("top", .ref kt), ("order", .int od ot), ("_heapreplace", .ref 49)] (by first | exact allc q1 (allc q2 (allc q3 (allc q4 alln))) | simp [q1, q2, q3, q4])
      clear F12 N12 F13
      dsimp only
      refine letGo_name (wpAny_assign_Name ?_)
      walk_at "got"
      rename Fr _ _ _ _ => F15
      rename News _ _ _ _ => N15
      refine oA (id hK) fun q54496z0 hKc => ?_; obtain ⟨oK, fdK, eK, dK⟩ := q54496z0
      refine wpAny_with_toks (n := tk') (by (try dsimp only); lia) ?_
      refine callW dK ?_
      walk_at "got"
      · exact F15.keep _ _ (st' _ _ eK)
      refine hKc _ _ _ _ jj ra[jj] (List.getElem?_eq_getElem hjr) ?_ hA ?_ ?_ ?_
      · exact fun b o e => F15.keep b o (st' b o e)
      · show A.units + 3 + 500 < cLine; first | exact room3 hu (by decide) | lia
      · show A.depth + 1 + 4 < recursionLimit; first | exact room3 hroom (by decide) | lia
      intro h16 tk16 kc k kn K16 hkc ek b1 b2 b3 b4 b5 b6
      have F16 := frKeep0 F15 K16
      have N16 := newsFresh F15 hkc ek (newsKeep0 N15 K16)
      have fkc := fresh_base F15 hkc
      have hkcn : ∀ p ∈ (Dl, listOf (l.map f).toArray nh) :: (J, oI13) :: (L' + 1, oc) :: (Lp, { op with slots := sp }) :: (La, { oa with slots := sa }) :: ents, p.1 ≠ kc := fun p hp q => by
        have e := (N15 p hp).1
        rw [q] at e
        exact absurd (e.symm.trans hkc) (by simp)
      clear F15 N15
      (try clear F14)
      (try clear N13)
      dsimp only
      walk_at "got"
      rename Fr _ _ _ _ => F17
      rename News _ _ _ _ => N17
      have Ne17 : News h₀ L' _ ents := fun p hp => N17 p (.tail _ (.tail _ (.tail _ (.tail _ (.tail _ (.tail _ hp))))))
      have htl : t ∈ l := List.mem_of_getElem? ht0
      have htj := hB.lt t htl
      refine oAAAA (hE.ok t htl) fun o1 o2 o3 o4 o5 => ?_
      have hsep : ∀ p ∈ k, ∀ q ∈ ks t, p.2 ≠ q.2 := fun p hp q hq e => by
        have h1 : tk' ≤ p.2 := Nat.le_trans (Nat.le_succ _) (b4 p hp).1
        have h2 := o3 q hq
        rw [e] at h1
        exact absurd h2 (Nat.not_lt.mpr h1)
      have hRc : (rlt true kb) jj t = true ↔ lt jj t = true := (hr jj t).trans ⟨fun h => by
        rcases h with h | ⟨_, h⟩
        · exact h
        · lia, fun h => .inl h⟩
      refine cmp_lt2 (c := lt jj t) (ltKey (fun _ _ e => e) (F17.keep _ _ hsS) ⟨kc, kn, rfl, (N17 _ (.head _)).1⟩ ⟨kt, ktn, rfl, gOf_sub F17 Ne17 _ _ gkt⟩ b2 o1 (fun p hp q hq e => absurd e (hsep p hp q hq)) (by rw [b3, o5]) (by show A.units + 3 + 10 < cLine; first | exact room3 hu (by decide) | lia)) (by rw [b1, o2, hlt]) ?_
      clear Ne17
      cases hcb : lt jj t with
      | true =>
        walk_at "got"
        rename Fr _ _ _ _ => F18
        rename News _ _ _ _ => N18
        rename kc < _ ∧ _ => lD
        have zt := N18 _ (.head _)
        have zk := N18 _ (.tail _ (.head _))
        have zD18 := N18 _ (.tail _ (.tail _ (.head _)))
        have hlj2 : ∀ i ∈ l, i < jj := hB.lt
        have hjl : jj ∉ l := fun q => Nat.lt_irrefl _ (hlj2 jj q)
        have hE18 := hE.entry (kc := kc) (t := ot) (nn := 0) (kn := kn) (o := od) (r := [.ref ra[jj]]) (x := jj) (k := k) (tk' := tk16) (fun p hp => hkcn p (.tail _ (.tail _ (.tail _ (.tail _ (.tail _ hp)))))) (allLt_ne lD.2.2.2.2.2.2) (Nat.ne_of_lt lD.1) fkc.2 zt.2.2 hlj2 b2 b1
          (fun p hp => ⟨Nat.le_trans (Nat.le_succ _) (b4 p hp).1, (b4 p hp).2⟩) b6 rfl b3 (fun i hi => by simp only [if_true, Bool.false_eq_true, if_false]; exact hod i hi)
        have apE := ap_cons2 (R := fun x => x ≠ Dl ∧ x ≠ J) (ap_cons2 (R := fun x => x ≠ Dl ∧ x ≠ J) (fun p hp => ap p (.tail _ (.tail _ (.tail _ hp)))) (o := listOf (kvals k).toArray kn) ⟨(hkcn _ (.head _)).symm, (hkcn _ (.tail _ (.head _))).symm⟩) (o := { cls := .type "tuple", data := .seq (Value.ref kc :: .int od ot :: [.ref ra[jj]]).toArray 0 }) ⟨Nat.ne_of_gt lD.2.1, Nat.ne_of_gt lD.2.2.1⟩
        have apF := ap_cons2 (R := fun x => x ≠ Dl ∧ x ≠ J) (ap_cons2 (R := fun x => x ≠ Dl ∧ x ≠ J) (ap_cons2 (R := fun x => x ≠ Dl ∧ x ≠ J) apE (o := { oa with slots := sa }) (ap _ (.tail _ (.tail _ (.head _))))) (o := { op with slots := sp }) (ap _ (.tail _ (.head _)))) (o := oc) (ap _ (.head _))
        have Nent : News h₀ L' _ ((_, { cls := .type "tuple", data := .seq (Value.ref kc :: .int od ot :: [.ref ra[jj]]).toArray 0 }) :: (kc, listOf (kvals k).toArray kn) :: ents) := newsCons (newsCons (fun p hp => N18 p (.tail _ (.tail _ (.tail _ (.tail _ (.tail _ (.tail _ (.tail _ hp)))))))) zk.1 zk.2.1 zk.2.2) zt.1 zt.2.1 zt.2.2
        have Nrest := newsCons (newsCons (newsCons Nent (N18 _ (.tail _ (.tail _ (.tail _ (.tail _ (.tail _ (.tail _ (.head _)))))))).1 (N18 _ (.tail _ (.tail _ (.tail _ (.tail _ (.tail _ (.tail _ (.head _)))))))).2.1 (N18 _ (.tail _ (.tail _ (.tail _ (.tail _ (.tail _ (.tail _ (.head _)))))))).2.2) (N18 _ (.tail _ (.tail _ (.tail _ (.tail _ (.tail _ (.head _))))))).1 (N18 _ (.tail _ (.tail _ (.tail _ (.tail _ (.tail _ (.head _))))))).2.1 (N18 _ (.tail _ (.tail _ (.tail _ (.tail _ (.tail _ (.head _))))))).2.2) (N18 _ (.tail _ (.tail _ (.tail _ (.tail _ (.head _)))))).1 (N18 _ (.tail _ (.tail _ (.tail _ (.tail _ (.head _)))))).2.1 (N18 _ (.tail _ (.tail _ (.tail _ (.tail _ (.head _)))))).2.2
        have zJ18 := N18 _ (.tail _ (.tail _ (.tail _ (.head _))))
        have hl0 : 0 < l.length := List.length_pos_of_mem htl
        refine wpAny_with_toks (n := tk16) (by (try dsimp only); lia) ?_
        refine heapreplace_max_v (f := upd f jj (.ref _)) (x := jj) (l := l) (lt := rlt true kb) (upd_same f jj _) hl0 X' T' F18.keep zD18.2.2 hA ?_ ?_ (Ents.upd_list hjl _ zD18.1) (gOf_sub F18 Nent) (gOf_none zD18.2.2 fun p hp => (apE p hp).1) (by lia) (fun a ha b hb => hE18.cmp (gOf_base _ _ hsS) ha hb) ?_
        · show A.units + 3 + 400 < cLine; first | exact room3 hu (by decide) | lia
        · show A.depth + 1 + 2 < recursionLimit; first | exact room3 hroom (by decide) | lia
        intro h19 tk19 K19 e19 b19
        have hB' := hB.take swoR tot ht0 (hRc.mpr hcb)
        have e19' : h19.get? Dl = some (listOf ((siftupP (fun a b => (rlt true kb) b a) (l.set 0 jj) 0).map (upd f jj (.ref _))).toArray nh) := e19
        have hlen' : (siftupP (fun a b => (rlt true kb) b a) (l.set 0 jj) 0).length = j := by rw [siftupP_length, List.length_set, hlj]
        have hmem : ∀ i ∈ siftupP (fun a b => (rlt true kb) b a) (l.set 0 jj) 0, i ∈ jj :: l := fun i hi => by
          have h1 := (siftupP_perm (lt := fun a b => (rlt true kb) b a) (l.set 0 jj) 0).mem_iff.mp hi
          rcases List.mem_or_eq_of_mem_set h1 with h2 | h2
          · exact .tail _ h2
          · rw [h2]; exact .head _
        clear e19
        generalize siftupP (fun a b => (rlt true kb) b a) (l.set 0 jj) 0 = l' at *
        have hE19 := (hE18.sub hmem).grow (fun _ _ e => e) b19
        have F19 := frKeep1 F18 K19 zD18.2
        have Nent19 := newsKeep Nent K19 (fun p hp => by first | exact nin1 ((apE p hp).1) | exact nin2 ((apE p hp).1) | exact allc ((apE p hp).1) alln | simpa using (apE p hp).1)
        have N19 := newsCons (newsCons (newsKeep Nrest K19 (fun p hp => by first | exact nin1 ((apF p hp).1) | exact nin2 ((apF p hp).1) | exact allc ((apF p hp).1) alln | simpa using (apF p hp).1)) (K19 _ _ (by first | exact nin1 (hDJ'.symm) | exact nin2 (hDJ'.symm) | exact allc (hDJ'.symm) alln | simpa using hDJ'.symm) zJ18.1) zJ18.2.1 zJ18.2.2) e19' zD18.2.1 zD18.2.2
        clear F18 N18 Nent Nrest
        refine oEE (by
          cases l' with
          | nil => simp at hlen'; lia
          | cons t r => exact ⟨t, r, rfl⟩ : ∃ t r, l' = t :: r) fun t2 r2 q61571z2 => ?_; obtain rfl := q61571z2
        refine oEEEEAAEEA (hE19.ent t2 (.head _)) fun ea2 en2 ekv2 et2 ev2 eg2 kt2 ktn2 ekt2 gkt2 => ?_
        subst ekt2
        have hr19 : ∀ i ∈ t2 :: r2, upd rest jj [.ref ra[jj]] i = [.ref (ra.getD i 0)] := fun i hi => by
          rcases List.mem_cons.mp (hmem i hi) with q | q
          · rw [q, upd_same]; simp [hjr]
          · rw [upd_ne _ _ (Nat.ne_of_lt (hlj2 i q))]; exact hrest i q
        have eg2' := gOf_sub F19 Nent19 _ _ eg2
        clear Nent19
        walk_at "got"
        refine sub_at (j := 0) (N19 _ (.head _)).1 rfl rfl (by simp at hlen' ⊢; lia) ?_
        rw [ev2]
        rw [hr19 t2 (.head _)] at eg2'
        dsimp only
        refine isAsgT ?_
        refine unpackN_ F19 N19 (isTup3 eg2') hA rfl rfl fun h20 F20 N20 => ?_
        clear F19 N19
        walk_at "got"
        rename Fr _ _ _ _ => F21
        rename News _ _ _ _ => N21
        refine mkB (c - 1) _ (by lia) (fun _ zz => zz (t2 :: r2) (t :: out) (jj + 1) nh oI13 _ _ _ _ _ _ _ _ _ _ t2 ea2 kt2 en2 ktn2 et2 F21 N21 rfl rfl rfl rfl apF hB' hlen' (.inl cI13) (by lia) (hE19.grow (fun _ _ e => e) (by (try dsimp only); lia)) hr19 (?_) (by lia) rfl ev2 eg2 gkt2)
        intro i hi
        rcases List.mem_cons.mp (hmem i hi) with q | q
        · rw [q, upd_same]; lia
        · have h1 := hod i q
          rw [upd_ne _ _ (Nat.ne_of_lt (hlj2 i q))]; lia
      | false =>
        walk_at "got"
        rename Fr _ _ _ _ => F18
        rename News _ _ _ _ => N18
        have hn : (rlt true kb) jj t = false := by
          cases q : (rlt true kb) jj t with
          | false => rfl
          | true => have h1 := hRc.mp q; rw [hcb] at h1; cases h1
        refine mkB (c - 1) _ (by lia) (fun _ zz => zz l (jj :: out) (jj + 1) nh oI13 f ks os rest ents _ _ _ od ot t ea kt en ktn et F18 (newsTail N18) rfl rfl rfl rfl ap (hB.drop swoR tot ht0 hn) hlj (.inl cI13) (by lia) (hE.grow (fun _ _ e => e) ?_) hrest hod (by lia) ht0 ev eg gkt)
        have h1 : tk' ≤ tk16 := b6
        (try dsimp only); lia
  clear hEl hE hrest hos ev eg gkt hbest ap hIt
  intro l out nh f ks os rest ents h' tk' m F12 N12 q1 ap hB hlj hE hrest
  have F13 := frKnown F12 [("result", .ref Dl)] (by first | exact allc q1 alln | simp [q1])
  (try clear F11)
  (try clear N11)
  clear F12
  dsimp only
  walk_at "got"
  have zD := N12 _ (.head _)
  have Ne12 : News h₀ L' h' ents := fun p hp => N12 p (.tail _ (.tail _ (.tail _ (.tail _ hp))))
  have hnd : l.Nodup := (List.nodup_append.mp hB.nodup).2.1
  have hw2 : 2 ≤ l.length := by simp at hll; lia
  (try show wpAny _ _ (call (.builtin "list.sort") [.ref Dl] [(Str.ofString "reverse", .bool true)]) _ _ _)
  refine hE.sort (h₁ := h') (gOf_sub F13 Ne12) (gOf_base _ _ hsS) (gOf_none zD.2.2 fun p hp => ap p (.tail _ (.tail _ (.tail _ hp)))) swoR hnd zD.1 hw2 (by lia) (by show A.units + 3 + 30 < cLine; first | exact room3 hu (by decide) | lia) (fun x _ y _ hxy q => tot x y hxy q) ?_
  intro h14 cs l' K14 e14 hp14 hs14
  have F14 := frKeep1 F13 K14 zD.2
  have N14 := newsCons (newsKeep (newsTail N12) K14 (fun p hp => by simpa using ap p hp)) e14 zD.2.1 zD.2.2
  have Ne14 := newsKeep Ne12 K14 (fun p hp => by simpa using ap p (.tail _ (.tail _ (.tail _ hp))))
  have hfirst := hB.first swoR hp14 hs14 hS1 (hS2.imp fun {x y} q => (hr x y).mpr q)
  have hGs := gOf_sub F14 Ne14
  clear F13 N12 Ne12 Ne14
  dsimp only
  walk_at "got"
  rename Fr _ _ _ _ => F15
  rename News _ _ _ _ => N15
  refine comp_list F15 hA goFree_tuple (by with_unfolding_all rfl) (by decide) (by rfl) (by decide) ?_
  walk_at "got"
  refine ⟨Dl, l'.map f, _, fun jx ys tk => ys = (l'.take jx).map fun i => Value.ref (ra.getD i 0), rfl, F15, N15, fun h' F N => PySem.IsL.isList (N _ (.head _)).1, by rw [List.length_map, hp14.length_eq]; lia, rfl, ?_, ?_⟩
  · rintro jx v C D2 I oC oI nn m₂ h16 tk16 ys hjx hyl hP F16 N16 off hoC
    subst hP
    have hjl : jx < l'.length := by
      rcases Nat.lt_or_ge jx l'.length with q | q
      · exact q
      · rw [List.getElem?_eq_none (by first | exact nin1 (q) | exact nin2 (q) | exact allc (q) alln | simpa using q)] at hjx; cases hjx
    have hv : v = f l'[jx] := by
      rw [List.getElem?_map, List.getElem?_eq_getElem hjl] at hjx
      exact (Option.some.inj hjx).symm
    have hil : l'[jx] ∈ l := hp14.mem_iff.mp (List.getElem_mem hjl)
    refine oEEEEAA (hE.ent _ hil) fun ea en ekv et ev eg _ => ?_
    rw [hrest _ hil] at eg
    rw [hv, ev]
    have Ne16 : News h₀ L' h16 ents := fun p hp => N16 p (.tail _ (.tail _ (.tail _ (.tail _ (.tail _ (.tail _ (.tail _ hp)))))))
    have eg16 := gOf_sub F16 Ne16 _ _ eg
    clear Ne16
    refine unpackN_ F16 N16 (isTup3 eg16) hA rfl rfl fun h17 F17 N17 => ?_
    refine wpAny_assignInOrder_more (comp_store rfl rfl F17 N17 off hoC fun h18 o18 F18 N18 c18 => ?_)
    refine wpAny_assignInOrder_more (comp_store rfl rfl F18 N18 off c18 fun h19 o19 F19 N19 c19 => ?_)
    refine wpAny_assignInOrder_more (comp_store rfl rfl F19 N19 off c19 fun h20 o20 F20 N20 c20 => ?_)
    refine wpAny_assignInOrder_none ?_
    refine oEA (⟨_, c20, by rw [if_pos rfl]⟩ : ∃ m8, LCg.NsObj o20 m8 ∧ m8 "elem" = some (.ref (ra.getD l'[jx] 0))) fun m20 c21 y1 => ?_
    clear F16 N16 F17 N17 F18 N18 F19 N19 c18 c19 c20
    dsimp only
    walk_at "got"
    refine ⟨h20, _, o20, m20, rfl, F20, N20, c21, ?_⟩
    rw [List.take_succ_eq_append_getElem hjl, List.map_append]; rfl
  · rintro D2 n2 h16 tk16 ys F16 N16 off hyl hP
    rw [List.length_map, List.take_length] at hP
    subst hP
    have z2 := N16 _ (.head _)
    dsimp only
    walk_at "got"
    refine hq _ _ D2 n2 _ _ (hfin _ F16.keep) (N16 _ (.tail _ (.tail _ (.tail _ (.head _))))).1 (N16 _ (.tail _ (.tail _ (.tail _ (.tail _ (.head _)))))).1 (hnon _ z2.2.2) ?_
    have e : lS.take wish.toNat = l' := by
      rw [← hfirst, hlj, hj, ← hS1.length_eq.trans List.length_range]
      exact (kmk_take_min lS wish.toNat).symm
    rw [e]
    exact z2.1
end
end
-- part NsL
section
open PySem PySem.W PyProof.Rows PySem.Calls PySem.Flt
set_option maxRecDepth 100000
set_option maxHeartbeats 4000000
theorem fillNsL : True := by
  w_top off
  trivial
section
variable {w : World} {A : Around} {s : Shared} {H : Heap} {G : PM} {p : Program} {loose : List Str} {mean : ExcName → Option Value} {mg mb : Str → Option Value} {Q E : Value → Shared → Prop}
inductive NsLIC (s : Shared) (h₀ : Heap) (L' : Addr) (Lp : Addr) (La : Addr) (RA : Addr) (J : Addr) (ra : List Addr) (kb : Nat → List UInt64) (d : Nat) (oc : Obj) (op : Obj) (oa : Obj) (sp : Array (Option Value)) (sa : Array (Option Value)) (wish : Int) (tw : Tok) (mm : Str → Option Value) : Value → Shared → Addr → Addr → Nat → Shared → Prop
  | mk {it : Value} {s₂ : Shared} {C : Addr} {Dl : Addr} {n : Nat} {s' : Shared} : ∀ (z TI TO i1 : Addr), ∀ (j nn : Nat), ∀ (u1 u2 : Value), ∀ (oC oI : Obj), ∀ (left : Int), ∀ (m₂ : Str → Option Value), ∀ (f : Nat → Value), ∀ (ks : Nat → Key), ∀ (os : Nat → Int), ∀ (rest : Nat → List Value), ∀ (ents : List (Addr × Obj)), ∀ (h' : Heap), ∀ (tk' : Nat), (it = .ref z) → (s' = { s with heap := h', toks := tk' }) → (Fr h₀ L' h' (known [("n", .int wish tw), ("it", .ref J)] mm)) → (News h₀ L' h' ((C, oC) :: (Dl, lst ((List.range j).map f) nn) :: (z, zipObj .none TI TO) :: (TO, prObj u1 u2) :: (i1, riObj (-(j : Int)) left (-1)) :: (J, oI) :: (TI, prObj (.ref i1) (.ref J)) :: (L' + 1, oc) :: (Lp, { op with slots := sp }) :: (La, { oa with slots := sa }) :: ents)) → (ZApart z TI TO i1 J RA) → ((C ≠ Dl ∧ C ≠ z ∧ C ≠ TO ∧ C ≠ i1 ∧ C ≠ J ∧ Dl ≠ z ∧ Dl ≠ TO ∧ Dl ≠ i1 ∧ Dl ≠ J)) → ((∀ p ∈ (TI, prObj (.ref i1) (.ref J)) :: (L' + 1, oc) :: (Lp, { op with slots := sp }) :: (La, { oa with slots := sa }) :: ents, p.1 ≠ C ∧ p.1 ≠ Dl ∧ p.1 ≠ z ∧ p.1 ≠ TO ∧ p.1 ≠ i1 ∧ p.1 ≠ J)) → (IsLi oI RA j) → (LCg.NsObj oC m₂) → (j + n = ra.length) → (left = max wish 0 - j) → (j ≤ wish.toNat) → (Ents (gOf h₀ ents) tk' kb false 1 d f ks os rest (List.range j)) → ((∀ i, i < j → os i = -(i : Int))) → ((∀ i, i < j → rest i = [.ref (ra.getD i 0)])) → NsLIC s h₀ L' Lp La RA J ra kb d oc op oa sp sa wish tw mm it s₂ C Dl n s'
inductive NsLI1 (s : Shared) (h₀ : Heap) (L' : Addr) (Lp : Addr) (La : Addr) (RA : Addr) (v : Value) (oc : Obj) (op : Obj) (oa : Obj) (wish : Int) (tw : Tok) : Shared → Prop
  | mk {s' : Shared} : (wish ≠ 1) → ∀ (h' : Heap), ∀ (tk' : Nat), ∀ (m : Str → Option Value), ∀ (sp sa : Array (Option Value)), (s' = { s with heap := h', toks := tk' }) → (Fr h₀ L' h' m) → (News h₀ L' h' [(L' + 1, oc), (Lp, { op with slots := sp }), (La, { oa with slots := sa })]) → (m "n" = some (.int wish tw)) → (m "iterable" = some v) → (SrcAt h₀ L' h' RA v [(L' + 1, oc), (Lp, { op with slots := sp }), (La, { oa with slots := sa })]) → NsLI1 s h₀ L' Lp La RA v oc op oa wish tw s'
inductive NsLI2 (s : Shared) (h₀ : Heap) (L' : Addr) (Lp : Addr) (La : Addr) (RA : Addr) (v : Value) (oc : Obj) (op : Obj) (oa : Obj) (wish : Int) (tw : Tok) : Shared → Prop
  | mk {s' : Shared} : ∀ (h' : Heap), ∀ (tk' : Nat), ∀ (m : Str → Option Value), ∀ (sp sa : Array (Option Value)), (s' = { s with heap := h', toks := tk' }) → (Fr h₀ L' h' m) → (News h₀ L' h' [(L' + 1, oc), (Lp, { op with slots := sp }), (La, { oa with slots := sa })]) → (m "n" = some (.int wish tw)) → (m "iterable" = some v) → (SrcAt h₀ L' h' RA v [(L' + 1, oc), (Lp, { op with slots := sp }), (La, { oa with slots := sa })]) → NsLI2 s h₀ L' Lp La RA v oc op oa wish tw s'
noncomputable def NsLI3 (s : Shared) (h₀ : Heap) (L' : Addr) (Lp : Addr) (La : Addr) (RA : Addr) (J : Addr) (ra : List Addr) (kb : Nat → List UInt64) (d : Nat) (oc : Obj) (op : Obj) (oa : Obj) (sp : Array (Option Value)) (sa : Array (Option Value)) (wish : Int) (tw : Tok) (ZZ : Flow → Shared → Prop) : Prop := ∀ (Dl : Addr), ∀ (j nn : Nat), ∀ (oI : Obj), ∀ (f : Nat → Value), ∀ (ks : Nat → Key), ∀ (os : Nat → Int), ∀ (rest : Nat → List Value), ∀ (ents : List (Addr × Obj)), ∀ (h' : Heap), ∀ (tk' : Nat), ∀ (m : Str → Option Value), (Fr h₀ L' h' m) → (News h₀ L' h' ((Dl, lst ((List.range j).map f) nn) :: (J, oI) :: (L' + 1, oc) :: (Lp, { op with slots := sp }) :: (La, { oa with slots := sa }) :: ents)) → (m "n" = some (.int wish tw)) → (m "it" = some (.ref J)) → (m "result" = some (.ref Dl)) → (Dl ≠ J) → ((∀ p ∈ (L' + 1, oc) :: (Lp, { op with slots := sp }) :: (La, { oa with slots := sa }) :: ents, p.1 ≠ Dl ∧ p.1 ≠ J)) → (ItAt oI RA j ra.length) → (j = min wish.toNat ra.length) → (Ents (gOf h₀ ents) tk' kb false 1 d f ks os rest (List.range j)) → ((∀ i, i < j → os i = -(i : Int))) → ((∀ i, i < j → rest i = [.ref (ra.getD i 0)])) → ZZ (.next) ({ s with heap := h', toks := tk' })
noncomputable def NsLI4 (s : Shared) (h₀ : Heap) (L' : Addr) (Lp : Addr) (La : Addr) (Dl : Addr) (ra : List Addr) (kb : Nat → List UInt64) (d : Nat) (j : Nat) (oc : Obj) (op : Obj) (oa : Obj) (sp : Array (Option Value)) (sa : Array (Option Value)) (ZZ : Flow → Shared → Prop) : Prop := ∀ (l out : List Nat), ∀ (nh : Nat), ∀ (f : Nat → Value), ∀ (ks : Nat → Key), ∀ (os : Nat → Int), ∀ (rest : Nat → List Value), ∀ (ents : List (Addr × Obj)), ∀ (h' : Heap), ∀ (tk' : Nat), ∀ (m : Str → Option Value), (Fr h₀ L' h' m) → (News h₀ L' h' ((Dl, listOf (l.map f).toArray nh) :: (L' + 1, oc) :: (Lp, { op with slots := sp }) :: (La, { oa with slots := sa }) :: ents)) → (m "result" = some (.ref Dl)) → ((∀ p ∈ (L' + 1, oc) :: (Lp, { op with slots := sp }) :: (La, { oa with slots := sa }) :: ents, p.1 ≠ Dl)) → (Best (fun i j => rlt false kb j i) ra.length l out) → (l.length = j) → (Ents (gOf h₀ ents) tk' kb false 1 d f ks os rest l) → ((∀ i ∈ l, rest i = [.ref (ra.getD i 0)])) → ZZ (.next) ({ s with heap := h', toks := tk' })
noncomputable def NsLI5 (s : Shared) (h₀ : Heap) (L' : Addr) (Lp : Addr) (La : Addr) (RA : Addr) (J : Addr) (Dl : Addr) (ra : List Addr) (kb : Nat → List UInt64) (d : Nat) (j : Nat) (oc : Obj) (op : Obj) (oa : Obj) (sp : Array (Option Value)) (sa : Array (Option Value)) (c : Nat) (ZZ : Value → Shared → Prop) : Prop := ∀ (l out : List Nat), ∀ (jj nh : Nat), ∀ (oI : Obj), ∀ (f : Nat → Value), ∀ (ks : Nat → Key), ∀ (os : Nat → Int), ∀ (rest : Nat → List Value), ∀ (ents : List (Addr × Obj)), ∀ (h' : Heap), ∀ (tk' : Nat), ∀ (m : Str → Option Value), ∀ (od : Int), ∀ (ot : Tok), ∀ (t : Nat), ∀ (ea kt : Addr), ∀ (en ktn : Nat), ∀ (et : Tok), (Fr h₀ L' h' m) → (News h₀ L' h' ((Dl, listOf (l.map f).toArray nh) :: (J, oI) :: (L' + 1, oc) :: (Lp, { op with slots := sp }) :: (La, { oa with slots := sa }) :: ents)) → (m "result" = some (.ref Dl)) → (m "top" = some (.ref kt)) → (m "order" = some (.int od ot)) → (m "_heapreplace" = some (.ref 35)) → ((∀ p ∈ (L' + 1, oc) :: (Lp, { op with slots := sp }) :: (La, { oa with slots := sa }) :: ents, p.1 ≠ Dl ∧ p.1 ≠ J)) → (Best (fun i j => rlt false kb j i) jj l out) → (l.length = j) → (ItAt oI RA jj ra.length) → (jj + c = ra.length) → (Ents (gOf h₀ ents) tk' kb false 1 d f ks os rest l) → ((∀ i ∈ l, rest i = [.ref (ra.getD i 0)])) → ((∀ i ∈ l, od < os i)) → (od.natAbs < 1000 + jj) → (l[0]? = some t) → (f t = .ref ea) → (gOf h₀ ents ea = some { cls := .type "tuple", data := .seq (.ref kt :: .int (os t) et :: rest t).toArray en }) → (gOf h₀ ents kt = some (listOf (kvals (ks t)).toArray ktn)) → ZZ (.ref J) ({ s with heap := h', toks := tk' })
theorem nlargest_ok {Kf RA Lp La : Addr} {op oa : Obj} {ra : List Addr} {kb : Nat → List UInt64} {d n : Nat} {wish : Int} {tw : Tok} {v : Value} {D : List Addr} {lt : Nat → Nat → Bool} {lS : List Nat}
    (X₀ : (hd.heap_1 w.params).In H) (T : Top p loose mean mg mb H) (st : H.StaysIn s.heap) (hA : A.handled = none) (hu : A.units + 1200 < cLine) (hroom : A.depth + 10 < recursionLimit)
    (hK : KeyOk w H Kf ra kb d) (hRA : H.get? RA = some (listOf (ra.map Value.ref).toArray n)) (h2 : 2 ≤ ra.length) (h64 : ra.length < 64) (hex : ∀ a ∈ ra, ∃ o, H.get? a = some o ∧ o.cls = .type "list")
    (swo : SWO lt) (hlt : ∀ i j, kLt (kb i) (kb j) = lt i j) (hgt : ∀ i j, kGt (kb i) (kb j) = lt j i) (hr : ∀ i j, (fun i j => rlt false kb j i) i j = true ↔ slt (dirLt true lt) i j)
    (hw0 : -10 ≤ wish) (hw1 : wish ≤ 100) (frs : Frs A s H Lp La op oa) (src : Src H s RA v Lp La D) (hS1 : lS.Perm (List.range ra.length)) (hS2 : lS.Pairwise (slt (dirLt true lt)))
    (hq : ∀ (h' : Heap) (tk' : Nat) (a : Addr) (nn : Nat) (sp sa : Array (Option Value)), Keep D s.heap h' → h'.get? Lp = some { op with slots := sp } → h'.get? La = some { oa with slots := sa } → (a ∈ D ∨ s.heap.get? a = none) → h'.get? a = some (listOf ((lS.take wish.toNat).map fun i => Value.ref (ra.getD i 0)).toArray nn) →
      Q (.ref a) { s with heap := h', toks := tk' }) :
    wpAny (model PySem.Challenge.rw_mq0320_01.row.prog w) A (call (.ref 96) [.int wish tw, v] [(Str.ofString "key", .ref Kf)]) Q E s := by
  refine oAA (src.facts frs) fun hpD haD hD => ?_
  refine oEEAAAA frs.fr fun ep ea hframes hfp hfa hkp hka => ?_
  have gp := frs.p.1
  have ndp := frs.p.2.1
  have ga := frs.a.1
  have nda := frs.a.2.1
  have hpa := frs.pa
  refine wpAny_call ?_
  refine' callFC (binds := [("n", .int wish tw), ("iterable", v), ("key", .ref Kf)]) D ?k6 ?k7 (X₀.keeps st) (T.nolimit.keeps st) (by first | exact room1 hroom | lia) ?k9 ?kB ?kD ?_ ?c2 ?c3 ?c4
  case k6 => k_is
  case k7 => k_is
  case k9 => exact binds_K (X₀.keeps st) rfl (by k_is) rfl rfl rfl
  case kB => exact rfl
  case kD => decide +kernel
  case c2 => exact rfl
  case c3 => exact rfl
  case c4 => exact rfl
  intro L' h₁ tk₁ cells F N Y hk₁ hL htk₁
  have st' : H.StaysIn (hideAll s.heap D) := stays_hide st hD
  have X' := X₀.keeps st'
  have T' := T.keeps st'
  have hHS : Stat H.get? := stat_K X₀
  have zp := hide_news hpD gp hk₁ hL
  have za := hide_news haD ga hk₁ hL
  have hsrc : SrcAt (hideAll s.heap D) L' h₁ RA v [(Lp, op), (La, oa)] := Src.at src gp ndp ga nda hk₁ hL
  have hfin : ∀ h', (hideAll s.heap D).StaysIn h' → Keep D s.heap h' := fun h' q => keep_hide q
  have hnon : ∀ a, (hideAll s.heap D).get? a = none → a ∈ D ∨ s.heap.get? a = none := fun a e => hide_non e
  have hsS : Stat (hideAll s.heap D).get? := stat_K X'
  have F0 : Fr (hideAll s.heap D) L' h₁ _ := F
  have N0 : News (hideAll s.heap D) L' h₁ cells := N
  generalize hideAll s.heap D = h₀ at *
  clear F N
  k_cells Y
  refine oEA (⟨_, by assumption, N0⟩ : ∃ oc : Obj, oc.data = .cell (some (.ref Kf)) ∧ News h₀ L' h₁ [(L' + 1, oc)]) fun oc hoc N1 => ?_
  have F1 := frKnown F0 [("n", .int wish tw), ("iterable", v)] (allc (rfl) (allc (rfl) alln))
  have N2 : News h₀ L' h₁ [(L' + 1, oc), (Lp, { op with slots := op.slots }), (La, { oa with slots := oa.slots })] := newsCons (newsCons (newsCons (fun p hp => nomatch hp) za.1 za.2.1 za.2.2) zp.1 zp.2.1 zp.2.2) (N1 _ (.head _)).1 (N1 _ (.head _)).2.1 (N1 _ (.head _)).2.2
  have src1 : SrcAt h₀ L' h₁ RA v [(L' + 1, oc), (Lp, { op with slots := op.slots }), (La, { oa with slots := oa.slots })] := SrcAt.more hsrc (N1 _ (.head _)).1 hoc
  have hcp : L' + 1 ≠ Lp := cell_ne hL gp
  have hca : L' + 1 ≠ La := cell_ne hL ga
  clear hsrc F0 N0 N1
  repeat' (first | ((fail_if_success (with_reducible refine isIf ?_)); walk_at "go2") | (dsimp only; (fail_if_success (with_reducible refine isIf ?_)); walk_at "go2"))
  refine cut (fun f s' => Box (match f with
      | .ret x => Q x s'
      | .next => (NsLI1 s h₀ L' Lp La RA v oc op oa wish tw) s'
      | _ => False)) ?_ ?_
  · walk_at "got"
    · rename wish = 1 => hw
      rename Fr _ _ _ _ => F2
      rename News _ _ _ _ => N2
      refine iter_src F2 N2 src1 (F2.keep _ _ (st' _ _ hRA)) fun J oJ h3 F3 N3 cJ apJ hJR => ?_
      clear F2 N2
      walk_at "got"
      rename Fr _ _ _ _ => F4
      rename News _ _ _ _ => N4
      refine call_object0 ?_
      have N5 := newsNew F4 N4 plainObj
      have F5 := F4.push plainObj
      clear F4 N4
      (try clear F3)
      (try clear N3)
      walk_at "got"
      show wpAny _ _ (call (.builtin "max") [.ref J] [(Str.ofString "default", _), (Str.ofString "key", .ref Kf)]) _ _ _
      rename Fr _ _ _ _ => F6
      rename News _ _ _ _ => N6
      have zS := N6 _ (.head _)
      have zJ := N6 _ (.tail _ (.head _))
      have hJ0 : H.get? J = none := by
        cases q : H.get? J with
        | none => rfl
        | some o => have := st' _ _ q; rw [zJ.2.2] at this; cases this
      refine max_key (lt := (dirLt true lt)) hA (by show A.units + 3 + 600 < cLine; first | exact room3 hu (by decide) | lia) (by show A.depth + 1 + 4 < recursionLimit; first | exact room3 hroom (by decide) | lia) hK hHS hRA (fun b o e => F6.keep _ _ (st' _ _ e)) hJ0 zJ.1 cJ (by lia) (dirLt_swo swo) hgt ?_
      intro i h7 tk7 hi hbest K7
      have F7 := frKeep1 F6 K7 zJ.2
      have Nc := newsKeep (newsTail (newsTail N6)) K7 (fun p hp => by simpa using apJ p hp)
      have N7 := newsCons Nc (K7 _ _ (by
        intro q
        have q' := List.mem_singleton.mp q
        have e := zS.1
        rw [q', zJ.1] at e
        have e2 := cJ.1
        injection e with e
        have e3 : oJ = plainObj := e
        rw [e3] at e2
        exact absurd e2 (by simp [plainObj])) zS.1) zS.2.1 zS.2.2
      clear F6 N6 Nc
      have hm : ra.getD i 0 ∈ ra := by
        rw [List.getD_eq_getElem?_getD, List.getElem?_eq_getElem hi]; exact List.getElem_mem hi
      refine oEA (hex _ hm) fun oi eo ci => ?_
      have hiS : ra.getD i 0 ≠ _ := fun q => by
        have := st' _ _ eo
        rw [q] at this
        exact absurd (zS.2.2.symm.trans this) (by simp)
      dsimp only
      walk_at "got"
      rename Fr _ _ _ _ => F8
      rename News _ _ _ _ => N8
      refine wpAny_is_ref_other hiS (F8.keep _ _ (st' _ _ eo)) (N8 _ (.head _)).1 (by rw [ci]; simp) ?_
      walk_at "got"
      rename Fr _ _ _ _ => F9
      rename News _ _ _ _ => N9
      have z9 := N9 _ (.head _)
      refine ⟨hq _ _ _ 0 _ _ (hfin _ F9.keep) (N9 _ (.tail _ (.tail _ (.tail _ (.head _))))).1 (N9 _ (.tail _ (.tail _ (.tail _ (.tail _ (.head _)))))).1 (hnon _ z9.2.2) ?_⟩
      rw [hw, show (1 : Int).toNat = 1 from rfl, one_first (dirLt_swo swo) hi hbest hS1 hS2]
      exact z9.1
    · rename Fr _ _ _ _ => F2
      rename News _ _ _ _ => N2
      exact ⟨by omega, _, _, _, _, _, rfl, F2, N2, rfl, rfl, src1⟩
  rintro f s' hb
  have hb := hb.out
  cases f with
  | brk => exact hb.elim
  | cont => exact hb.elim
  | ret x => exact hb
  | next =>
  obtain ⟨hw1n, h2', tk2, m, sp, sa, rfl, F2, N2, l1, l2, src2⟩ := hb
  have F3 := frKnown F2 [("n", .int wish tw), ("iterable", v)] (by first | exact allc l1 (allc l2 alln) | simp [l1, l2])
  clear F1 F2 src1
  dsimp only
  walk_at "got"
  refine cut (fun f s' => Box (match f with
      | .ret x => Q x s'
      | .next => (NsLI2 s h₀ L' Lp La RA v oc op oa wish tw) s'
      | _ => False)) ?_ ?_
  · refine wpAny_Try_except ?_
    walk_at "got"
    rcases src2 with rfl | ⟨I, oI, rfl, eI, hIL, hI0, cI, apI⟩
    · rename Fr _ _ _ _ => F4
      refine len_list (PySem.IsL.isList (F4.keep _ _ (st' _ _ hRA))) (by simp; lia) ?_
      walk_at "got"
      · rename Fr _ _ _ _ => F5
        rename News _ _ _ _ => N5
        show wpAny _ _ (call (.builtin "sorted") [.ref RA] [(Str.ofString "key", .ref Kf), (Str.ofString "reverse", .bool true)]) _ _ _
        refine sorted_key (b := true) (lt := lt) F5 N5 st' hA (by show A.units + 3 + 600 < cLine; first | exact room3 hu (by decide) | lia) (by show A.depth + 1 + 4 < recursionLimit; first | exact room3 hroom (by decide) | lia) hK hHS hRA h2 h64 swo hlt ?_
        intro Ds h6 tk6 cs l F6 N6 apS htk6 hperm hsort
        have el : lS = l := sort_unique (slt_asymm (dirLt_swo swo)) hS2 hsort (hperm.trans hS1.symm)
        clear F5 N5
        dsimp only
        walk_at "got"
        rename Fr _ _ _ _ => F7
        rename News _ _ _ _ => N7
        have hwl : ra.length ≤ wish.toNat := by
          have h1 : ((List.map Value.ref ra).toArray.size : Int) ≤ wish := by assumption
          simp at h1; lia
        refine kba_turn (value' := PySem.Expr.Name (PySem.Str.ofString "a") ⟨0, 0, 0, 0⟩) (fun _ => rfl) ?_
        refine kmk_slice_lit F7 N7 (PySem.IsL.isList (n := cs) (N7 _ (.head _)).1) .none (.int wish _) (slice_take _ (by lia)) ?_ (by with_unfolding_all rfl) (fun _ => rfl) (by rw [List.size_toArray, sizeLine_eq, List.length_map, hperm.length_eq, List.length_range]; lia)
        intro D2 h8 F8 N8 hD2
        have z8 := N8 _ (.head _)
        refine ⟨hq _ _ D2 0 _ _ (hfin _ F8.keep) (N8 _ (.tail _ (.tail _ (.tail _ (.head _))))).1 (N8 _ (.tail _ (.tail _ (.tail _ (.tail _ (.head _)))))).1 (hnon _ z8.2.2) ?_⟩
        rw [el, List.map_take]
        exact z8.1
      · rename Fr _ _ _ _ => F5
        rename News _ _ _ _ => N5
        exact ⟨_, _, _, _, _, rfl, F5, N5, rfl, rfl, .inl rfl⟩
    · rename Fr _ _ _ _ => F4
      rename News _ _ _ _ => N4
      have zc := N4 _ (.head _)
      have zp4 := N4 _ (.tail _ (.head _))
      have za4 := N4 _ (.tail _ (.tail _ (.head _)))
      have hfs : ∀ d ∈ [L', Lp, La], h₀.get? d = none := allc (Heap.get?_none_of_le F4.above) (allc zp4.2.2 (allc za4.2.2 alln))
      refine oEEEAA (id F4.ns) fun oL esL epL hoL hdL _ => ?_
      have hnf : ∀ b o, b ∈ [L', Lp, La] → h2'.get? b = some o → ∀ vs, o.data ≠ .fields vs := nofields3 hoL (fun vs => by rw [hdL]; simp) zp4.1 ndp za4.1 nda
      have hI3 : I ∉ [L', Lp, La] := notin3 hIL (apI _ (.tail _ (.head _))).symm (apI _ (.tail _ (.tail _ (.head _)))).symm
      have after : ∀ h₂, SK [L', Lp, La] h2' h₂ → Fr h₀ L' h₂ _ ∧ ∃ sp sa, News h₀ L' h₂ [(L' + 1, oc), (Lp, { op with slots := sp }), (La, { oa with slots := sa })] ∧ h₂.get? I = some oI := fun h₂ S => by
        refine ⟨frSK F4 S hfs, ?_⟩
        refine oE (S.slot Lp _ (by simp) zp4.1) fun sl e1 => ?_
        refine oE (S.slot La _ (by simp) za4.1) fun sl' e2 => ?_
        refine ⟨sl, sl', newsCons (newsCons (newsCons (fun p hp => nomatch hp) e2 za4.2.1 za4.2.2) e1 zp4.2.1 zp4.2.2) (S.keep _ _ (notin3 (Nat.succ_ne_self _) hcp hca) zc.1) zc.2.1 zc.2.2, S.keep _ _ hI3 eI⟩
      refine len_raises (A := A.deeper _) hA eI cI fun h5 tk5 e hx => ?_
      refine catch_c (fs := [L', Lp, La]) (A₀ := A) (X'.keeps (stays_hides F4.keep hfs)) hframes rfl ⟨(show ScopeKind.function ≠ ScopeKind.module by decide), ⟨L', oL, rfl, hideAll_none _ (.head _), hoL, by rw [hdL]; simp⟩, hkp, ⟨Lp, _, hfp, hideAll_none _ (.tail _ (.head _)), zp4.1, ndp⟩, hka, ⟨La, _, hfa, hideAll_none _ (.tail _ (.tail _ (.head _))), za4.1, nda⟩, trivial⟩ hx hnf ?_ ?_
      · intro h₂ Q' E' S k
        refine oAEEA (after h₂ S) fun F5 sp sa N5 _ => ?_
        clear after F4 N4
        walk_at "got"
        refine' nameX_B (v := .type "AttributeError") ?cF ?cX ?cT ?ce ?cv ?cn ?_ ?ca ?cb
        case cF => k_asm
        case cX => k_asm
        case cT => k_asm
        case ca => rfl
        case cb => rfl
        case ce => k_is
        case cv => exact boot_AE
        case cn => decide
        refine spliced_none ?_
        refine wpAny_newTuple ?_
        refine k _ (h₂.push { cls := .type "tuple", data := .seq [Value.type "TypeError", Value.type "AttributeError"].toArray }) ?_ ?_
        · exact fun b o e => Heap.get?_push_of_some _ e
        · exact Heap.get?_push_size _ rfl
      · intro h₂ E' S
        refine oAEEA (after h₂ S) fun F5 sp sa N5 e5 => ?_
        clear after F4 N4
        walk_at "got"
        rename Fr _ _ _ _ => F6
        rename News _ _ _ _ => N6
        refine ⟨_, _, _, sp, sa, rfl, F6, N6, rfl, rfl, .inr ⟨I, oI, rfl, e5, hIL, hI0, cI, allc (apI _ (.head _)) (allc (show Lp ≠ I from apI (Lp, _) (.tail _ (.head _))) (allc (show La ≠ I from apI (La, _) (.tail _ (.tail _ (.head _)))) alln))⟩⟩
  clear F3 src2
  rintro f s' hb2
  have hb2 := hb2.out
  cases f with
  | brk => exact hb2.elim
  | cont => exact hb2.elim
  | ret x => exact hb2
  | next =>
  clear l1 l2
  obtain ⟨h3, tk3, m3, sp, sa, rfl, F2, N2, l1, l2, src3⟩ := hb2
  have F3 := frKnown F2 [("n", .int wish tw), ("iterable", v)] (by first | exact allc l1 (allc l2 alln) | simp [l1, l2])
  clear F2
  dsimp only
  walk_at "got"
  refine is_ref_none ?_
  walk_at "got"
  rename Fr _ _ _ _ => F4
  rename News _ _ _ _ => N4
  refine iter_src F4 N4 src3 (F4.keep _ _ (st' _ _ hRA)) fun J oJ h4 F5 N5 cJ apJ hJR => ?_
  clear F4 N4 src3
  walk_at "got"
  rename Fr _ _ _ _ => F6
  rename News _ _ _ _ => N6
  have F7 := frKnown F6 [("n", .int wish tw), ("it", .ref J)] (allc (rfl) (allc (rfl) alln))
  clear F6
  (try clear F5)
  (try clear N5)
  generalize hmm : known [("n", .int wish tw), ("it", .ref J)] _ = mm at F7
  have mn : mm "n" = some (.int wish tw) := by rw [← hmm]; rfl
  have mi : mm "it" = some (.ref J) := by rw [← hmm]; rfl
  clear hmm
  have F7 := frKnown F7 [("n", .int wish tw), ("it", .ref J)] (by first | exact allc mn (allc mi alln) | simp [mn, mi])
  dsimp only
  refine cutC (NsLI3 s h₀ L' Lp La RA J ra kb d oc op oa sp sa wish tw) ?_ ?_
  · intro Pz mkP
    refine comp_myA (h₀ := h₀) (L := L') (m := known [("n", .int wish tw), ("it", .ref J)] mm) (NsLIC s h₀ L' Lp La RA J ra kb d oc op oa sp sa wish tw mm) rfl (by with_unfolding_all rfl) (by decide) (by rfl) (by decide) ?_ ?_ ?_
    · walk_at "got"
      rename Fr _ _ _ _ => F8
      rename News _ _ _ _ => N8
      refine range_dn T' F8 N8 (by lia) ?_
      intro r h9 tk9 t1 t2 t3 F9 N9 hr9
      clear F8 N8
      dsimp only
      walk_at "got"
      rename Fr _ _ _ _ => F10
      rename News _ _ _ _ => N10
      have zJ := N10 _ (.head _)
      refine call_zipR hr9 (small_dn hw0 hw1) ⟨oJ, zJ.1, cJ⟩ fun h11 e1 e2 e3 e4 hk => ?_
      rw [rangeSize_dn] at e4
      have F11 := F10.keeps hk
      have N11 := N10.grown hk
      have hf : ∀ c, h9.objs.size ≤ c → c ≠ L' ∧ h₀.get? c = none := fun c hc => fresh_base F10 (Heap.get?_none_of_le hc)
      have Nz := newsCons (newsCons (newsCons (newsCons N11 e2 (hf _ (Nat.le_add_right _ _)).1 (hf _ (Nat.le_add_right _ _)).2) e4 (hf _ (Nat.le_refl _)).1 (hf _ (Nat.le_refl _)).2) e3 (hf _ (Nat.le_add_right _ _)).1 (hf _ (Nat.le_add_right _ _)).2) e1 (hf _ (Nat.le_add_right _ _)).1 (hf _ (Nat.le_add_right _ _)).2
      have hRl : RA < h9.objs.size := Heap.lt_size (F10.keep _ _ (st' _ _ hRA))
      have hJl : J < h9.objs.size := Heap.lt_size zJ.1
      have hold : ∀ p ∈ (L' + 1, oc) :: (Lp, { op with slots := sp }) :: (La, { oa with slots := sa }) :: [], p.1 < h9.objs.size := fun p hp => Heap.lt_size (N10 p (.tail _ hp)).1
      dsimp only
      refine wpAny_pyIter_zip e1 ?_
      refine ⟨_, F11, Nz, fun C Dl h₁' oC m₂ hCD hap hD hC F12 N12 hoC => ⟨ra.length, _, _, _, _, 0, 0, .none, .none, oC, oJ, max wish 0, m₂, fun _ => .none, fun _ => [], fun _ => 0, fun _ => [], [], _, _, rfl, rfl, F12, ?_, zApart_new hJl hRl hJR.symm, ?_, ?_, cJ, hoC, by lia, by lia, by lia, Ents.nil, fun i hi => absurd hi (Nat.not_lt_zero _), fun i hi => absurd hi (Nat.not_lt_zero _)⟩⟩
      · exact allc (N12 _ (.head _)) (allc (N12 _ (.tail _ (.head _))) (allc (N12 _ (.tail _ (.tail _ (.head _)))) (allc (N12 _ (.tail _ (.tail _ (.tail _ (.head _))))) (allc (N12 _ (.tail _ (.tail _ (.tail _ (.tail _ (.head _)))))) (allc (N12 _ (.tail _ (.tail _ (.tail _ (.tail _ (.tail _ (.tail _ (.head _)))))))) (allc (N12 _ (.tail _ (.tail _ (.tail _ (.tail _ (.tail _ (.head _))))))) (allc (N12 _ (.tail _ (.tail _ (.tail _ (.tail _ (.tail _ (.tail _ (.tail _ (.head _))))))))) (allc (N12 _ (.tail _ (.tail _ (.tail _ (.tail _ (.tail _ (.tail _ (.tail _ (.tail _ (.head _)))))))))) (allc (N12 _ (.tail _ (.tail _ (.tail _ (.tail _ (.tail _ (.tail _ (.tail _ (.tail _ (.tail _ (.head _))))))))))) alln)))))))))
      · exact ⟨hCD, (hap _ (.head _)).1.symm, (hap _ (.tail _ (.head _))).1.symm, (hap _ (.tail _ (.tail _ (.head _)))).1.symm, (hap _ (.tail _ (.tail _ (.tail _ (.tail _ (.head _)))))).1.symm, (hap _ (.head _)).2.symm, (hap _ (.tail _ (.head _))).2.symm, (hap _ (.tail _ (.tail _ (.head _)))).2.symm, (hap _ (.tail _ (.tail _ (.tail _ (.tail _ (.head _)))))).2.symm⟩
      · exact allc (⟨(hap _ (.tail _ (.tail _ (.tail _ (.head _))))).1, (hap _ (.tail _ (.tail _ (.tail _ (.head _))))).2, Nat.ne_of_lt (Nat.add_lt_add_left (by decide) _), Nat.ne_of_lt (Nat.add_lt_add_left (by decide) _), Nat.ne_of_gt (Nat.lt_add_of_pos_right (by decide)), Nat.ne_of_gt (Nat.lt_of_lt_of_le hJl (Nat.le_add_right _ _))⟩) (fun p hp => by
          have hlt := hold p hp
          refine ⟨(hap p (.tail _ (.tail _ (.tail _ (.tail _ (.tail _ hp)))))).1, (hap p (.tail _ (.tail _ (.tail _ (.tail _ (.tail _ hp)))))).2, Nat.ne_of_lt (Nat.lt_of_lt_of_le hlt (Nat.le_add_right _ _)), Nat.ne_of_lt (Nat.lt_of_lt_of_le hlt (Nat.le_add_right _ _)), Nat.ne_of_lt hlt, apJ p hp⟩)
    · rintro it s₂ C Dl n s' Q' E' ⟨z, TI, TO, i1, j, nn, u1, u2, oC, oI, left, m₂, f, ks, os, rest, ents, h', tk', rfl, rfl, F8, N8, _⟩ hQ'
      exact wpAny_pyIter_zip (N8 _ (.tail _ (.tail _ (.head _)))).1 hQ'
    · rintro it s₂ C Dl ms s' ⟨z, TI, TO, i1, j, nn, u1, u2, oC, oI, left, m₂, f, ks, os, rest, ents, h', tk', rfl, rfl, F8, N8, D8, ⟨c1, c2, c3, c4, c5, c6, c7, c8, c9⟩, ap, cI, hoC, hj, hleft, hjw, hE, hos, hrest⟩
      have zC := N8 _ (.head _)
      have zD := N8 _ (.tail _ (.head _))
      have zz := N8 _ (.tail _ (.tail _ (.head _)))
      have zO := N8 _ (.tail _ (.tail _ (.tail _ (.head _))))
      have z1 := N8 _ (.tail _ (.tail _ (.tail _ (.tail _ (.head _)))))
      have zJ := N8 _ (.tail _ (.tail _ (.tail _ (.tail _ (.tail _ (.head _))))))
      have zI := N8 _ (.tail _ (.tail _ (.tail _ (.tail _ (.tail _ (.tail _ (.head _)))))))
      have Nr : News h₀ L' h' ((TI, prObj (.ref i1) (.ref J)) :: (L' + 1, oc) :: (Lp, { op with slots := sp }) :: (La, { oa with slots := sa }) :: ents) := fun p hp => N8 p (.tail _ (.tail _ (.tail _ (.tail _ (.tail _ (.tail _ hp))))))
      have hl := PySem.IsL.isList (n := n) (F8.keep _ _ (st' _ _ hRA))
      rcases Int.lt_or_le 0 left with hl0 | hl0
      rotate_left
      · refine zipR_end1 (a := u1) (b := u2) hA D8 zz.1 zI.1 z1.1 hl0 fun h9 K9 => ?_
        have F9 := frKeep1 F8 K9 zz.2
        have N9 := newsCons (newsCons (newsCons (newsKeep Nr K9 (fun p hp => by first | exact nin1 ((ap p hp).2.2.1) | exact nin2 ((ap p hp).2.2.1) | exact allc ((ap p hp).2.2.1) alln | simpa using (ap p hp).2.2.1)) (K9 _ _ (by first | exact nin1 (D8.i2z) | exact nin2 (D8.i2z) | exact allc (D8.i2z) alln | simpa using D8.i2z) zJ.1) zJ.2.1 zJ.2.2) (K9 _ _ (by first | exact nin1 (c6) | exact nin2 (c6) | exact allc (c6) alln | simpa using c6) zD.1) zD.2.1 zD.2.2) (K9 _ _ (by first | exact nin1 (c2) | exact nin2 (c2) | exact allc (c2) alln | simpa using c2) zC.1) zC.2.1 zC.2.2
        dsimp only
        refine' comp_finA ?fF ?fN ?fh ?fo ?fy ?fp ?_
        case fF => exact F9
        case fN => exact N9
        case fh => exact hoC
        case fy => rfl
        case fp => rfl
        case fo =>
          exact allc (c1.symm) (allc (c5.symm) (fun p hp => (ap p hp).1))
        intro hx nC kk
        refine oE nC fun mC nC => ?_
        refine ⟨mC, nC, fun h10 hs10 => ?_⟩
        refine oA (kk h10 hs10) fun F10 N10 => ?_
        refine mkP _ _ (fun _ zz => zz Dl j nn oI f ks os rest ents h10 _ _ F10 (newsCons (newsCons (fun p hp => N10 p (.tail _ (.tail _ (.tail _ hp)))) (N10 _ (.tail _ (.head _))).1 zJ.2.1 zJ.2.2) (N10 _ (.head _)).1 zD.2.1 zD.2.2) rfl rfl rfl c9 (fun p hp => ⟨(ap p (.tail _ hp)).2.1, (ap p (.tail _ hp)).2.2.2.2.2⟩) (.inl cI) (by lia) (hE.grow (fun _ _ e => e) (by (try dsimp only); lia)) hos hrest)
      rcases Nat.eq_zero_or_pos ms with rfl | hn
      · refine zipR_end2 hA D8 zz.1 zI.1 zO.1 z1.1 hl0 ⟨oI, zJ.1, cI⟩ hl (by simp; lia) fun h9 K9 hg => ?_
        refine oEA (gone_obj hg) fun oG eG hG => ?_
        have hz4 : ∀ d ∈ [z, TO, i1, J], h₀.get? d = none := allc zz.2.2 (allc zO.2.2 (allc z1.2.2 (allc zJ.2.2 alln)))
        have F9 := frKeep F8 K9 (by simp [zz.2.1.symm, zO.2.1.symm, z1.2.1.symm, zJ.2.1.symm]) hz4
        have N9 := newsCons (newsCons (newsCons (newsKeep Nr K9 (fun p hp => by
          refine oAAAAA (ap p hp) fun _ _ q3 q4 q5 q6 => ?_
          simp [q3, q4, q5, q6])) eG zJ.2.1 zJ.2.2) (K9 _ _ (by simp [c6, c7, c8, c9]) zD.1) zD.2.1 zD.2.2) (K9 _ _ (by simp [c2, c3, c4, c5]) zC.1) zC.2.1 zC.2.2
        dsimp only
        refine' comp_finA ?gfF ?gfN ?gfh ?gfo ?gfy ?gfp ?_
        case gfF => exact F9
        case gfN => exact N9
        case gfh => exact hoC
        case gfy => rfl
        case gfp => rfl
        case gfo =>
          exact allc (c1.symm) (allc (c5.symm) (fun p hp => (ap p hp).1))
        intro hx nC kk
        refine oE nC fun mC nC => ?_
        refine ⟨mC, nC, fun h10 hs10 => ?_⟩
        refine oA (kk h10 hs10) fun F10 N10 => ?_
        refine mkP _ _ (fun _ zz => zz Dl j nn oG f ks os rest ents h10 _ _ F10 (newsCons (newsCons (fun p hp => N10 p (.tail _ (.tail _ (.tail _ hp)))) (N10 _ (.tail _ (.head _))).1 zJ.2.1 zJ.2.2) (N10 _ (.head _)).1 zD.2.1 zD.2.2) rfl rfl rfl c9 (fun p hp => ⟨(ap p (.tail _ hp)).2.1, (ap p (.tail _ hp)).2.2.2.2.2⟩) (.inr ⟨by omega, hG⟩) (by lia) (hE.grow (fun _ _ e => e) (by (try dsimp only); lia)) hos hrest)
      have hjr : j < ra.length := by lia
      have hzlt : z < h'.objs.size := Heap.lt_size zz.1
      refine zipR_item D8 zz.1 zI.1 zO.1 z1.1 hl0 ⟨oI, zJ.1, cI⟩ hl (y := .ref ra[j]) (by simp [hjr]) fun h9 e1 e2 e3 e4 e5 e6 K9 => ?_
      refine oEA e4 fun oI9 eI9 cI9 => ?_; (try clear e4)
      have hz4 : ∀ d ∈ [z, TO, i1, J], h₀.get? d = none := allc zz.2.2 (allc zO.2.2 (allc z1.2.2 (allc zJ.2.2 alln)))
      have F9 := frKeep F8 K9 (by simp [zz.2.1.symm, zO.2.1.symm, z1.2.1.symm, zJ.2.1.symm]) hz4
      have fT := fresh_base F8 (Heap.get?_none_of_le (Nat.le_refl _))
      have apn : ∀ p ∈ (TI, prObj (.ref i1) (.ref J)) :: (L' + 1, oc) :: (Lp, { op with slots := sp }) :: (La, { oa with slots := sa }) :: ents, p.1 ≠ h'.objs.size := fun p hp => Nat.ne_of_lt (Heap.lt_size (Nr p hp).1)
      dsimp only
      refine wpAny_letOwnedTupleGo_zip e1 fun h10 g10 K10 => ?_
      have KK := Keep.ofSame K10
      have F10 := frKeep1 F9 KK zz.2
      have k2 : ∀ b o, b ≠ z → b ≠ TO → b ≠ i1 → b ≠ J → h'.get? b = some o → h10.get? b = some o := fun b o b1 b2 b3 b4 e => KK _ _ (by first | exact nin1 (b1) | exact nin2 (b1) | exact allc (b1) alln | simpa using b1) (K9 b o (by simp [b1, b2, b3, b4]) e)
      have N10 : News h₀ L' h10 ((C, oC) :: (Dl, lst ((List.range j).map f) nn) :: (h'.objs.size, prObj (.int (-(j : Int)) tk') (.ref ra[j])) :: (z, zipObj .none TI TO) :: (TO, prObj (.int (-(j : Int)) tk') (.ref ra[j])) :: (i1, riObj (-(j : Int) + (-1)) (left - 1) (-1)) :: (J, oI9) :: (TI, prObj (.ref i1) (.ref J)) :: (L' + 1, oc) :: (Lp, { op with slots := sp }) :: (La, { oa with slots := sa }) :: ents) := by
        have hzT : h'.objs.size ≠ z := Nat.ne_of_gt hzlt
        refine newsCons (newsCons (newsCons (newsCons (newsCons (newsCons (newsCons (fun p hp => ⟨k2 _ _ (ap p hp).2.2.1 (ap p hp).2.2.2.1 (ap p hp).2.2.2.2.1 (ap p hp).2.2.2.2.2 (Nr p hp).1, (Nr p hp).2⟩) (KK _ _ (by first | exact nin1 (D8.i2z) | exact nin2 (D8.i2z) | exact allc (D8.i2z) alln | simpa using D8.i2z) eI9) zJ.2.1 zJ.2.2) (KK _ _ (by first | exact nin1 (D8.i1z) | exact nin2 (D8.i1z) | exact allc (D8.i1z) alln | simpa using D8.i1z) e3) z1.2.1 z1.2.2) (KK _ _ (by first | exact nin1 (D8.TOz) | exact nin2 (D8.TOz) | exact allc (D8.TOz) alln | simpa using D8.TOz) e2) zO.2.1 zO.2.2) g10 zz.2.1 zz.2.2) (KK _ _ (by first | exact nin1 (hzT) | exact nin2 (hzT) | exact allc (hzT) alln | simpa using hzT) e5) fT.1 fT.2) (k2 _ _ c6 c7 c8 c9 zD.1) zD.2.1 zD.2.2) (k2 _ _ c2 c3 c4 c5 zC.1) zC.2.1 zC.2.2
      have hCT : C ≠ h'.objs.size := Nat.ne_of_lt (Heap.lt_size zC.1)
      have hDT : Dl ≠ h'.objs.size := Nat.ne_of_lt (Heap.lt_size zD.1)
      have offC : ∀ p ∈ (Dl, lst ((List.range j).map f) nn) :: (h'.objs.size, prObj (.int (-(j : Int)) tk') (.ref ra[j])) :: (z, zipObj .none TI TO) :: (TO, prObj (.int (-(j : Int)) tk') (.ref ra[j])) :: (i1, riObj (-(j : Int) + (-1)) (left - 1) (-1)) :: (J, oI9) :: (TI, prObj (.ref i1) (.ref J)) :: (L' + 1, oc) :: (Lp, { op with slots := sp }) :: (La, { oa with slots := sa }) :: ents, p.1 ≠ C := by
        exact allc (c1.symm) (allc (hCT.symm) (allc (c2.symm) (allc (c3.symm) (allc (c4.symm) (allc (c5.symm) (fun p hp => (ap p hp).1))))))
      clear F9
      refine unpackN_ F10 N10 (isTup_pair' (N10 _ (.tail _ (.tail _ (.head _)))).1) hA rfl rfl fun h11 F11 N11 => ?_
      refine wpAny_assignInOrder_more (comp_store rfl rfl F11 N11 offC hoC fun h12 o12 F12 N12 c12 => ?_)
      refine wpAny_assignInOrder_more (comp_store rfl rfl F12 N12 offC c12 fun h13 o13 F13 N13 c13 => ?_)
      refine wpAny_assignInOrder_none ?_
      refine oEAA (⟨_, c13, by rw [if_neg (by decide), if_pos rfl], by rw [if_pos rfl]⟩ : ∃ m8, LCg.NsObj o13 m8 ∧ m8 "i" = some (.int (-(j : Int)) tk') ∧ m8 "elem" = some (.ref ra[j])) fun m13 c14 y1 y2 => ?_
      clear F10 N10 F11 N11 F12 N12 c12 c13
      dsimp only
      refine oA (id hK) fun q38437z0 hKc => ?_; obtain ⟨oK, fdK, eK, dK⟩ := q38437z0
      walk_at "got"
      · rename Fr _ _ _ _ => F14
        exact F14.keep _ _ (st' _ _ eK)
      rename Fr _ _ _ _ => F14
      rename News _ _ _ _ => N14
      refine hKc _ _ _ _ j ra[j] (List.getElem?_eq_getElem hjr) ?_ hA ?_ ?_ ?_
      · exact fun b o e => F14.keep b o (st' b o e)
      · show A.units + 3 + 500 < cLine; first | exact room3 hu (by decide) | lia
      · show A.depth + 1 + 4 < recursionLimit; first | exact room3 hroom (by decide) | lia
      intro h15 tk15 kc k kn K15 hkc ek b1 b2 b3 b4 b5
      have F15 := frKeep0 F14 K15
      have N15 := newsFresh F14 hkc ek (newsKeep0 N14 K15)
      have fkc := fresh_base F14 hkc
      have hkcn : ∀ b o, h13.get? b = some o → b ≠ kc := fun b o e q => by
        rw [q] at e
        have h1 : h13.get? kc = none := hkc
        rw [h1] at e; cases e
      have hN13 := N14
      have hE15 := hE.grow (gOf_cons (o := listOf (kvals k).toArray kn) (fun p hp => hN13 p (.tail _ (.tail _ (.tail _ (.tail _ (.tail _ (.tail _ (.tail _ (.tail _ (.tail _ (.tail _ (.tail _ hp)))))))))))) hkc) (Nat.le_refl _)
      have apk : ∀ p ∈ (TI, prObj (.ref i1) (.ref J)) :: (L' + 1, oc) :: (Lp, { op with slots := sp }) :: (La, { oa with slots := sa }) :: ents, p.1 ≠ kc := fun p hp => hkcn _ _ (hN13 p (.tail _ (.tail _ (.tail _ (.tail _ (.tail _ (.tail _ (.tail _ hp)))))))).1
      have kC := hkcn _ _ (hN13 _ (.head _)).1
      have kD := hkcn _ _ (hN13 _ (.tail _ (.head _))).1
      have kz := hkcn _ _ (hN13 _ (.tail _ (.tail _ (.tail _ (.head _))))).1
      have kO := hkcn _ _ (hN13 _ (.tail _ (.tail _ (.tail _ (.tail _ (.head _)))))).1
      have k1 := hkcn _ _ (hN13 _ (.tail _ (.tail _ (.tail _ (.tail _ (.tail _ (.head _))))))).1
      have kJ := hkcn _ _ (hN13 _ (.tail _ (.tail _ (.tail _ (.tail _ (.tail _ (.tail _ (.head _)))))))).1
      clear hN13
      (try clear N13)
      clear F14 N14
      (try clear F13)
      dsimp only
      walk_at "got"
      rename Fr _ _ _ _ => F16
      rename News _ _ _ _ => N16
      rename kc < _ ∧ _ => lD
      show wpAny _ _ (call (.builtin "list.append") [.ref Dl, .ref _]) _ _ _
      have zt := N16 _ (.head _)
      have zk := N16 _ (.tail _ (.head _))
      have zD16 := N16 _ (.tail _ (.tail _ (.tail _ (.head _))))
      refine append_at zD16.1 (fun h17 hs17 e17 => ?_) (by rw [sizeLine_eq]; simp; lia)
      have K17 := Keep.ofSame hs17
      have F17 := frKeep1 F16 K17 zD16.2
      have hE17 := hE.entry (kc := kc) (t := tk') (nn := 0) (kn := kn) (o := -(j : Int)) (r := [.ref ra[j]]) (x := j) (k := k) (tk' := tk15) (fun p hp => apk p (.tail _ (.tail _ (.tail _ (.tail _ hp))))) (allLt_ne lD.2.2.2.2.2.2.2.2.2.2.2.2) (Nat.ne_of_lt lD.1) fkc.2 zt.2.2 (fun i hi => List.mem_range.mp hi) b2 b1
        (fun p hp => ⟨by have h1 := (b4 p hp).1; (try dsimp only at h1); lia, (b4 p hp).2⟩) (by (try dsimp only at b5); lia) rfl b3 (fun i hi => by have h1 := List.mem_range.mp hi; simp only [if_true, Bool.false_eq_true, if_false]; rw [hos i h1]; lia)
      have em : ∀ a : Addr, (List.range (j + 1)).map (upd f j (.ref a)) = (List.range j).map f ++ [Value.ref a] := fun a => by
        rw [List.range_succ, List.map_append, upd_map _ _ (by simp)]; simp [upd_same]
      have e7 : -(j : Int) + (-1) = -((j + 1 : Nat) : Int) := by lia
      have apE0 := ap_cons2 (R := fun x => x ≠ C ∧ x ≠ Dl ∧ x ≠ z ∧ x ≠ TO ∧ x ≠ i1 ∧ x ≠ J) (fun p hp => ap p (.tail _ (.tail _ (.tail _ (.tail _ hp))))) (o := listOf (kvals k).toArray kn) ⟨kC.symm, kD.symm, kz.symm, kO.symm, k1.symm, kJ.symm⟩
      have apE := ap_cons2 (R := fun x => x ≠ C ∧ x ≠ Dl ∧ x ≠ z ∧ x ≠ TO ∧ x ≠ i1 ∧ x ≠ J) apE0 (o := { cls := .type "tuple", data := .seq (Value.ref kc :: .int (-(j : Int)) tk' :: [.ref ra[j]]).toArray 0 }) ⟨Nat.ne_of_gt lD.2.1, Nat.ne_of_gt lD.2.2.1, Nat.ne_of_gt lD.2.2.2.2.1, Nat.ne_of_gt lD.2.2.2.2.2.1, Nat.ne_of_gt lD.2.2.2.2.2.2.1, Nat.ne_of_gt lD.2.2.2.2.2.2.2.1⟩
      have apF := ap_cons2 (R := fun x => x ≠ C ∧ x ≠ Dl ∧ x ≠ z ∧ x ≠ TO ∧ x ≠ i1 ∧ x ≠ J) (ap_cons2 (R := fun x => x ≠ C ∧ x ≠ Dl ∧ x ≠ z ∧ x ≠ TO ∧ x ≠ i1 ∧ x ≠ J) (ap_cons2 (R := fun x => x ≠ C ∧ x ≠ Dl ∧ x ≠ z ∧ x ≠ TO ∧ x ≠ i1 ∧ x ≠ J) (ap_cons2 (R := fun x => x ≠ C ∧ x ≠ Dl ∧ x ≠ z ∧ x ≠ TO ∧ x ≠ i1 ∧ x ≠ J) apE (o := { oa with slots := sa }) (ap _ (.tail _ (.tail _ (.tail _ (.head _)))))) (o := { op with slots := sp }) (ap _ (.tail _ (.tail _ (.head _))))) (o := oc) (ap _ (.tail _ (.head _)))) (o := prObj (.ref i1) (.ref J)) (ap _ (.head _))
      have Nq : News h₀ L' _ ((TI, prObj (.ref i1) (.ref J)) :: (L' + 1, oc) :: (Lp, { op with slots := sp }) :: (La, { oa with slots := sa }) :: (_, { cls := .type "tuple", data := .seq (Value.ref kc :: .int (-(j : Int)) tk' :: [.ref ra[j]]).toArray 0 }) :: (kc, listOf (kvals k).toArray kn) :: ents) := newsCons (newsCons (newsCons (newsCons (newsCons (newsCons (fun p hp => N16 p (.tail _ (.tail _ (.tail _ (.tail _ (.tail _ (.tail _ (.tail _ (.tail _ (.tail _ (.tail _ (.tail _ (.tail _ (.tail _ hp)))))))))))))) zk.1 zk.2.1 zk.2.2) zt.1 zt.2.1 zt.2.2) (N16 _ (.tail _ (.tail _ (.tail _ (.tail _ (.tail _ (.tail _ (.tail _ (.tail _ (.tail _ (.tail _ (.tail _ (.tail _ (.head _)))))))))))))).1 (N16 _ (.tail _ (.tail _ (.tail _ (.tail _ (.tail _ (.tail _ (.tail _ (.tail _ (.tail _ (.tail _ (.tail _ (.tail _ (.head _)))))))))))))).2.1 (N16 _ (.tail _ (.tail _ (.tail _ (.tail _ (.tail _ (.tail _ (.tail _ (.tail _ (.tail _ (.tail _ (.tail _ (.tail _ (.head _)))))))))))))).2.2) (N16 _ (.tail _ (.tail _ (.tail _ (.tail _ (.tail _ (.tail _ (.tail _ (.tail _ (.tail _ (.tail _ (.tail _ (.head _))))))))))))).1 (N16 _ (.tail _ (.tail _ (.tail _ (.tail _ (.tail _ (.tail _ (.tail _ (.tail _ (.tail _ (.tail _ (.tail _ (.head _))))))))))))).2.1 (N16 _ (.tail _ (.tail _ (.tail _ (.tail _ (.tail _ (.tail _ (.tail _ (.tail _ (.tail _ (.tail _ (.tail _ (.head _))))))))))))).2.2) (N16 _ (.tail _ (.tail _ (.tail _ (.tail _ (.tail _ (.tail _ (.tail _ (.tail _ (.tail _ (.tail _ (.head _)))))))))))).1 (N16 _ (.tail _ (.tail _ (.tail _ (.tail _ (.tail _ (.tail _ (.tail _ (.tail _ (.tail _ (.tail _ (.head _)))))))))))).2.1 (N16 _ (.tail _ (.tail _ (.tail _ (.tail _ (.tail _ (.tail _ (.tail _ (.tail _ (.tail _ (.tail _ (.head _)))))))))))).2.2) (N16 _ (.tail _ (.tail _ (.tail _ (.tail _ (.tail _ (.tail _ (.tail _ (.tail _ (.tail _ (.head _))))))))))).1 (N16 _ (.tail _ (.tail _ (.tail _ (.tail _ (.tail _ (.tail _ (.tail _ (.tail _ (.tail _ (.head _))))))))))).2.1 (N16 _ (.tail _ (.tail _ (.tail _ (.tail _ (.tail _ (.tail _ (.tail _ (.tail _ (.tail _ (.head _))))))))))).2.2
      have Nr17 := newsKeep Nq K17 (fun p hp => by first | exact nin1 ((apF p hp).2.1) | exact nin2 ((apF p hp).2.1) | exact allc ((apF p hp).2.1) alln | simpa using (apF p hp).2.1)
      have N17 := newsCons (newsCons (newsCons (newsCons Nr17 (K17 _ _ (by first | exact nin1 (c9.symm) | exact nin2 (c9.symm) | exact allc (c9.symm) alln | simpa using c9.symm) (N16 _ (.tail _ (.tail _ (.tail _ (.tail _ (.tail _ (.tail _ (.tail _ (.tail _ (.head _)))))))))).1) (N16 _ (.tail _ (.tail _ (.tail _ (.tail _ (.tail _ (.tail _ (.tail _ (.tail _ (.head _)))))))))).2.1 (N16 _ (.tail _ (.tail _ (.tail _ (.tail _ (.tail _ (.tail _ (.tail _ (.tail _ (.head _)))))))))).2.2) (K17 _ _ (by first | exact nin1 (c8.symm) | exact nin2 (c8.symm) | exact allc (c8.symm) alln | simpa using c8.symm) (N16 _ (.tail _ (.tail _ (.tail _ (.tail _ (.tail _ (.tail _ (.tail _ (.head _))))))))).1) (N16 _ (.tail _ (.tail _ (.tail _ (.tail _ (.tail _ (.tail _ (.tail _ (.head _))))))))).2.1 (N16 _ (.tail _ (.tail _ (.tail _ (.tail _ (.tail _ (.tail _ (.tail _ (.head _))))))))).2.2) (K17 _ _ (by first | exact nin1 (c7.symm) | exact nin2 (c7.symm) | exact allc (c7.symm) alln | simpa using c7.symm) (N16 _ (.tail _ (.tail _ (.tail _ (.tail _ (.tail _ (.tail _ (.head _)))))))).1) (N16 _ (.tail _ (.tail _ (.tail _ (.tail _ (.tail _ (.tail _ (.head _)))))))).2.1 (N16 _ (.tail _ (.tail _ (.tail _ (.tail _ (.tail _ (.tail _ (.head _)))))))).2.2) (K17 _ _ (by first | exact nin1 (c6.symm) | exact nin2 (c6.symm) | exact allc (c6.symm) alln | simpa using c6.symm) (N16 _ (.tail _ (.tail _ (.tail _ (.tail _ (.tail _ (.head _))))))).1) (N16 _ (.tail _ (.tail _ (.tail _ (.tail _ (.tail _ (.head _))))))).2.1 (N16 _ (.tail _ (.tail _ (.tail _ (.tail _ (.tail _ (.head _))))))).2.2
      rw [List.push_toArray, ← em] at e17
      have N18 := newsCons (newsCons N17 e17 zD16.2.1 zD16.2.2) (K17 _ _ (by first | exact nin1 (c1) | exact nin2 (c1) | exact allc (c1) alln | simpa using c1) (N16 _ (.tail _ (.tail _ (.head _)))).1) (N16 _ (.tail _ (.tail _ (.head _)))).2.1 (N16 _ (.tail _ (.tail _ (.head _)))).2.2
      rw [e7] at N18
      refine ⟨⟨ms - 1, by lia, z, TI, TO, i1, j + 1, _, _, _, o13, oI9, left - 1, m13, _, _, _, _, _, h17, _, rfl, rfl, F17, N18, D8, ⟨c1, c2, c3, c4, c5, c6, c7, c8, c9⟩, apF, cI9, c14, by lia, by lia, by lia, hE17.sub ?_, ?_, ?_⟩⟩
      · intro i hi
        have h1 := List.mem_range.mp hi
        rcases Nat.lt_or_eq_of_le (Nat.lt_succ_iff.mp h1) with q | q
        · exact .tail _ (List.mem_range.mpr q)
        · rw [q]; exact .head _
      · intro i hi
        rcases Nat.lt_or_eq_of_le (Nat.lt_succ_iff.mp hi) with q | q
        · rw [upd_ne _ _ (Nat.ne_of_lt q)]; exact hos i q
        · rw [q, upd_same]
      · intro i hi
        rcases Nat.lt_or_eq_of_le (Nat.lt_succ_iff.mp hi) with q | q
        · rw [upd_ne _ _ (Nat.ne_of_lt q)]; exact hrest i q
        · rw [q, upd_same]; simp [hjr]
  intro Dl j nn oI f ks os rest ents h' tk' m F8 N8 l1 l2 l3 hDJ ap hIt hj hE hos hrest
  clear F7 N6
  have F9 := frKnown F8 [("n", .int wish tw), ("it", .ref J), ("result", .ref Dl)] (by first | exact allc l1 (allc l2 (allc l3 alln)) | simp [l1, l2, l3])
  clear F8
  dsimp only
  walk_at "got"
  have zD := N8 _ (.head _)
  refine wpAny_truthy_list (PySem.IsL.isList (n := nn) zD.1) (by simp; lia) ?_
  rcases Nat.eq_zero_or_pos j with hj0 | hj0
  · rw [hj0] at zD ⊢
    rw [show (!(List.map f (List.range 0)).toArray.isEmpty) = false from rfl]
    walk_at "got"
    refine hq _ _ Dl nn _ _ (hfin _ F9.keep) (N8 _ (.tail _ (.tail _ (.tail _ (.head _))))).1 (N8 _ (.tail _ (.tail _ (.tail _ (.tail _ (.head _)))))).1 (hnon _ zD.2.2) ?_
    have : wish.toNat = 0 := by lia
    rw [this]
    exact zD.1
  have hne : (!(List.map f (List.range j)).toArray.isEmpty) = true := by
    refine oE (⟨j - 1, by lia⟩ : ∃ i, j = i + 1) fun i q49023z1 => ?_; obtain rfl := q49023z1
    simp
  rw [hne]
  walk_at "got"
  have Ne8 : News h₀ L' h' ents := fun p hp => N8 p (.tail _ (.tail _ (.tail _ (.tail _ (.tail _ hp)))))
  have hD0 : gOf h₀ ents Dl = none := gOf_none zD.2.2 fun p hp => (ap p (.tail _ (.tail _ (.tail _ hp)))).1
  refine wpAny_with_toks (n := tk') (by (try dsimp only); lia) ?_
  refine heapify_ok (l := List.range j) (f := f) (lt := rlt false kb) X' T' F9.keep zD.2.2 hA ?_ ?_ zD.1 (gOf_sub F9 Ne8) hD0 (by rw [List.length_range]; lia) (fun a ha b hb => hE.cmp (gOf_base _ _ hsS) ha hb) ?_
  · show A.units + 3 + 400 < cLine; first | exact room3 hu (by decide) | lia
  · show A.depth + 1 + 2 < recursionLimit; first | exact room3 hroom (by decide) | lia
  intro h10 tk10 K10 e10 b10
  have F10 := frKeep1 F9 K10 zD.2
  have swoR : SWO (fun i j => rlt false kb j i) := slt_swo (dirLt_swo swo) hr
  have tot : Tot (fun i j => rlt false kb j i) := fun a b hab h => (hr b a).mpr (slt_total (dirLt_swo swo) hab fun q => by rw [(hr a b).mpr q] at h; cases h)
  have hbest := Best.start swoR j
  have e10' : h10.get? Dl = some (listOf ((heapDown (fun a b => (fun i j => rlt false kb j i) b a) ((List.range j).length / 2) (List.range j)).map f).toArray nn) := e10
  clear e10
  generalize hl0 : heapDown (fun a b => (fun i j => rlt false kb j i) b a) ((List.range j).length / 2) (List.range j) = l at e10' hbest
  have hpl : l.Perm (List.range j) := by simpa using hbest.perm
  have N10 := newsCons (newsKeep (newsTail N8) K10 (fun p hp => by
    rcases List.mem_cons.mp hp with rfl | hp
    · simpa using hDJ.symm
    · simpa using (ap p hp).1)) e10' zD.2.1 zD.2.2
  clear F9 N8 hl0
  have hll : l.length = j := by rw [hpl.length_eq, List.length_range]
  have hEl := hE.sub fun i hi => hpl.mem_iff.mp hi
  refine oEE (by
    cases l with
    | nil => simp at hll; lia
    | cons t r => exact ⟨t, r, rfl⟩ : ∃ t r, l = t :: r) fun t r q50830z2 => ?_; obtain rfl := q50830z2
  walk_at "got"
  refine sub_at (x := f t) (j := 0) (N10 _ (.head _)).1 rfl (by simp) (by simp at hll ⊢; lia) ?_
  refine oEEEEAAEEA (hEl.ent t (.head _)) fun ea en ekv et ev eg kt ktn ekt gkt => ?_
  subst ekt
  rw [ev]
  walk_at "got"
  refine kba_turn (value' := PySem.Expr.Name (PySem.Str.ofString "a") ⟨0, 0, 0, 0⟩) (fun _ => rfl) ?_
  have Ne10 : News h₀ L' h10 ents := fun p hp => N10 p (.tail _ (.tail _ (.tail _ (.tail _ (.tail _ hp)))))
  have eg10 := gOf_sub F10 Ne10 _ _ eg
  clear Ne10
  refine item_tupleL (l := .ref kt :: .int (os t) et :: rest t) (j := 0) ⟨_, eg10, rfl, _, rfl⟩ (by decide) (by decide) (by simp [seqIndex?]; lia) rfl ?_
  walk_at "got"
  rename Fr _ _ _ _ => F11
  rename News _ _ _ _ => N11
  refine cutC (NsLI4 s h₀ L' Lp La Dl ra kb d j oc op oa sp sa) ?_ ?_
  · intro Pz mkP
    refine for_myC (NsLI5 s h₀ L' Lp La RA J Dl ra kb d j oc op oa sp sa) ?_ ?_
    · walk_at "got"
      rename Fr _ _ _ _ => F12
      rename News _ _ _ _ => N12
      have zJ12 := N12 _ (.tail _ (.head _))
      refine it_iter zJ12.1 hIt ?_
      refine ⟨ra.length - j, fun _ zz => zz (t :: r) ([]) j nn oI f ks os rest ents _ _ _ (-wish) _ t ea kt en ktn et F12 N12 rfl rfl rfl rfl ap hbest hll hIt (by lia) (hEl.grow (fun _ _ e => e) (by have h1 : tk' ≤ tk10 := b10; (try dsimp only); lia)) (fun i hi => hrest i (hbest.lt i hi)) (fun i hi => ?_) (by lia) rfl ev eg gkt⟩
      have h1 := hbest.lt i hi
      rw [hos i h1]; lia
    · intro c l out jj nh oI f ks os rest ents h' tk' m od ot t ea kt en ktn et F12 N12 q1 q2 q3 q4 ap hB hlj hIt hjc hE hrest hod hob ht0 ev eg gkt
      intro Bz mkB
      have zD := N12 _ (.head _)
      have zJ := N12 _ (.tail _ (.head _))
      have Nr : News h₀ L' h' ((L' + 1, oc) :: (Lp, { op with slots := sp }) :: (La, { oa with slots := sa }) :: ents) := fun p hp => N12 p (.tail _ (.tail _ hp))
      have hl := PySem.IsL.isList (n := n) (F12.keep _ _ (st' _ _ hRA))
      have hDJ' : Dl ≠ J := hDJ
      rcases Nat.eq_zero_or_pos c with rfl | hc
      · have hjl : jj = ra.length := by lia
        subst hjl
        refine it_end hA zJ.1 hIt hl (by simp) fun h13 K13 => ?_
        have F13 := frKeep1 F12 K13 zJ.2
        have N13 := newsCons (newsKeep Nr K13 (fun p hp => by first | exact nin1 ((ap p hp).2) | exact nin2 ((ap p hp).2) | exact allc ((ap p hp).2) alln | simpa using (ap p hp).2)) (K13 _ _ (by first | exact nin1 (hDJ) | exact nin2 (hDJ) | exact allc (hDJ) alln | simpa using hDJ) zD.1) zD.2.1 zD.2.2
        exact mkP _ _ (fun _ zz => zz l out nh f ks os rest ents h13 tk' m F13 N13 q1 (fun p hp => (ap p hp).1) hB hlj hE hrest)
      have hjr : jj < ra.length := by lia
      have hLi : IsLi oI RA jj := by
        rcases hIt with h | ⟨h, _⟩
        · exact h
        · lia
      refine wpAny_pyNext_list_item (x := .ref ra[jj]) ⟨oI, zJ.1, hLi⟩ hl (by simp [hjr]) fun h13 hI13 hx => ?_
      refine oEA hI13 fun oI13 eI13 cI13 => ?_; (try clear hI13)
      have K13 := Keep.ofSame hx
      have F13 := frKeep1 F12 K13 zJ.2
      have N13 := newsCons (newsCons (newsKeep Nr K13 (fun p hp => by first | exact nin1 ((ap p hp).2) | exact nin2 ((ap p hp).2) | exact allc ((ap p hp).2) alln | simpa using (ap p hp).2)) eI13 zJ.2.1 zJ.2.2) (K13 _ _ (by first | exact nin1 (hDJ) | exact nin2 (hDJ) | exact allc (hDJ) alln | simpa using hDJ) zD.1) zD.2.1 zD.2.2
      have F14 := frKnown F13 [("result", .ref Dl), ("top", .ref kt), ("order", .int od ot), ("_heapreplace", .ref 35)] (by first | exact allc q1 (allc q2 (allc q3 (allc q4 alln))) | simp [q1, q2, q3, q4])
      clear F12 N12 F13
      dsimp only
      refine letGo_name (wpAny_assign_Name ?_)
      walk_at "got"
      rename Fr _ _ _ _ => F15
      rename News _ _ _ _ => N15
      refine oA (id hK) fun q54787z0 hKc => ?_; obtain ⟨oK, fdK, eK, dK⟩ := q54787z0
      refine wpAny_with_toks (n := tk') (by (try dsimp only); lia) ?_
      refine callW dK ?_
      walk_at "got"
      · exact F15.keep _ _ (st' _ _ eK)
      refine hKc _ _ _ _ jj ra[jj] (List.getElem?_eq_getElem hjr) ?_ hA ?_ ?_ ?_
      · exact fun b o e => F15.keep b o (st' b o e)
      · show A.units + 3 + 500 < cLine; first | exact room3 hu (by decide) | lia
      · show A.depth + 1 + 4 < recursionLimit; first | exact room3 hroom (by decide) | lia
      intro h16 tk16 kc k kn K16 hkc ek b1 b2 b3 b4 b5 b6
      have F16 := frKeep0 F15 K16
      have N16 := newsFresh F15 hkc ek (newsKeep0 N15 K16)
      have fkc := fresh_base F15 hkc
      have hkcn : ∀ p ∈ (Dl, listOf (l.map f).toArray nh) :: (J, oI13) :: (L' + 1, oc) :: (Lp, { op with slots := sp }) :: (La, { oa with slots := sa }) :: ents, p.1 ≠ kc := fun p hp q => by
        have e := (N15 p hp).1
        rw [q] at e
        exact absurd (e.symm.trans hkc) (by simp)
      clear F15 N15
      (try clear F14)
      (try clear N13)
      dsimp only
      walk_at "got"
      rename Fr _ _ _ _ => F17
      rename News _ _ _ _ => N17
      have Ne17 : News h₀ L' _ ents := fun p hp => N17 p (.tail _ (.tail _ (.tail _ (.tail _ (.tail _ (.tail _ hp))))))
      have htl : t ∈ l := List.mem_of_getElem? ht0
      have htj := hB.lt t htl
      refine oAAAA (hE.ok t htl) fun o1 o2 o3 o4 o5 => ?_
      have hsep : ∀ p ∈ k, ∀ q ∈ ks t, p.2 ≠ q.2 := fun p hp q hq e => by
        have h1 : tk' ≤ p.2 := Nat.le_trans (Nat.le_succ _) (b4 p hp).1
        have h2 := o3 q hq
        rw [e] at h1
        exact absurd h2 (Nat.not_lt.mpr h1)
      have hRc : (fun i j => rlt false kb j i) jj t = true ↔ lt t jj = true := (hr jj t).trans ⟨fun h => by
        rcases h with h | ⟨_, h⟩
        · exact h
        · lia, fun h => .inl h⟩
      refine cmp_lt2 (c := lt t jj) (ltKey (fun _ _ e => e) (F17.keep _ _ hsS) ⟨kt, ktn, rfl, gOf_sub F17 Ne17 _ _ gkt⟩ ⟨kc, kn, rfl, (N17 _ (.head _)).1⟩ o1 b2 (fun p hp q hq e => absurd e.symm (hsep q hq p hp)) (by rw [b3, o5]) (by show A.units + 3 + 10 < cLine; first | exact room3 hu (by decide) | lia)) (by rw [b1, o2, hlt]) ?_
      clear Ne17
      cases hcb : lt t jj with
      | true =>
        walk_at "got"
        rename Fr _ _ _ _ => F18
        rename News _ _ _ _ => N18
        rename kc < _ ∧ _ => lD
        have zt := N18 _ (.head _)
        have zk := N18 _ (.tail _ (.head _))
        have zD18 := N18 _ (.tail _ (.tail _ (.head _)))
        have hlj2 : ∀ i ∈ l, i < jj := hB.lt
        have hjl : jj ∉ l := fun q => Nat.lt_irrefl _ (hlj2 jj q)
        have hE18 := hE.entry (kc := kc) (t := ot) (nn := 0) (kn := kn) (o := od) (r := [.ref ra[jj]]) (x := jj) (k := k) (tk' := tk16) (fun p hp => hkcn p (.tail _ (.tail _ (.tail _ (.tail _ (.tail _ hp)))))) (allLt_ne lD.2.2.2.2.2.2) (Nat.ne_of_lt lD.1) fkc.2 zt.2.2 hlj2 b2 b1
          (fun p hp => ⟨Nat.le_trans (Nat.le_succ _) (b4 p hp).1, (b4 p hp).2⟩) b6 rfl b3 (fun i hi => by simp only [if_true, Bool.false_eq_true, if_false]; exact hod i hi)
        have apE := ap_cons2 (R := fun x => x ≠ Dl ∧ x ≠ J) (ap_cons2 (R := fun x => x ≠ Dl ∧ x ≠ J) (fun p hp => ap p (.tail _ (.tail _ (.tail _ hp)))) (o := listOf (kvals k).toArray kn) ⟨(hkcn _ (.head _)).symm, (hkcn _ (.tail _ (.head _))).symm⟩) (o := { cls := .type "tuple", data := .seq (Value.ref kc :: .int od ot :: [.ref ra[jj]]).toArray 0 }) ⟨Nat.ne_of_gt lD.2.1, Nat.ne_of_gt lD.2.2.1⟩
        have apF := ap_cons2 (R := fun x => x ≠ Dl ∧ x ≠ J) (ap_cons2 (R := fun x => x ≠ Dl ∧ x ≠ J) (ap_cons2 (R := fun x => x ≠ Dl ∧ x ≠ J) apE (o := { oa with slots := sa }) (ap _ (.tail _ (.tail _ (.head _))))) (o := { op with slots := sp }) (ap _ (.tail _ (.head _)))) (o := oc) (ap _ (.head _))
        have Nent : News h₀ L' _ ((_, { cls := .type "tuple", data := .seq (Value.ref kc :: .int od ot :: [.ref ra[jj]]).toArray 0 }) :: (kc, listOf (kvals k).toArray kn) :: ents) := newsCons (newsCons (fun p hp => N18 p (.tail _ (.tail _ (.tail _ (.tail _ (.tail _ (.tail _ (.tail _ hp)))))))) zk.1 zk.2.1 zk.2.2) zt.1 zt.2.1 zt.2.2
        have Nrest := newsCons (newsCons (newsCons Nent (N18 _ (.tail _ (.tail _ (.tail _ (.tail _ (.tail _ (.tail _ (.head _)))))))).1 (N18 _ (.tail _ (.tail _ (.tail _ (.tail _ (.tail _ (.tail _ (.head _)))))))).2.1 (N18 _ (.tail _ (.tail _ (.tail _ (.tail _ (.tail _ (.tail _ (.head _)))))))).2.2) (N18 _ (.tail _ (.tail _ (.tail _ (.tail _ (.tail _ (.head _))))))).1 (N18 _ (.tail _ (.tail _ (.tail _ (.tail _ (.tail _ (.head _))))))).2.1 (N18 _ (.tail _ (.tail _ (.tail _ (.tail _ (.tail _ (.head _))))))).2.2) (N18 _ (.tail _ (.tail _ (.tail _ (.tail _ (.head _)))))).1 (N18 _ (.tail _ (.tail _ (.tail _ (.tail _ (.head _)))))).2.1 (N18 _ (.tail _ (.tail _ (.tail _ (.tail _ (.head _)))))).2.2
        have zJ18 := N18 _ (.tail _ (.tail _ (.tail _ (.head _))))
        have hl0 : 0 < l.length := List.length_pos_of_mem htl
        refine wpAny_with_toks (n := tk16) (by (try dsimp only); lia) ?_
        refine heapreplace_v (f := upd f jj (.ref _)) (x := jj) (l := l) (lt := rlt false kb) (upd_same f jj _) hl0 X' T' F18.keep zD18.2.2 hA ?_ ?_ (Ents.upd_list hjl _ zD18.1) (gOf_sub F18 Nent) (gOf_none zD18.2.2 fun p hp => (apE p hp).1) (by lia) (fun a ha b hb => hE18.cmp (gOf_base _ _ hsS) ha hb) ?_
        · show A.units + 3 + 400 < cLine; first | exact room3 hu (by decide) | lia
        · show A.depth + 1 + 2 < recursionLimit; first | exact room3 hroom (by decide) | lia
        intro h19 tk19 K19 e19 b19
        have hB' := hB.take swoR tot ht0 (hRc.mpr hcb)
        have e19' : h19.get? Dl = some (listOf ((siftupP (fun a b => (fun i j => rlt false kb j i) b a) (l.set 0 jj) 0).map (upd f jj (.ref _))).toArray nh) := e19
        have hlen' : (siftupP (fun a b => (fun i j => rlt false kb j i) b a) (l.set 0 jj) 0).length = j := by rw [siftupP_length, List.length_set, hlj]
        have hmem : ∀ i ∈ siftupP (fun a b => (fun i j => rlt false kb j i) b a) (l.set 0 jj) 0, i ∈ jj :: l := fun i hi => by
          have h1 := (siftupP_perm (lt := fun a b => (fun i j => rlt false kb j i) b a) (l.set 0 jj) 0).mem_iff.mp hi
          rcases List.mem_or_eq_of_mem_set h1 with h2 | h2
          · exact .tail _ h2
          · rw [h2]; exact .head _
        clear e19
        generalize siftupP (fun a b => (fun i j => rlt false kb j i) b a) (l.set 0 jj) 0 = l' at *
        have hE19 := (hE18.sub hmem).grow (fun _ _ e => e) b19
        have F19 := frKeep1 F18 K19 zD18.2
        have Nent19 := newsKeep Nent K19 (fun p hp => by first | exact nin1 ((apE p hp).1) | exact nin2 ((apE p hp).1) | exact allc ((apE p hp).1) alln | simpa using (apE p hp).1)
        have N19 := newsCons (newsCons (newsKeep Nrest K19 (fun p hp => by first | exact nin1 ((apF p hp).1) | exact nin2 ((apF p hp).1) | exact allc ((apF p hp).1) alln | simpa using (apF p hp).1)) (K19 _ _ (by first | exact nin1 (hDJ'.symm) | exact nin2 (hDJ'.symm) | exact allc (hDJ'.symm) alln | simpa using hDJ'.symm) zJ18.1) zJ18.2.1 zJ18.2.2) e19' zD18.2.1 zD18.2.2
        clear F18 N18 Nent Nrest
        refine oEE (by
          cases l' with
          | nil => simp at hlen'; lia
          | cons t r => exact ⟨t, r, rfl⟩ : ∃ t r, l' = t :: r) fun t2 r2 q61960z2 => ?_; obtain rfl := q61960z2
        refine oEEEEAAEEA (hE19.ent t2 (.head _)) fun ea2 en2 ekv2 et2 ev2 eg2 kt2 ktn2 ekt2 gkt2 => ?_
        subst ekt2
        have hr19 : ∀ i ∈ t2 :: r2, upd rest jj [.ref ra[jj]] i = [.ref (ra.getD i 0)] := fun i hi => by
          rcases List.mem_cons.mp (hmem i hi) with q | q
          · rw [q, upd_same]; simp [hjr]
          · rw [upd_ne _ _ (Nat.ne_of_lt (hlj2 i q))]; exact hrest i q
        have eg2' := gOf_sub F19 Nent19 _ _ eg2
        clear Nent19
        walk_at "got"
        refine sub_at (j := 0) (N19 _ (.head _)).1 rfl rfl (by simp at hlen' ⊢; lia) ?_
        rw [ev2]
        rw [hr19 t2 (.head _)] at eg2'
        dsimp only
        refine isAsgT ?_
        refine unpackN_ F19 N19 (isTup3 eg2') hA rfl rfl fun h20 F20 N20 => ?_
        clear F19 N19
        walk_at "got"
        rename Fr _ _ _ _ => F21
        rename News _ _ _ _ => N21
        refine mkB (c - 1) _ (by lia) (fun _ zz => zz (t2 :: r2) (t :: out) (jj + 1) nh oI13 _ _ _ _ _ _ _ _ _ _ t2 ea2 kt2 en2 ktn2 et2 F21 N21 rfl rfl rfl rfl apF hB' hlen' (.inl cI13) (by lia) (hE19.grow (fun _ _ e => e) (by (try dsimp only); lia)) hr19 (?_) (by lia) rfl ev2 eg2 gkt2)
        intro i hi
        rcases List.mem_cons.mp (hmem i hi) with q | q
        · rw [q, upd_same]; lia
        · have h1 := hod i q
          rw [upd_ne _ _ (Nat.ne_of_lt (hlj2 i q))]; lia
      | false =>
        walk_at "got"
        rename Fr _ _ _ _ => F18
        rename News _ _ _ _ => N18
        have hn : (fun i j => rlt false kb j i) jj t = false := by
          cases q : (fun i j => rlt false kb j i) jj t with
          | false => rfl
          | true => have h1 := hRc.mp q; rw [hcb] at h1; cases h1
        refine mkB (c - 1) _ (by lia) (fun _ zz => zz l (jj :: out) (jj + 1) nh oI13 f ks os rest ents _ _ _ od ot t ea kt en ktn et F18 (newsTail N18) rfl rfl rfl rfl ap (hB.drop swoR tot ht0 hn) hlj (.inl cI13) (by lia) (hE.grow (fun _ _ e => e) ?_) hrest hod (by lia) ht0 ev eg gkt)
        have h1 : tk' ≤ tk16 := b6
        (try dsimp only); lia
  clear hEl hE hrest hos ev eg gkt hbest ap hIt
  intro l out nh f ks os rest ents h' tk' m F12 N12 q1 ap hB hlj hE hrest
  have F13 := frKnown F12 [("result", .ref Dl)] (by first | exact allc q1 alln | simp [q1])
  (try clear F11)
  (try clear N11)
  clear F12
  dsimp only
  walk_at "got"
  have zD := N12 _ (.head _)
  have Ne12 : News h₀ L' h' ents := fun p hp => N12 p (.tail _ (.tail _ (.tail _ (.tail _ hp))))
  have hnd : l.Nodup := (List.nodup_append.mp hB.nodup).2.1
  have hw2 : 2 ≤ l.length := by simp at hll; lia
  refine callWith_builtin_kwB (by rfl) (by rfl) (evalArgs_kw2_nil (by rfl) ?_)
  walk_at "got"
  show wpAny _ _ (call (.builtin "list.sort") [.ref Dl] [(Str.ofString "reverse", .bool true)]) _ _ _
  refine hE.sort_rev (h₁ := h') (gOf_sub F13 Ne12) (gOf_base _ _ hsS) (gOf_none zD.2.2 fun p hp => ap p (.tail _ (.tail _ (.tail _ hp)))) swoR.flip hnd zD.1 hw2 (by lia) (by show A.units + 3 + 30 < cLine; first | exact room3 hu (by decide) | lia) (fun x _ y _ hxy q => tot y x hxy.symm q) ?_
  intro h14 cs l' K14 e14 hp14 hs14
  have F14 := frKeep1 F13 K14 zD.2
  have N14 := newsCons (newsKeep (newsTail N12) K14 (fun p hp => by simpa using ap p hp)) e14 zD.2.1 zD.2.2
  have Ne14 := newsKeep Ne12 K14 (fun p hp => by simpa using ap p (.tail _ (.tail _ (.tail _ hp))))
  have hfirst := hB.first swoR hp14 hs14 hS1 (hS2.imp fun {x y} q => (hr x y).mpr q)
  have hGs := gOf_sub F14 Ne14
  clear F13 N12 Ne12 Ne14
  dsimp only
  walk_at "got"
  rename Fr _ _ _ _ => F15
  rename News _ _ _ _ => N15
  refine comp_list F15 hA goFree_tuple (by with_unfolding_all rfl) (by decide) (by rfl) (by decide) ?_
  walk_at "got"
  refine ⟨Dl, l'.map f, _, fun jx ys tk => ys = (l'.take jx).map fun i => Value.ref (ra.getD i 0), rfl, F15, N15, fun h' F N => PySem.IsL.isList (N _ (.head _)).1, by rw [List.length_map, hp14.length_eq]; lia, rfl, ?_, ?_⟩
  · rintro jx v C D2 I oC oI nn m₂ h16 tk16 ys hjx hyl hP F16 N16 off hoC
    subst hP
    have hjl : jx < l'.length := by
      rcases Nat.lt_or_ge jx l'.length with q | q
      · exact q
      · rw [List.getElem?_eq_none (by first | exact nin1 (q) | exact nin2 (q) | exact allc (q) alln | simpa using q)] at hjx; cases hjx
    have hv : v = f l'[jx] := by
      rw [List.getElem?_map, List.getElem?_eq_getElem hjl] at hjx
      exact (Option.some.inj hjx).symm
    have hil : l'[jx] ∈ l := hp14.mem_iff.mp (List.getElem_mem hjl)
    refine oEEEEAA (hE.ent _ hil) fun ea en ekv et ev eg _ => ?_
    rw [hrest _ hil] at eg
    rw [hv, ev]
    have Ne16 : News h₀ L' h16 ents := fun p hp => N16 p (.tail _ (.tail _ (.tail _ (.tail _ (.tail _ (.tail _ (.tail _ hp)))))))
    have eg16 := gOf_sub F16 Ne16 _ _ eg
    clear Ne16
    refine unpackN_ F16 N16 (isTup3 eg16) hA rfl rfl fun h17 F17 N17 => ?_
    refine wpAny_assignInOrder_more (comp_store rfl rfl F17 N17 off hoC fun h18 o18 F18 N18 c18 => ?_)
    refine wpAny_assignInOrder_more (comp_store rfl rfl F18 N18 off c18 fun h19 o19 F19 N19 c19 => ?_)
    refine wpAny_assignInOrder_more (comp_store rfl rfl F19 N19 off c19 fun h20 o20 F20 N20 c20 => ?_)
    refine wpAny_assignInOrder_none ?_
    refine oEA (⟨_, c20, by rw [if_pos rfl]⟩ : ∃ m8, LCg.NsObj o20 m8 ∧ m8 "elem" = some (.ref (ra.getD l'[jx] 0))) fun m20 c21 y1 => ?_
    clear F16 N16 F17 N17 F18 N18 F19 N19 c18 c19 c20
    dsimp only
    walk_at "got"
    refine ⟨h20, _, o20, m20, rfl, F20, N20, c21, ?_⟩
    rw [List.take_succ_eq_append_getElem hjl, List.map_append]; rfl
  · rintro D2 n2 h16 tk16 ys F16 N16 off hyl hP
    rw [List.length_map, List.take_length] at hP
    subst hP
    have z2 := N16 _ (.head _)
    dsimp only
    walk_at "got"
    refine hq _ _ D2 n2 _ _ (hfin _ F16.keep) (N16 _ (.tail _ (.tail _ (.tail _ (.head _))))).1 (N16 _ (.tail _ (.tail _ (.tail _ (.tail _ (.head _)))))).1 (hnon _ z2.2.2) ?_
    have e : lS.take wish.toNat = l' := by
      rw [← hfirst, hlj, hj, ← hS1.length_eq.trans List.length_range]
      exact (kmk_take_min lS wish.toNat).symm
    rw [e]
    exact z2.1
end
end
-- part PickC
section
open PySem PySem.W PyProof.Rows PySem.Calls
set_option maxRecDepth 100000
set_option maxHeartbeats 4000000
section
variable {w : World} {A : Around} {s : Shared} {h₀ : Heap} {p : Program} {loose : List Str} {mean : ExcName → Option Value} {mg mb : Str → Option Value} {Q E : Value → Shared → Prop} {L La Kf RA : Addr} {m : Str → Option Value} {oa : Obj} {rest : List (Addr × Obj)} {ra : List Addr} {kb : Nat → List UInt64} {d n : Nat} {wish : Int} {tw : Tok} {v : Value} {lt : Nat → Nat → Bool} {lS : List Nat}
noncomputable def SrcC (h₀ : Heap) (L La : Addr) (h : Heap) (RA : Addr) (v : Value) (rest : List (Addr × Obj)) : Prop :=
  v = .ref RA ∨ ∃ I oI, v = .ref I ∧ h.get? I = some oI ∧ I ≠ L ∧ h₀.get? I = none ∧ IsLi oI RA 0 ∧ I ≠ La ∧ ∀ p ∈ rest, p.1 ≠ I
theorem src_hide (F : Fr h₀ L s.heap m) (N : News h₀ L s.heap ((La, oa) :: rest)) (hrest : ∀ p ∈ rest, p.1 ≠ La) (src : SrcC h₀ L La s.heap RA v rest) : ∃ D : List Addr, Src (hideAll s.heap D) s RA v L La D ∧ (∀ x ∈ D, h₀.get? x = none) ∧ (∀ p ∈ rest, p.1 ∉ D) ∧ (∀ b, b ∈ D → b = L ∨ b = La ∨ v = .ref b) := by
  have zL : h₀.get? L = none := Heap.get?_none_of_le F.above
  have zA := N _ (.head _)
  rcases src with rfl | ⟨I, oI, rfl, eI, hIL, hI0, cI, hIA, hIr⟩
  · refine ⟨[L, La], .inl ⟨rfl, rfl⟩, fun x hx => ?_, fun p hp => ?_, fun b hb => ?_⟩
    · simp only [List.mem_cons, List.not_mem_nil, or_false] at hx
      rcases hx with rfl | rfl
      · exact zL
      · exact zA.2.2
    · simp only [List.mem_cons, List.not_mem_nil, or_false, not_or]
      exact ⟨(N p (.tail _ hp)).2.1, hrest p hp⟩
    · simp only [List.mem_cons, List.not_mem_nil, or_false] at hb
      rcases hb with rfl | rfl
      · exact .inl rfl
      · exact .inr (.inl rfl)
  · refine ⟨[I, L, La], .inr ⟨I, oI, rfl, rfl, eI, cI, hideAll_none _ (.head _)⟩, fun x hx => ?_, fun p hp => ?_, fun b hb => ?_⟩
    · simp only [List.mem_cons, List.not_mem_nil, or_false] at hx
      rcases hx with rfl | rfl | rfl
      · exact hI0
      · exact zL
      · exact zA.2.2
    · simp only [List.mem_cons, List.not_mem_nil, or_false, not_or]
      exact ⟨hIr p hp, (N p (.tail _ hp)).2.1, hrest p hp⟩
    · simp only [List.mem_cons, List.not_mem_nil, or_false] at hb
      rcases hb with rfl | rfl | rfl
      · exact .inr (.inr rfl)
      · exact .inl rfl
      · exact .inr (.inl rfl)
theorem ns_call (X : (hd.heap_1 w.params).In h₀) (T : Top p loose mean mg mb h₀) (F : Fr h₀ L s.heap m) (N : News h₀ L s.heap ((La, oa) :: rest)) (hA : A.handled = none) (hu : A.units + 1200 < cLine) (hroom : A.depth + 10 < recursionLimit)
    (hfr : ∃ ep ea, A.frames = some [ep, ea] ∧ ep.frame = some L ∧ ea.frame = some La ∧ ep.scope.kind ≠ .module ∧ ea.scope.kind ≠ .module) (hda : ∀ vs, oa.data ≠ .fields vs) (hrest : ∀ p ∈ rest, p.1 ≠ La) (src : SrcC h₀ L La s.heap RA v rest)
    (hKey : ∀ H1 : Heap, (∀ p ∈ rest, H1.get? p.1 = some p.2) → h₀.StaysIn H1 → KeyOk w H1 Kf ra kb d) (hRA : h₀.get? RA = some (listOf (ra.map Value.ref).toArray n)) (h2 : 2 ≤ ra.length) (h64 : ra.length < 64) (hex : ∀ a ∈ ra, ∃ o, h₀.get? a = some o ∧ o.cls = .type "list")
    (swo : SWO lt) (hlt : ∀ i j, kLt (kb i) (kb j) = lt i j) (hgt : ∀ i j, kGt (kb i) (kb j) = lt j i) (hr : ∀ i j, (rlt true kb) i j = true ↔ slt lt i j)
    (hw0 : -10 ≤ wish) (hw1 : wish ≤ 100) (hS1 : lS.Perm (List.range ra.length)) (hS2 : lS.Pairwise (slt lt))
    (hq : ∀ (h' : Heap) (tk' : Nat) (a : Addr) (nn : Nat) (sa : Array (Option Value)), Fr h₀ L h' m → News h₀ L h' ((a, listOf ((lS.take wish.toNat).map fun i => Value.ref (ra.getD i 0)).toArray nn) :: (La, { oa with slots := sa }) :: rest) → (∀ b o, v ≠ .ref b → b ≠ L → b ≠ La → s.heap.get? b = some o → h'.get? b = some o) →
      Q (.ref a) { s with heap := h', toks := tk' }) :
    wpAny (model PySem.Challenge.rw_mq0320_01.row.prog w) A (call (.ref 90) [.int wish tw, v] [(Str.ofString "key", .ref Kf)]) Q E s := by
  refine oEAAA (src_hide F N hrest src) fun D hsrc hD0 hDr hDv => ?_
  have stK : h₀.StaysIn (hideAll s.heap D) := fun b o e => hideAll_get _ (F.keep b o e) fun q => by rw [hD0 b q] at e; cases e
  have zA := N _ (.head _)
  refine oEEEAA (id F.ns) fun op es ep' hop hdop hr' => ?_
  have hLD : L ∈ D ∧ La ∈ D := by
    rcases hsrc with ⟨_, rfl⟩ | ⟨I, oI, _, rfl, _⟩
    · exact ⟨.head _, .tail _ (.head _)⟩
    · exact ⟨.tail _ (.head _), .tail _ (.tail _ (.head _))⟩
  refine nsmallest_ok (H := hideAll s.heap D) (Lp := L) (La := La) (op := op) (oa := oa) (X.keeps stK) (T.keeps stK) (fun b o e => of_hideAll _ e) hA hu hroom (hKey _ (fun p hp => hideAll_get _ (N p (.tail _ hp)).1 (hDr p hp)) stK) (stK _ _ hRA) h2 h64
    (fun a ha => let ⟨o, e, c⟩ := hex a ha; ⟨o, stK _ _ e, c⟩) swo hlt hgt hr hw0 hw1 ⟨hfr, ⟨hop, (fun vs q => by rw [hdop] at q; cases q), hideAll_none _ hLD.1⟩, ⟨zA.1, hda, hideAll_none _ hLD.2⟩, zA.2.1.symm⟩ hsrc hS1 hS2 ?_
  intro h' tk' a nn sp sa K e1 e2 na ea
  have F' := frFrame F hop e1 K hD0
  refine hq h' tk' a nn sa F' ?_ fun b o b1 b2 b3 e => K b o (fun q => ?_) e
  · intro p hp
    rcases List.mem_cons.mp hp with rfl | hp
    · refine ⟨ea, ?_, ?_⟩
      · rcases na with q | q
        · rintro rfl
          rw [e1] at ea
          have := congrArg (fun o : Option Obj => match o with | some ⟨_, _, .dict _ _, _⟩ => true | _ => false) ea
          simp [hdop] at this
        · rintro rfl
          rw [hop] at q; cases q
      · rcases na with q | q
        · exact hD0 _ q
        · exact (fresh_base F q).2
    rcases List.mem_cons.mp hp with rfl | hp
    · exact ⟨e2, zA.2⟩
    · have z := N p (.tail _ hp)
      exact ⟨K _ _ (hDr p hp) z.1, z.2⟩
  · rcases hDv b q with rfl | rfl | h
    · exact b2 rfl
    · exact b3 rfl
    · exact b1 h
theorem nl_call (X : (hd.heap_1 w.params).In h₀) (T : Top p loose mean mg mb h₀) (F : Fr h₀ L s.heap m) (N : News h₀ L s.heap ((La, oa) :: rest)) (hA : A.handled = none) (hu : A.units + 1200 < cLine) (hroom : A.depth + 10 < recursionLimit)
    (hfr : ∃ ep ea, A.frames = some [ep, ea] ∧ ep.frame = some L ∧ ea.frame = some La ∧ ep.scope.kind ≠ .module ∧ ea.scope.kind ≠ .module) (hda : ∀ vs, oa.data ≠ .fields vs) (hrest : ∀ p ∈ rest, p.1 ≠ La) (src : SrcC h₀ L La s.heap RA v rest)
    (hKey : ∀ H1 : Heap, (∀ p ∈ rest, H1.get? p.1 = some p.2) → h₀.StaysIn H1 → KeyOk w H1 Kf ra kb d) (hRA : h₀.get? RA = some (listOf (ra.map Value.ref).toArray n)) (h2 : 2 ≤ ra.length) (h64 : ra.length < 64) (hex : ∀ a ∈ ra, ∃ o, h₀.get? a = some o ∧ o.cls = .type "list")
    (swo : SWO lt) (hlt : ∀ i j, kLt (kb i) (kb j) = lt i j) (hgt : ∀ i j, kGt (kb i) (kb j) = lt j i) (hr : ∀ i j, (fun i j => rlt false kb j i) i j = true ↔ slt (dirLt true lt) i j)
    (hw0 : -10 ≤ wish) (hw1 : wish ≤ 100) (hS1 : lS.Perm (List.range ra.length)) (hS2 : lS.Pairwise (slt (dirLt true lt)))
    (hq : ∀ (h' : Heap) (tk' : Nat) (a : Addr) (nn : Nat) (sa : Array (Option Value)), Fr h₀ L h' m → News h₀ L h' ((a, listOf ((lS.take wish.toNat).map fun i => Value.ref (ra.getD i 0)).toArray nn) :: (La, { oa with slots := sa }) :: rest) → (∀ b o, v ≠ .ref b → b ≠ L → b ≠ La → s.heap.get? b = some o → h'.get? b = some o) →
      Q (.ref a) { s with heap := h', toks := tk' }) :
    wpAny (model PySem.Challenge.rw_mq0320_01.row.prog w) A (call (.ref 96) [.int wish tw, v] [(Str.ofString "key", .ref Kf)]) Q E s := by
  refine oEAAA (src_hide F N hrest src) fun D hsrc hD0 hDr hDv => ?_
  have stK : h₀.StaysIn (hideAll s.heap D) := fun b o e => hideAll_get _ (F.keep b o e) fun q => by rw [hD0 b q] at e; cases e
  have zA := N _ (.head _)
  refine oEEEAA (id F.ns) fun op es ep' hop hdop hr' => ?_
  have hLD : L ∈ D ∧ La ∈ D := by
    rcases hsrc with ⟨_, rfl⟩ | ⟨I, oI, _, rfl, _⟩
    · exact ⟨.head _, .tail _ (.head _)⟩
    · exact ⟨.tail _ (.head _), .tail _ (.tail _ (.head _))⟩
  refine nlargest_ok (H := hideAll s.heap D) (Lp := L) (La := La) (op := op) (oa := oa) (X.keeps stK) (T.keeps stK) (fun b o e => of_hideAll _ e) hA hu hroom (hKey _ (fun p hp => hideAll_get _ (N p (.tail _ hp)).1 (hDr p hp)) stK) (stK _ _ hRA) h2 h64
    (fun a ha => let ⟨o, e, c⟩ := hex a ha; ⟨o, stK _ _ e, c⟩) swo hlt hgt hr hw0 hw1 ⟨hfr, ⟨hop, (fun vs q => by rw [hdop] at q; cases q), hideAll_none _ hLD.1⟩, ⟨zA.1, hda, hideAll_none _ hLD.2⟩, zA.2.1.symm⟩ hsrc hS1 hS2 ?_
  intro h' tk' a nn sp sa K e1 e2 na ea
  have F' := frFrame F hop e1 K hD0
  refine hq h' tk' a nn sa F' ?_ fun b o b1 b2 b3 e => K b o (fun q => ?_) e
  · intro p hp
    rcases List.mem_cons.mp hp with rfl | hp
    · refine ⟨ea, ?_, ?_⟩
      · rcases na with q | q
        · rintro rfl
          rw [e1] at ea
          have := congrArg (fun o : Option Obj => match o with | some ⟨_, _, .dict _ _, _⟩ => true | _ => false) ea
          simp [hdop] at this
        · rintro rfl
          rw [hop] at q; cases q
      · rcases na with q | q
        · exact hD0 _ q
        · exact (fresh_base F q).2
    rcases List.mem_cons.mp hp with rfl | hp
    · exact ⟨e2, zA.2⟩
    · have z := N p (.tail _ hp)
      exact ⟨K _ _ (hDr p hp) z.1, z.2⟩
  · rcases hDv b q with rfl | rfl | h
    · exact b2 rfl
    · exact b3 rfl
    · exact b1 h
end
end
-- part Pick
section
open PySem PySem.W PyProof.Rows PySem.Calls PySem.Flt
set_option maxRecDepth 100000
set_option maxHeartbeats 4000000
theorem fillPick : True := by
  w_top off
  trivial
section
variable {w : World} {A : Around} {s : Shared} {H : Heap} {G : PM} {p : Program} {loose : List Str} {mean : ExcName → Option Value} {mg mb : Str → Option Value} {Q E : Value → Shared → Prop}
noncomputable def lamQ : Str := (Str.ofString "_law_pick" ++ ".<locals>.") ++ "<lambda>"
noncomputable def TabOk (h : Heap) (ps : Array Value) : Prop := ps = #[] ∨ ∃ c' oc vs t, ps = #[rawInt 243, rawInt 10, .ref c'] ∧ h.get? c' = some oc ∧ oc.data = .fields vs ∧ vs[1]? = some (.str lamQ t)
theorem newsRot1 {h₀ h : Heap} {L : Addr} {a : Addr × Obj} {r : List (Addr × Obj)} (N : News h₀ L h (a :: r)) : News h₀ L h (r ++ [a]) := fun p hp => N p (by
  rcases List.mem_append.mp hp with q | q
  · exact .tail _ q
  · rw [List.mem_singleton.mp q]; exact .head _)
theorem newsRot2 {h₀ h : Heap} {L : Addr} {a b : Addr × Obj} {r : List (Addr × Obj)} (N : News h₀ L h (a :: b :: r)) : News h₀ L h (r ++ [a, b]) := by
  have h1 : News h₀ L h ((r ++ [a]) ++ [b]) := newsRot1 (newsRot1 N)
  rwa [List.append_assoc] at h1
theorem max_few {prog : Program} {w : World} {A : Around} {E : Value → Shared → Prop} {s : Shared} {a : Int} {t u : Tok} {Q : Value → Shared → Prop} (hh : A.handled = none)
    (h : ∀ h' tk few ft, (∀ c o, s.heap.get? c = some o → h'.get? c = some o) → 0 ≤ few → few.toNat = a.toNat → Q (.int few ft) { s with heap := h', toks := tk }) :
    wpAny (model prog w) A (call (.builtin "max") [.int a t, .int 0 u]) Q E s :=
  max_two_ints hh fun h' tk hk => by
    split
    · exact h h' tk 0 _ hk (by lia) (by lia)
    · exact h h' tk a _ hk (by lia) rfl
theorem allc_ins {α : Type} {P : α → Prop} {x1 x2 x3 x4 x5 x6 y1 y2 y3 y4 : α} {ext ents : List α} (h : ∀ p ∈ x1 :: x2 :: x3 :: x4 :: x5 :: x6 :: (ext ++ ents), P p) (h1 : P y1) (h2 : P y2) (h3 : P y3) (h4 : P y4) : ∀ p ∈ x1 :: x2 :: x3 :: x4 :: x5 :: x6 :: (ext ++ (y1 :: y2 :: y3 :: y4 :: ents)), P p :=
  allc (h _ (.head _)) (allc (h _ (.tail _ (.head _))) (allc (h _ (.tail _ (.tail _ (.head _)))) (allc (h _ (.tail _ (.tail _ (.tail _ (.head _))))) (allc (h _ (.tail _ (.tail _ (.tail _ (.tail _ (.head _)))))) (allc (h _ (.tail _ (.tail _ (.tail _ (.tail _ (.tail _ (.head _))))))) fun p hp =>
    have k : ∀ q, q ∈ ext ++ ents → P q := fun q hq => h q (.tail _ (.tail _ (.tail _ (.tail _ (.tail _ (.tail _ hq))))))
    (List.mem_append.mp hp).elim (fun hp => k p (List.mem_append_left _ hp)) fun hp => allc h1 (allc h2 (allc h3 (allc h4 fun q hq => k q (List.mem_append_right _ hq)))) p hp)))))
noncomputable def PickI1 (w : World) (s : Shared) (h₀ : Heap) (L' : Addr) (La : Addr) (oa : Obj) (o1 : Obj) (o2 : Obj) (o3 : Obj) (o4 : Obj) (wish : Int) (tw : Tok) (ra : List Addr) (top : Nat) (R : Nat → Nat × Nat × Nat) (pk : List Nat) (ZZ : Flow → Shared → Prop) : Prop := ∀ (Kf : Addr), ∀ (oKf : Obj), ∀ (fd : FuncData), ∀ (ext : List (Addr × Obj)), ∀ (h' : Heap), ∀ (tk' : Nat), ∀ (m : Str → Option Value), ∀ (ps' : Array Value), (Fr h₀ L' h' m) → (News h₀ L' h' ((L' + 4, o4) :: (L' + 3, o3) :: (L' + 2, o2) :: (L' + 1, o1) :: (La, oa) :: (150, tabObj ps') :: (Kf, oKf) :: ext)) → (m "key" = some (.ref Kf)) → (m "wish" = some (.int wish tw)) → (oKf.data = .func fd) → ((∀ p ∈ (Kf, oKf) :: ext, L' + 4 < p.1)) → ((∀ h'' : Heap, (∀ p ∈ ext, h''.get? p.1 = some p.2) → h₀.StaysIn h'' → TabOk h'' ps')) → ((∀ H1 : Heap, (∀ p ∈ (Kf, oKf) :: ext, H1.get? p.1 = some p.2) → H1.get? (L' + 2) = some o2 → H1.get? (L' + 3) = some o3 → h₀.StaysIn H1 → KeyOk w H1 Kf ra (kbOf top R pk) pk.length)) → ZZ (.next) ({ s with heap := h', toks := tk' })
noncomputable def PickI2 (s : Shared) (h₀ : Heap) (L' : Addr) (La : Addr) (Kf : Addr) (oa : Obj) (o1 : Obj) (o2 : Obj) (o3 : Obj) (oKf : Obj) (ext : List (Addr × Obj)) (ps' : Array Value) (wish : Int) (tw : Tok) (ra : List Addr) (top : Nat) (R : Nat → Nat × Nat × Nat) (pk : List Nat) (ZZ : Flow → Shared → Prop) : Prop := ∀ (Dt : Addr), ∀ (nn : Nat), ∀ (rs : List Value), ∀ (o4 : Obj), ∀ (pv : Option Value), ∀ (ents : List (Addr × Obj)), ∀ (h' : Heap), ∀ (tk' : Nat), ∀ (m : Str → Option Value), (Fr h₀ L' h' m) → (News h₀ L' h' ((L' + 4, o4) :: (Dt, listOf rs.toArray nn) :: (L' + 3, o3) :: (L' + 2, o2) :: (L' + 1, o1) :: (La, oa) :: (150, tabObj ps') :: (Kf, oKf) :: (ext ++ ents))) → (m "key" = some (.ref Kf)) → (m "wish" = some (.int wish tw)) → (m "told" = some (.ref Dt)) → (o4.data = .cell pv) → ((∀ p ∈ (Dt, listOf rs.toArray nn) :: (L' + 3, o3) :: (L' + 2, o2) :: (L' + 1, o1) :: (La, oa) :: (150, tabObj ps') :: (Kf, oKf) :: (ext ++ ents), p.1 ≠ L' + 4)) → ((∀ p ∈ (L' + 3, o3) :: (L' + 2, o2) :: (L' + 1, o1) :: (La, oa) :: (150, tabObj ps') :: (Kf, oKf) :: (ext ++ ents), p.1 ≠ Dt)) → (rs.length = ra.length) → ((∀ i, i < ra.length → ∃ c : Addr, rs[i]? = some (.ref c) ∧ (∀ G : PM, (∀ p ∈ ents, G p.1 = some p.2) → FracsAt G c (pk.map (frc top R i))))) → ZZ (.next) ({ s with heap := h', toks := tk' })
noncomputable def PickI3 (s : Shared) (h₀ : Heap) (L' : Addr) (La : Addr) (Kf : Addr) (RA : Addr) (oa : Obj) (o1 : Obj) (o2 : Obj) (o3 : Obj) (oKf : Obj) (ext : List (Addr × Obj)) (ps' : Array Value) (wish : Int) (tw : Tok) (ra : List Addr) (top : Nat) (R : Nat → Nat × Nat × Nat) (pk : List Nat) (c : Nat) (ZZ : Value → Shared → Prop) : Prop := ∀ (I Dt : Addr), ∀ (j nn : Nat), ∀ (rs : List Value), ∀ (o4 oI : Obj), ∀ (pv : Option Value), ∀ (ents : List (Addr × Obj)), ∀ (h' : Heap), ∀ (tk' : Nat), ∀ (m : Str → Option Value), (Fr h₀ L' h' m) → (News h₀ L' h' ((L' + 4, o4) :: (Dt, listOf rs.toArray nn) :: (I, oI) :: (L' + 3, o3) :: (L' + 2, o2) :: (L' + 1, o1) :: (La, oa) :: (150, tabObj ps') :: (Kf, oKf) :: (ext ++ ents))) → (IsLi oI RA j) → (j + c = ra.length) → (m "key" = some (.ref Kf)) → (m "wish" = some (.int wish tw)) → (m "told" = some (.ref Dt)) → (o4.data = .cell pv) → ((∀ p ∈ (Dt, listOf rs.toArray nn) :: (I, oI) :: (L' + 3, o3) :: (L' + 2, o2) :: (L' + 1, o1) :: (La, oa) :: (150, tabObj ps') :: (Kf, oKf) :: (ext ++ ents), p.1 ≠ L' + 4)) → (Dt ≠ I) → ((∀ p ∈ (L' + 3, o3) :: (L' + 2, o2) :: (L' + 1, o1) :: (La, oa) :: (150, tabObj ps') :: (Kf, oKf) :: (ext ++ ents), p.1 ≠ Dt ∧ p.1 ≠ I)) → (rs.length = j) → ((∀ i, i < j → ∃ c : Addr, rs[i]? = some (.ref c) ∧ (∀ G : PM, (∀ p ∈ ents, G p.1 = some p.2) → FracsAt G c (pk.map (frc top R i))))) → ZZ (.ref I) ({ s with heap := h', toks := tk' })
noncomputable def PickI4 (s : Shared) (h₀ : Heap) (L' : Addr) (La : Addr) (Kf : Addr) (RA : Addr) (Dt : Addr) (D1 : Addr) (D2 : Addr) (oa : Obj) (o1 : Obj) (o2 : Obj) (o3 : Obj) (o4 : Obj) (oKf : Obj) (ext : List (Addr × Obj)) (ents : List (Addr × Obj)) (ps' : Array Value) (wish : Int) (tw : Tok) (few : Int) (ft : Tok) (m0 : Str → Option Value) (n1 : Nat) (n2 : Nat) (nn : Nat) (v1s : List Value) (v2s : List Value) (rs : List Value) (ZZ : Value → Shared → Prop) : Prop := ∀ (T I : Addr), ∀ (oI : Obj), ∀ (v1 v2 : Value), ∀ (h' : Heap), ∀ (tk' : Nat), (Fr h₀ L' h' (known [("key", .ref Kf), ("wish", .int wish tw), ("rising", .ref D1), ("falling", .ref D2), ("few", .int few ft)] m0)) → (News h₀ L' h' ((T, prObj v1 v2) :: (I, oI) :: (D2, listOf v2s.toArray n2) :: (D1, listOf v1s.toArray n1) :: (L' + 4, o4) :: (Dt, listOf rs.toArray nn) :: (L' + 3, o3) :: (L' + 2, o2) :: (L' + 1, o1) :: (La, oa) :: (150, tabObj ps') :: (Kf, oKf) :: (ext ++ ents))) → (IsLi oI RA 0) → (((v1 = .ref RA ∧ v2 = .ref I) ∨ (v1 = .ref I ∧ v2 = .ref RA))) → ((∀ p ∈ (D2, listOf v2s.toArray n2) :: (D1, listOf v1s.toArray n1) :: (L' + 4, o4) :: (Dt, listOf rs.toArray nn) :: (L' + 3, o3) :: (L' + 2, o2) :: (L' + 1, o1) :: (La, oa) :: (150, tabObj ps') :: (Kf, oKf) :: (ext ++ ents), p.1 ≠ I)) → ZZ (.ref T) ({ s with heap := h', toks := tk' })
theorem pick_ok {RA P La : Addr} {oa : Obj} {ra : List Addr} {top v n np : Nat} {R : Nat → Nat × Nat × Nat} {pk : List Nat} {pvs : List Value} {wish : Int} {tt tw : Tok} {ps : Array Value}
    (X₀ : (hd.heap_1 w.params).In H) (T : Top p loose mean mg mb H) (st : H.StaysIn s.heap) (hA : A.handled = none) (hu : A.units + 1800 < cLine) (hroom : A.depth + 14 < recursionLimit)
    (hC : CodeHd H 152 150) (hRA : s.heap.get? RA = some (listOf (ra.map Value.ref).toArray n)) (h2 : 2 ≤ ra.length) (h64 : ra.length < 64)
    (hrows : ∀ i, i < ra.length → ∃ t1 t2 t3 t4 nn, s.heap.get? (ra.getD i 0) = some (rowObj (R i).1 (R i).2.1 (R i).2.2 i t1 t2 t3 t4 nn)) (hRin : RowsIn top R) (htv : top * (2 * v) = 2 ^ 14) (ht8 : top ≤ 256)
    (hP : s.heap.get? P = some (listOf pvs.toArray np)) (hpi : IntsOf pvs pk) (hp3 : ∀ j ∈ pk, j < 3) (hpl : pk.length < 2 ^ 20)
    (hw0 : -10 ≤ wish) (hw1 : wish ≤ 100) (ea : Env) (hfr : A.frames = some [ea]) (hfa : ea.frame = some La) (hka : ea.scope.kind ≠ .module) (ga : s.heap.get? La = some oa) (hda : ∃ es ep, oa.data = .dict es ep) (hLa0 : H.get? La = none)
    (g150 : s.heap.get? 150 = some (tabObj ps)) (h150 : H.get? 150 = none) (hps : TabOk s.heap ps) (hLa : La ≠ 150)
    (hq : ∀ (h' : Heap) (tk' : Nat) (sa : Array (Option Value)) (ps' : Array Value), Keep [La, 150] s.heap h' → h'.get? La = some { oa with slots := sa } → h'.get? 150 = some (tabObj ps') → TabOk h' ps' → Q (.bool true) { s with heap := h', toks := tk' }) :
    wpAny (model PySem.Challenge.rw_mq0320_01.row.prog w) A (call (.ref 153) [.ref RA, .int top tt, .ref P, .int wish tw]) Q E s := by
  refine oEE hda fun esa epa hda => ?_
  have nda : ∀ vs, oa.data ≠ .fields vs := fun vs q => by rw [hda] at q; cases q
  have hD : ∀ d ∈ [La, 150], H.get? d = none := allc hLa0 (allc h150 alln)
  refine wpAny_call ?_
  refine' callFC (binds := [("rows", .ref RA), ("top", .int top tt), ("pick", .ref P), ("wish", .int wish tw)]) [La, 150] ?k6 ?k7 (X₀.keeps st) (T.nolimit.keeps st) (by first | exact room1 hroom | lia) ?k9 ?kB ?kD ?_ ?c2 ?c3 ?c4
  case k6 => k_is
  case k7 => k_is
  case k9 => exact BindsTo.of_eq rfl
  case kB => exact rfl
  case kD => decide +kernel
  case c2 => exact rfl
  case c3 => exact rfl
  case c4 => exact rfl
  intro L' h₁ tk₁ cells F N Y hk₁ hL htk₁
  have st' : H.StaysIn (hideAll s.heap [La, 150]) := stays_hide st hD
  have X' := X₀.keeps st'
  have T' := T.keeps st'
  have C' := hC.keeps st'
  have za := hide_news (D := [La, 150]) (by simp) ga hk₁ hL
  have zt := hide_news (D := [La, 150]) (by simp) g150 hk₁ hL
  have hfin : ∀ h', (hideAll s.heap [La, 150]).StaysIn h' → Keep [La, 150] s.heap h' := fun h' q => keep_hide q
  have hsS : Stat (hideAll s.heap [La, 150]).get? := stat_K X'
  have nLa : ∀ b o, s.heap.get? b = some o → (∃ vs n, o.data = .seq vs n) → b ∉ [La, 150] := fun b o e hd => by
    refine oEE hd fun vs n hd => ?_
    simp only [List.mem_cons, List.not_mem_nil, or_false, not_or]
    refine ⟨?_, ?_⟩
    · rintro rfl
      rw [ga] at e; cases e
      rw [hda] at hd; cases hd
    · rintro rfl
      rw [g150] at e; cases e
      cases hd
  have hRA0 : (hideAll s.heap [La, 150]).get? RA = some (listOf (ra.map Value.ref).toArray n) := hideAll_get _ hRA (nLa _ _ hRA ⟨_, _, rfl⟩)
  have hP0 : (hideAll s.heap [La, 150]).get? P = some (listOf pvs.toArray np) := hideAll_get _ hP (nLa _ _ hP ⟨_, _, rfl⟩)
  have hrows0 : ∀ i, i < ra.length → ∃ t1 t2 t3 t4 nn, (hideAll s.heap [La, 150]).get? (ra.getD i 0) = some (rowObj (R i).1 (R i).2.1 (R i).2.2 i t1 t2 t3 t4 nn) := fun i hi => by
    refine oEEEEE (hrows i hi) fun t1 t2 t3 t4 nn e => ?_
    exact ⟨t1, t2, t3, t4, nn, hideAll_get _ e (nLa _ _ e ⟨_, _, rfl⟩)⟩
  have hps0 : TabOk (hideAll s.heap [La, 150]) ps := by
    rcases hps with rfl | ⟨c', oc, vs, t, rfl, gc, dc, vc⟩
    · exact .inl rfl
    · refine .inr ⟨c', oc, vs, t, rfl, hideAll_get _ gc ?_, dc, vc⟩
      simp only [List.mem_cons, List.not_mem_nil, or_false, not_or]
      refine ⟨?_, ?_⟩
      · rintro rfl
        rw [ga] at gc; cases gc; exact nda _ dc
      · rintro rfl
        rw [g150] at gc; cases gc; cases dc
        simp [rawInt] at vc
  have F0 : Fr (hideAll s.heap [La, 150]) L' h₁ _ := F
  have N0 : News (hideAll s.heap [La, 150]) L' h₁ cells := N
  generalize hideAll s.heap [La, 150] = h₀ at *
  clear F N
  k_cells Y
  refine oEEEEAAAA (⟨_, _, _, _, by assumption, by assumption, by assumption, by assumption, N0⟩ : ∃ o1 o2 o3 o4 : Obj, o1.data = .cell (some (.ref RA)) ∧ o2.data = .cell (some (.int top tt)) ∧ o3.data = .cell (some (.ref P)) ∧ o4.data = .cell none ∧ News h₀ L' h₁ [(L' + 4, o4), (L' + 3, o3), (L' + 2, o2), (L' + 1, o1)]) fun o1 o2 o3 o4 d1 d2 d3 d4 N1 => ?_
  have F1 := frKnown F0 [("wish", .int wish tw)] (fun p hp => by rw [List.mem_singleton.mp hp]; exact rfl)
  have N2 := newsCons (newsCons News.nil zt.1 zt.2.1 zt.2.2) za.1 za.2.1 za.2.2
  have N3 : News h₀ L' h₁ [(L' + 4, o4), (L' + 3, o3), (L' + 2, o2), (L' + 1, o1), (La, oa), (150, tabObj ps)] := allc (N1 _ (.head _)) (allc (N1 _ (.tail _ (.head _))) (allc (N1 _ (.tail _ (.tail _ (.head _)))) (allc (N1 _ (.tail _ (.tail _ (.tail _ (.head _))))) (allc (N2 _ (.head _)) (allc (N2 _ (.tail _ (.head _))) alln)))))
  have hLs : La < L' := by rw [hL]; exact Heap.lt_size ga
  have h1s : 150 < L' := by rw [hL]; exact Heap.lt_size g150
  clear N1 N2 N0 F0
  have ht0 : 0 < top := by
    rcases Nat.eq_zero_or_pos top with e | e
    · rw [e] at htv; simp at htv
    · exact e
  refine wpAny_execs_cons ?_
  have hab := F1.above
  refine cutC (PickI1 w s h₀ L' La oa o1 o2 o3 o4 wish tw ra top R pk) ?_ ?_
  · intro Pz mkP
    rcases hps0 with rfl | ⟨c', oc, vs, t, rfl, gc, dc, vc⟩
    · walk_at "got"
      refine kla_eval rfl ?_
      have n4 : L' + 4 ≠ 150 := Nat.ne_of_gt (Nat.lt_of_lt_of_le h1s (Nat.le_add_right _ _))
      have n3 : L' + 3 ≠ 150 := Nat.ne_of_gt (Nat.lt_of_lt_of_le h1s (Nat.le_add_right _ _))
      have n2 : L' + 2 ≠ 150 := Nat.ne_of_gt (Nat.lt_of_lt_of_le h1s (Nat.le_add_right _ _))
      have n1 : L' + 1 ≠ 150 := Nat.ne_of_gt (Nat.lt_of_lt_of_le h1s (Nat.le_add_right _ _))
      have U : UpdF 150 (tabObj #[]) [(L' + 4, o4), (L' + 3, o3), (L' + 2, o2), (L' + 1, o1), (La, oa), (150, tabObj #[])] (fun o => [(L' + 4, o4), (L' + 3, o3), (L' + 2, o2), (L' + 1, o1), (La, oa), (150, o)]) := .tail n4 (.tail n3 (.tail n2 (.tail n1 (.tail hLa (.head fun p hp => nomatch hp)))))
      refine kla_nest F1 N3 T' C' rfl U trivial rfl rfl ?_
      intro Kf c' oc vs t ctv h4 tk4 F4 N4 dc vc l1 l2
      clear F1 N3
      dsimp only at N4
      walk_at "got"
      rename Fr _ _ _ _ => F4
      rename News _ _ _ _ => N4
      have N6 := newsRot2 N4
      simp only [List.cons_append, List.nil_append] at N6
      refine mkP _ _ (fun _ zz => zz Kf _ _ ([(c', oc)]) _ _ _ _ F4 N6 rfl rfl rfl (?_) (?_) (?_))
      · have q4 := l1 _ (.head _)
        exact allc (Nat.lt_trans q4 l2) (allc (q4) alln)
      · intro h'' g _
        exact .inr ⟨c', oc, vs, t, rfl, g _ (.head _), dc, vc⟩
      · intro H1 g1 g2 g3 gst
        have X1 := X'.keeps gst
        have T1 := T'.keeps gst
        refine ⟨⟨_, _, g1 _ (.head _), rfl⟩, fun A2 s2 Q2 E2 i a hi st2 hA2 hu2 hd2 hq2 => ?_⟩
        refine wpAny_call ?_
        refine kla_callFunE (by lia) (st2 _ _ (g1 _ (.head _))) rfl rfl rfl rfl ⟨c', oc, vs, t, rfl, st2 _ _ (g1 _ (.tail _ (.head _))), dc, vc⟩ ?_
        refine wpAny_of_eq (a := [(Str.ofString "row", Value.ref a)]) rfl ?_
        refine wpAny_newFunctionEnv (by dsimp only; decide) (fun y hy => by rw [List.mem_singleton.mp hy]; exact rfl) (fun h5 hns hsb => ⟨(T1.nolimit.keeps st2).fresh _ hsb, ?_⟩) rfl
        refine kla_codeExpr ?_
        have hk5 : ∀ b o, s2.heap.get? b = some o → h5.get? b = some o := fun b o e => hsb.extBut b o (Nat.ne_of_lt (Heap.lt_size e)) (Heap.get?_push_of_some _ e)
        clear F4 N4 N6
        have F5 : Fr (hideAll s2.heap [L' + 2, L' + 3]) s2.heap.objs.size h5 _ := ⟨hns, fun b o e => hk5 b o (of_hideAll _ e), Nat.le_of_eq (hideAll_size _ _)⟩
        have y2 := hide_news (D := [L' + 2, L' + 3]) (.head _) (st2 _ _ g2) hk5 rfl
        have y3 := hide_news (D := [L' + 2, L' + 3]) (.tail _ (.head _)) (st2 _ _ g3) hk5 rfl
        have N5 : News (hideAll s2.heap [L' + 2, L' + 3]) s2.heap.objs.size h5 [(L' + 2, o2), (L' + 3, o3)] := newsCons (newsCons (fun p hp => nomatch hp) y3.1 y3.2.1 y3.2.2) y2.1 y2.2.1 y2.2.2
        have st5 : h₀.StaysIn (hideAll s2.heap [L' + 2, L' + 3]) := fun b o e => hideAll_get _ (st2 _ _ (gst _ _ e)) (fun q => by
          have h1 : b < L' := Nat.lt_of_lt_of_le (Heap.lt_size e) hab
          simp only [List.mem_cons, List.not_mem_nil, or_false] at q
          rcases q with rfl | rfl
          · exact absurd h1 (Nat.not_lt.mpr (Nat.le_add_right _ _))
          · exact absurd h1 (Nat.not_lt.mpr (Nat.le_add_right _ _)))
        have X5 := X'.keeps st5
        have T5 := T'.keeps st5
        generalize hideAll s2.heap [L' + 2, L' + 3] = h6 at *
        have hil : i < ra.length := by
          rcases Nat.lt_or_ge i ra.length with q | q
          · exact q
          · rw [List.getElem?_eq_none q] at hi; cases hi
        have hia : ra.getD i 0 = a := by simp [hi]
        refine oEEEEE (hrows0 i hil) fun u1 u2 u3 u4 nr er => ?_
        rw [hia] at er
        clear X' T' X1 T1 X₀ T
        walk_at "got"
        rename Fr _ _ _ _ => F6
        refine key_ok (H := h6) X5 T5 F6.keep hA2 (by show A2.units + 3 + 300 < cLine; lia) (by show A2.depth + 1 + 2 < recursionLimit; lia) (F6.keep _ _ (st5 _ _ er)) (F6.keep _ _ (st5 _ _ hP0)) hpi hp3 hpl htv (hRin i).1 (hRin i).2.1 (hRin i).2.2 ?_
        intro h7 tk7 c k kn K7 hc7 e7 b7 t7 l7
        have hkb : bits k = kbOf top R pk i := b7
        refine hq2 h7 tk7 c k kn (fun b o _ e => K7 b o (by simp) (hk5 b o e)) ?_ e7 hkb (fun p hp => ⟨fun q => ?_, ?_⟩) ?_ (fun p hp => ⟨?_, (t7 p hp).2⟩) ?_
        · cases q : s2.heap.get? c with
          | none => rfl
          | some o => exact absurd ((hk5 _ _ q).symm.trans hc7) (by simp)
        · have := (t7 p hp).1
          rw [q] at this
          exact absurd this (Nat.not_lt_zero _)
        · have h1 : p.1 ∈ bits k := List.mem_map_of_mem hp
          rw [hkb] at h1
          refine oEA (List.mem_map.mp h1) fun j hj ej => ?_
          rw [← ej]
          exact (prt_fn ht0 ht8 hRin i j).feq
        · have := congrArg List.length hkb
          simpa [kbOf] using this
        · exact Nat.le_trans (Nat.le_add_right _ _) (Nat.le_of_lt (t7 p hp).1)
        · exact Nat.le_trans (Nat.le_add_right _ _) l7
    · walk_at "got"
      rename Fr _ _ _ _ => F4
      rename News _ _ _ _ => N4
      rename L' + 4 < _ ∧ _ => lK
      have N6 := newsRot1 N4
      simp only [List.cons_append, List.nil_append] at N6
      refine mkP _ _ (fun _ zz => zz _ _ _ ([]) _ _ _ _ F4 N6 rfl rfl rfl (?_) (?_) (?_))
      · intro p hp
        rw [List.mem_singleton.mp hp]
        exact lK.1
      · intro h'' _ g
        exact .inr ⟨c', oc, vs, t, rfl, g _ _ gc, dc, vc⟩
      · intro H1 g1 g2 g3 gst
        have X1 := X'.keeps gst
        have T1 := T'.keeps gst
        refine ⟨⟨_, _, g1 _ (.head _), rfl⟩, fun A2 s2 Q2 E2 i a hi st2 hA2 hu2 hd2 hq2 => ?_⟩
        refine wpAny_call ?_
        refine kla_callFunE (by lia) (st2 _ _ (g1 _ (.head _))) rfl rfl rfl rfl ⟨c', oc, vs, t, rfl, st2 _ _ (gst _ _ gc), dc, vc⟩ ?_
        refine wpAny_of_eq (a := [(Str.ofString "row", Value.ref a)]) rfl ?_
        refine wpAny_newFunctionEnv (by dsimp only; decide) (fun y hy => by rw [List.mem_singleton.mp hy]; exact rfl) (fun h5 hns hsb => ⟨(T1.nolimit.keeps st2).fresh _ hsb, ?_⟩) rfl
        refine kla_codeExpr ?_
        have hk5 : ∀ b o, s2.heap.get? b = some o → h5.get? b = some o := fun b o e => hsb.extBut b o (Nat.ne_of_lt (Heap.lt_size e)) (Heap.get?_push_of_some _ e)
        clear F4 N4 N6
        have F5 : Fr (hideAll s2.heap [L' + 2, L' + 3]) s2.heap.objs.size h5 _ := ⟨hns, fun b o e => hk5 b o (of_hideAll _ e), Nat.le_of_eq (hideAll_size _ _)⟩
        have y2 := hide_news (D := [L' + 2, L' + 3]) (.head _) (st2 _ _ g2) hk5 rfl
        have y3 := hide_news (D := [L' + 2, L' + 3]) (.tail _ (.head _)) (st2 _ _ g3) hk5 rfl
        have N5 : News (hideAll s2.heap [L' + 2, L' + 3]) s2.heap.objs.size h5 [(L' + 2, o2), (L' + 3, o3)] := newsCons (newsCons (fun p hp => nomatch hp) y3.1 y3.2.1 y3.2.2) y2.1 y2.2.1 y2.2.2
        have st5 : h₀.StaysIn (hideAll s2.heap [L' + 2, L' + 3]) := fun b o e => hideAll_get _ (st2 _ _ (gst _ _ e)) (fun q => by
          have h1 : b < L' := Nat.lt_of_lt_of_le (Heap.lt_size e) hab
          simp only [List.mem_cons, List.not_mem_nil, or_false] at q
          rcases q with rfl | rfl
          · exact absurd h1 (Nat.not_lt.mpr (Nat.le_add_right _ _))
          · exact absurd h1 (Nat.not_lt.mpr (Nat.le_add_right _ _)))
        have X5 := X'.keeps st5
        have T5 := T'.keeps st5
        generalize hideAll s2.heap [L' + 2, L' + 3] = h6 at *
        have hil : i < ra.length := by
          rcases Nat.lt_or_ge i ra.length with q | q
          · exact q
          · rw [List.getElem?_eq_none q] at hi; cases hi
        have hia : ra.getD i 0 = a := by simp [hi]
        refine oEEEEE (hrows0 i hil) fun u1 u2 u3 u4 nr er => ?_
        rw [hia] at er
        clear X' T' X1 T1 X₀ T
        walk_at "got"
        rename Fr _ _ _ _ => F6
        refine key_ok (H := h6) X5 T5 F6.keep hA2 (by show A2.units + 3 + 300 < cLine; lia) (by show A2.depth + 1 + 2 < recursionLimit; lia) (F6.keep _ _ (st5 _ _ er)) (F6.keep _ _ (st5 _ _ hP0)) hpi hp3 hpl htv (hRin i).1 (hRin i).2.1 (hRin i).2.2 ?_
        intro h7 tk7 c k kn K7 hc7 e7 b7 t7 l7
        have hkb : bits k = kbOf top R pk i := b7
        refine hq2 h7 tk7 c k kn (fun b o _ e => K7 b o (by simp) (hk5 b o e)) ?_ e7 hkb (fun p hp => ⟨fun q => ?_, ?_⟩) ?_ (fun p hp => ⟨?_, (t7 p hp).2⟩) ?_
        · cases q : s2.heap.get? c with
          | none => rfl
          | some o => exact absurd ((hk5 _ _ q).symm.trans hc7) (by simp)
        · have := (t7 p hp).1
          rw [q] at this
          exact absurd this (Nat.not_lt_zero _)
        · have h1 : p.1 ∈ bits k := List.mem_map_of_mem hp
          rw [hkb] at h1
          refine oEA (List.mem_map.mp h1) fun j hj ej => ?_
          rw [← ej]
          exact (prt_fn ht0 ht8 hRin i j).feq
        · have := congrArg List.length hkb
          simpa [kbOf] using this
        · exact Nat.le_trans (Nat.le_add_right _ _) (Nat.le_of_lt (t7 p hp).1)
        · exact Nat.le_trans (Nat.le_add_right _ _) l7
  intro Kf oKf fd ext h2' tk2 m ps' F4 N4 lk lw dK hext hTab hKey
  clear F1 N3
  have F5 := frKnown F4 [("key", .ref Kf), ("wish", .int wish tw)] (by first | exact allc lk (allc lw alln) | simp [lk, lw])
  clear F4
  have hlow4 : ∀ p ∈ (L' + 3, o3) :: (L' + 2, o2) :: (L' + 1, o1) :: (La, oa) :: (150, tabObj ps') :: (Kf, oKf) :: ext, p.1 ≠ L' + 4 := by
    exact allc (Nat.ne_of_lt (Nat.add_lt_add_left (by decide) _)) (allc (Nat.ne_of_lt (Nat.add_lt_add_left (by decide) _)) (allc (Nat.ne_of_lt (Nat.add_lt_add_left (by decide) _)) (allc (Nat.ne_of_lt (Nat.lt_of_lt_of_le hLs (Nat.le_add_right _ _))) (allc (Nat.ne_of_lt (Nat.lt_of_lt_of_le h1s (Nat.le_add_right _ _))) (fun p hp => Nat.ne_of_gt (hext p hp))))))
  dsimp only
  walk_at "got"
  rename Fr _ _ _ _ => F6
  rename News _ _ _ _ => N6
  refine cutC (PickI2 s h₀ L' La Kf oa o1 o2 o3 oKf ext ps' wish tw ra top R pk) ?_ ?_
  · intro Pz mkP
    refine for_myC (PickI3 s h₀ L' La Kf RA oa o1 o2 o3 oKf ext ps' wish tw ra top R pk) ?_ ?_
    · walk_at "got"
      refine wpAny_pyIter_list (PySem.IsL.isList (n := n) (F6.keep _ _ hRA0)) ?_
      have z6 := N6 _ (.head _)
      have fI := fresh_base F6 (Heap.get?_none_of_le (Nat.le_refl _))
      have Ng := N6.grown fun b o e => Heap.get?_push_of_some { cls := .type "list_iterator", data := .fields #[.ref RA, .int 0 0] } e
      rename L' + 4 < _ ∧ _ => lT
      have hall : ∀ p ∈ (L' + 4, o4) :: (L' + 3, o3) :: (L' + 2, o2) :: (L' + 1, o1) :: (La, oa) :: (150, tabObj ps') :: (Kf, oKf) :: ext, p.1 ≠ _ := fun p hp => Nat.ne_of_lt (Heap.lt_size (N6 p (.tail _ hp)).1)
      have hTl := allLt_ne (l := (L' + 4, o4) :: (L' + 3, o3) :: (L' + 2, o2) :: (L' + 1, o1) :: (La, oa) :: (150, tabObj ps') :: (Kf, oKf) :: ext) ⟨lT.1, lT.2.1, lT.2.2.1, lT.2.2.2.1, lT.2.2.2.2.1, lT.2.2.2.2.2.1, lT.2.2.2.2.2.2.1, lT.2.2.2.2.2.2.2⟩
      refine ⟨ra.length, fun _ zz => zz _ _ 0 0 ([]) o4 ({ cls := .type "list_iterator", data := .fields #[.ref RA, .int 0 0] }) none ([]) _ _ _ (F6.push _) (?_) ⟨rfl, rfl⟩ (by lia) rfl rfl rfl d4 (?_) (?_) (?_) rfl (fun i hi => absurd hi (Nat.not_lt_zero _))⟩
      · rw [List.append_nil]
        exact allc (Ng _ (.tail _ (.head _))) (allc (Ng _ (.head _)) (allc (⟨Heap.get?_push_size _ rfl, fI.1, fI.2⟩) (fun p hp => Ng _ (.tail _ (.tail _ hp)))))
      · rw [List.append_nil]
        exact allc ((hTl _ (.head _)).symm) (allc ((hall _ (.head _)).symm) (fun p hp => hlow4 p hp))
      · exact Nat.ne_of_lt (Heap.lt_size z6.1)
      · rw [List.append_nil]
        intro p hp
        exact ⟨hTl p (.tail _ hp), hall p (.tail _ hp)⟩
    · intro c I Dt j nn rs o4 oI pv ents h' tk' m F7 N7 cI hj lk lw lt d4 ap4 hDI ap hrl hfr
      intro Bz mkB
      have z4 := N7 _ (.head _)
      have zD := N7 _ (.tail _ (.head _))
      have zI := N7 _ (.tail _ (.tail _ (.head _)))
      have Nl : News h₀ L' h' ((L' + 3, o3) :: (L' + 2, o2) :: (L' + 1, o1) :: (La, oa) :: (150, tabObj ps') :: (Kf, oKf) :: (ext ++ ents)) := fun p hp => N7 p (.tail _ (.tail _ (.tail _ hp)))
      have hl := PySem.IsL.isList (n := n) (F7.keep _ _ hRA0)
      rcases Nat.eq_zero_or_pos c with rfl | hc
      · refine wpAny_pyNext_list_end hA ⟨oI, zI.1, cI⟩ hl (by simp; lia) fun h8 hx => ?_
        have K8 := Keep.ofExt hx
        have F8 := frKeep1 F7 K8 zI.2
        have N8 := newsCons (newsCons (newsKeep Nl K8 (fun p hp => by first | exact nin1 ((ap p hp).2) | exact nin2 ((ap p hp).2) | exact allc ((ap p hp).2) alln | simpa using (ap p hp).2)) (K8 _ _ (by first | exact nin1 (hDI) | exact nin2 (hDI) | exact allc (hDI) alln | simpa using hDI) zD.1) zD.2.1 zD.2.2) (K8 _ _ (by simpa using (ap4 _ (.tail _ (.head _))).symm) z4.1) z4.2.1 z4.2.2
        have hjl : j = ra.length := by omega
        subst hjl
        exact mkP _ _ (fun _ zz => zz Dt nn rs o4 pv ents h8 tk' m F8 N8 lk lw lt d4 (allc (ap4 _ (.head _)) (fun p hp => ap4 p (.tail _ (.tail _ hp)))) (fun p hp => (ap p hp).1) hrl hfr)
      have hjr : j < ra.length := by lia
      refine oEEEEE (hrows0 j hjr) fun w1 w2 w3 w4 nr er => ?_
      have eja : ra.getD j 0 = ra[j] := by simp [hjr]
      rw [eja] at er
      refine wpAny_pyNext_list_item (x := .ref ra[j]) ⟨oI, zI.1, cI⟩ hl (by simp [hjr]) fun h8 hI8 hx => ?_
      refine oEA hI8 fun oI8 eI8 cI8 => ?_; (try clear hI8)
      have K8 := Keep.ofSame hx
      have F8 := frKeep1 F7 K8 zI.2
      have N8 := newsCons (newsCons (newsCons (newsKeep Nl K8 (fun p hp => by first | exact nin1 ((ap p hp).2) | exact nin2 ((ap p hp).2) | exact allc ((ap p hp).2) alln | simpa using (ap p hp).2)) eI8 zI.2.1 zI.2.2) (K8 _ _ (by first | exact nin1 (hDI) | exact nin2 (hDI) | exact allc (hDI) alln | simpa using hDI) zD.1) zD.2.1 zD.2.2) (K8 _ _ (by simpa using (ap4 _ (.tail _ (.head _))).symm) z4.1) z4.2.1 z4.2.2
      have F9 := frKnown F8 [("key", .ref Kf), ("wish", .int wish tw), ("told", .ref Dt)] (by first | exact allc lk (allc lw (allc lt alln)) | simp [lk, lw, lt])
      clear F6 N6 F7 N7 F8 Nl
      dsimp only
      refine letGo_name (wpAny_assign_Name ?_)
      walk_at "got"
      rename Fr _ _ _ _ => F10
      rename News _ _ _ _ => N10
      refine told_ok (top := top) X' T' F10.keep hA (by show A.units + 3 + 200 < cLine; first | exact room3 hu (by decide) | lia) (by show A.depth + 1 + 2 < recursionLimit; first | exact room3 hroom (by decide) | lia) (F10.keep _ _ er) ?_
      intro h11 tk11 a a1 a2 a3 u1 u2 u3 u4 u5 u6 K11 na ea' e1 e2 e3 n1 n2 n3
      have F11 := frKeep0 F10 K11
      have N11 := newsKeep0 N10 K11
      have fa := fresh_base F10 na
      have f1 := fresh_base F10 n1
      have f2 := fresh_base F10 n2
      have f3 := fresh_base F10 n3
      have hne : ∀ x, h11.get? x ≠ none → True := fun _ _ => trivial
      have old : ∀ p ∈ (L' + 4, o4) :: (Dt, listOf rs.toArray nn) :: (I, oI8) :: (L' + 3, o3) :: (L' + 2, o2) :: (L' + 1, o1) :: (La, oa) :: (150, tabObj ps') :: (Kf, oKf) :: (ext ++ ents), p.1 ≠ a ∧ p.1 ≠ a1 ∧ p.1 ≠ a2 ∧ p.1 ≠ a3 := fun p hp => by
        have e := (N10 p hp).1
        refine ⟨?_, ?_, ?_, ?_⟩ <;> intro q <;> rw [q] at e
        · exact absurd (e.symm.trans na) (by simp)
        · exact absurd (e.symm.trans n1) (by simp)
        · exact absurd (e.symm.trans n2) (by simp)
        · exact absurd (e.symm.trans n3) (by simp)
      have N12 : News h₀ L' h11 ((L' + 4, o4) :: (Dt, listOf rs.toArray nn) :: (I, oI8) :: (a, listOf [.ref a1, .ref a2, .ref a3].toArray 0) :: (a1, pairObj (toldH (R j).1 (R j).2.1 (R j).2.2) u1 u2) :: (a2, pairObj (toldL top (R j).1 (R j).2.1 (R j).2.2) u3 u4) :: (a3, pairObj (toldS top (R j).1 (R j).2.1 (R j).2.2) u5 u6) :: (L' + 3, o3) :: (L' + 2, o2) :: (L' + 1, o1) :: (La, oa) :: (150, tabObj ps') :: (Kf, oKf) :: (ext ++ ents)) := by
        exact allc (N11 _ (.head _)) (allc (N11 _ (.tail _ (.head _))) (allc (N11 _ (.tail _ (.tail _ (.head _)))) (allc (⟨ea', fa.1, fa.2⟩) (allc (⟨e1, f1.1, f1.2⟩) (allc (⟨e2, f2.1, f2.2⟩) (allc (⟨e3, f3.1, f3.2⟩) (fun p hp => N11 _ (.tail _ (.tail _ (.tail _ hp))))))))))
      clear F10 N10 N11
      (try clear F9)
      (try clear N8)
      dsimp only
      refine storeX_C (c := L' + 4) F11 N12 rfl (.head (allc (ap4 _ (.head _)) (allc (show I ≠ L' + 4 from ap4 (I, oI) (.tail _ (.head _))) (allc (old _ (.head _)).1.symm (allc (old _ (.head _)).2.1.symm (allc (old _ (.head _)).2.2.1.symm (allc (old _ (.head _)).2.2.2.symm fun p hp => ap4 p (.tail _ (.tail _ hp))))))))) d4 ?_ (by rfl) (by rfl)
      intro h13 o4' F13 N13 d4'
      clear F11 N12
      (try dsimp only at N13)
      walk_at "got"
      rename Fr _ _ _ _ => F14
      rename News _ _ _ _ => N14
      refine comp_list F14 hA goFree_name (by with_unfolding_all rfl) (by decide) (by rfl) (by decide) ?_
      walk_at "got"
      refine ⟨P, pvs, _, fun jx ys tk => ys = (pk.take jx).map fun q => Value.ref (if q = 0 then a1 else if q = 1 then a2 else a3), rfl, F14, N14, fun h' F N => PySem.IsL.isList (F.keep _ _ hP0), by rw [hpi.len]; exact hpl, rfl, ?_, ?_⟩
      · rintro jx v C D2 I2 oC oI2 n2 m₂ h15 tk15 ys hjx hyl hPq F15 N15 off hoC
        subst hPq
        have hjp : jx < pk.length := by
          rw [← hpi.len]
          rcases Nat.lt_or_ge jx pvs.length with q | q
          · exact q
          · rw [List.getElem?_eq_none q] at hjx; cases hjx
        refine oE (hpi.get (List.getElem?_eq_getElem hjp)) fun tq htq => ?_
        rw [hjx] at htq
        cases htq
        have h3 := hp3 _ (List.getElem_mem hjp)
        refine comp_store rfl rfl F15 N15 off hoC fun h16 o16 F16 N16 c16 => ?_
        refine oEA (⟨_, c16, by simp⟩ : ∃ m8, LCg.NsObj o16 m8 ∧ m8 "part" = some (.int (pk[jx] : Nat) tq)) fun m16 c17 y1 => ?_
        clear F15 N15 c16 F14 N14
        dsimp only
        walk_at "got"
        refine sub_at (j := pk[jx]) (x := .ref (if pk[jx] = 0 then a1 else if pk[jx] = 1 then a2 else a3)) (N16 _ (.tail _ (.tail _ (.tail _ (.tail _ (.tail _ (.tail _ (.head _)))))))).1 rfl ?_ (by simp) ?_
        · generalize pk[jx] = i at h3
          have : i = 0 ∨ i = 1 ∨ i = 2 := by lia
          rcases this with rfl | rfl | rfl <;> rfl
        refine ⟨h16, _, o16, m16, rfl, F16, N16, c17, ?_⟩
        rw [List.take_succ_eq_append_getElem hjp, List.map_append]; rfl
      · rintro D2 n2 h15 tk15 ys F15 N15 off hyl hPq
        rw [hpi.len, List.take_length] at hPq
        subst hPq
        dsimp only
        walk_at "got"
        have zD15 := N15 _ (.tail _ (.tail _ (.head _)))
        have hD2 : ∀ p ∈ (L' + 4, o4') :: (Dt, listOf rs.toArray nn) :: (I, oI8) :: (a, listOf [.ref a1, .ref a2, .ref a3].toArray 0) :: (a1, pairObj (toldH (R j).1 (R j).2.1 (R j).2.2) u1 u2) :: (a2, pairObj (toldL top (R j).1 (R j).2.1 (R j).2.2) u3 u4) :: (a3, pairObj (toldS top (R j).1 (R j).2.1 (R j).2.2) u5 u6) :: (L' + 3, o3) :: (L' + 2, o2) :: (L' + 1, o1) :: (La, oa) :: (150, tabObj ps') :: (Kf, oKf) :: (ext ++ ents), p.1 ≠ D2 := off
        have oldD := old _ (.tail _ (.head _))
        have oldI := old _ (.tail _ (.tail _ (.head _)))
        have old4 := old _ (.head _)
        refine append_at zD15.1 (fun h17 hs17 e17 => ?_) (by rw [sizeLine_eq]; simp; lia)
        have K17 := Keep.ofSame hs17
        have F17 := frKeep1 F15 K17 zD15.2
        rw [List.push_toArray] at e17
        have Nl17 : News h₀ L' h17 ((L' + 3, o3) :: (L' + 2, o2) :: (L' + 1, o1) :: (La, oa) :: (150, tabObj ps') :: (Kf, oKf) :: (ext ++ ((D2, lst (pk.map fun q => Value.ref (if q = 0 then a1 else if q = 1 then a2 else a3)) n2) :: (a1, pairObj (toldH (R j).1 (R j).2.1 (R j).2.2) u1 u2) :: (a2, pairObj (toldL top (R j).1 (R j).2.1 (R j).2.2) u3 u4) :: (a3, pairObj (toldS top (R j).1 (R j).2.1 (R j).2.2) u5 u6) :: ents))) := allc_ins (fun p h => have z := N15 p (.tail _ (.tail _ (.tail _ (.tail _ (.tail _ (.tail _ (.tail _ (.tail _ h))))))))
            ⟨K17 _ _ (by first | exact nin1 ((ap p h).1) | exact nin2 ((ap p h).1) | exact allc ((ap p h).1) alln | simpa using (ap p h).1) z.1, z.2⟩)
          (have z := N15 _ (.head _); ⟨K17 _ _ (nin1 (hD2 _ (.tail _ (.head _))).symm) z.1, z.2⟩)
          (have z := N15 _ (.tail _ (.tail _ (.tail _ (.tail _ (.tail _ (.head _)))))); ⟨K17 _ _ (by first | exact nin1 (oldD.2.1.symm) | exact nin2 (oldD.2.1.symm) | exact allc (oldD.2.1.symm) alln | simpa using oldD.2.1.symm) z.1, z.2⟩)
          (have z := N15 _ (.tail _ (.tail _ (.tail _ (.tail _ (.tail _ (.tail _ (.head _))))))); ⟨K17 _ _ (by first | exact nin1 (oldD.2.2.1.symm) | exact nin2 (oldD.2.2.1.symm) | exact allc (oldD.2.2.1.symm) alln | simpa using oldD.2.2.1.symm) z.1, z.2⟩)
          (have z := N15 _ (.tail _ (.tail _ (.tail _ (.tail _ (.tail _ (.tail _ (.tail _ (.head _)))))))); ⟨K17 _ _ (by first | exact nin1 (oldD.2.2.2.symm) | exact nin2 (oldD.2.2.2.symm) | exact allc (oldD.2.2.2.symm) alln | simpa using oldD.2.2.2.symm) z.1, z.2⟩)
        have N17 := newsCons (newsCons (newsCons Nl17 (K17 _ _ (by first | exact nin1 (hDI.symm) | exact nin2 (hDI.symm) | exact allc (hDI.symm) alln | simpa using hDI.symm) (N15 _ (.tail _ (.tail _ (.tail _ (.head _))))).1) (N15 _ (.tail _ (.tail _ (.tail _ (.head _))))).2.1 (N15 _ (.tail _ (.tail _ (.tail _ (.head _))))).2.2) e17 zD15.2.1 zD15.2.2) (K17 _ _ (by simpa using (ap4 _ (.head _)).symm) (N15 _ (.tail _ (.head _))).1) (N15 _ (.tail _ (.head _))).2.1 (N15 _ (.tail _ (.head _))).2.2
        walk_at "got"
        refine mkB (c - 1) _ (by lia) (fun _ zz => zz I Dt (j + 1) (nn + 1) (rs ++ [.ref D2]) o4' oI8 _ _ h17 _ _ F17 N17 cI8 (by lia) rfl rfl rfl d4' (?_) hDI (?_) (by simp [hrl]) (?_))
        · exact allc (show Dt ≠ L' + 4 from ap4 (Dt, listOf rs.toArray nn) (.head _)) (allc (show I ≠ L' + 4 from ap4 (I, oI) (.tail _ (.head _))) (allc_ins (fun p h => ap4 p (.tail _ (.tail _ h))) (hD2 _ (.head _)).symm old4.2.1.symm old4.2.2.1.symm old4.2.2.2.symm))
        · exact allc_ins (fun p h => ap p h) ⟨(hD2 _ (.tail _ (.head _))).symm, (hD2 _ (.tail _ (.tail _ (.head _)))).symm⟩ ⟨oldD.2.1.symm, oldI.2.1.symm⟩ ⟨oldD.2.2.1.symm, oldI.2.2.1.symm⟩ ⟨oldD.2.2.2.symm, oldI.2.2.2.symm⟩
        · intro i hi
          rcases Nat.lt_or_eq_of_le (Nat.lt_succ_iff.mp hi) with q | q
          · refine oEA (hfr i q) fun cc ec fc => ?_
            refine ⟨cc, by rw [List.getElem?_append_left (by lia)]; exact ec, fun G hG => fc G fun p hp => hG p (.tail _ (.tail _ (.tail _ (.tail _ hp))))⟩
          · subst q
            refine ⟨D2, by rw [← hrl]; simp, fun G hG => ⟨_, n2, hG _ (.head _), by simp, fun jx x hx => ?_⟩⟩
            rw [List.getElem?_map] at hx
            refine oEA (Option.map_eq_some_iff.mp hx) fun q hq1 hq2 => ?_
            have hqm := hp3 q (List.mem_of_getElem? hq1)
            rw [List.getElem?_map, hq1]
            have : q = 0 ∨ q = 1 ∨ q = 2 := by lia
            rcases this with rfl | rfl | rfl
            · exact ⟨a1, u1, u2, rfl, by rw [← hq2]; exact hG _ (.tail _ (.head _))⟩
            · exact ⟨a2, u3, u4, rfl, by rw [← hq2]; exact hG _ (.tail _ (.tail _ (.head _)))⟩
            · exact ⟨a3, u5, u6, rfl, by rw [← hq2]; exact hG _ (.tail _ (.tail _ (.tail _ (.head _))))⟩
  intro Dt nn rs o4 pv ents h3 tk3 m3 F7 N7 lk3 lw3 lt3 d4' ap4 ap hrl hfrac
  clear F6 N6 d4
  have F8 := frKnown F7 [("key", .ref Kf), ("wish", .int wish tw), ("told", .ref Dt)] (by first | exact allc lk3 (allc lw3 (allc lt3 alln)) | simp [lk3, lw3, lt3])
  clear F7
  have hTold : ToldsAt h3.get? Dt ((List.range ra.length).map fun i => pk.map (frc top R i)) := by
    refine ⟨rs, nn, (N7 _ (.tail _ (.head _))).1, by simp [hrl], fun j xs hx => ?_⟩
    rw [List.getElem?_map] at hx
    refine oEA (Option.map_eq_some_iff.mp hx) fun i hi1 hi2 => ?_
    have hjl : j < ra.length := by
      rcases Nat.lt_or_ge j ra.length with q | q
      · exact q
      · rw [List.getElem?_eq_none (by first | exact nin1 (q) | exact nin2 (q) | exact allc (q) alln | simpa using q)] at hi1; cases hi1
    have : i = j := by
      rw [List.getElem?_range hjl] at hi1; exact (Option.some.inj hi1).symm
    subst this
    refine oEA (hfrac i hjl) fun c e fc => ?_
    refine ⟨c, e, ?_⟩
    rw [← hi2]
    exact fc _ fun p hp => (N7 p (.tail _ (.tail _ (.tail _ (.tail _ (.tail _ (.tail _ (.tail _ (.tail _ (List.mem_append_right _ hp)))))))))).1
  have hdim : ∀ xs ∈ (List.range ra.length).map fun i => pk.map (frc top R i), xs.length = pk.length ∧ ∀ x ∈ xs, 0 ≤ x.2 ∧ x.2 ≤ 1536 := fun xs hx => by
    refine oEA (List.mem_map.mp hx) fun i _ q41911z2 => ?_; obtain rfl := q41911z2
    refine ⟨by simp, fun x hx => ?_⟩
    refine oEA (List.mem_map.mp hx) fun q _ q42001z2 => ?_; obtain rfl := q42001z2
    have := prt_nr ht0 ht8 hRin i q
    exact ⟨Int.le_of_lt this.2.1, this.2.2⟩
  have hxl : ((List.range ra.length).map fun i => pk.map (frc top R i)).length = ra.length := by simp
  have hord : ∀ f, ordP (befOf ((List.range ra.length).map fun i => pk.map (frc top R i)) f) ((List.range ra.length).map fun i => pk.map (frc top R i)).length = ordP (dirLt f (ltOf top R pk)) ra.length := fun f => by
    rw [hxl]; exact ordP_congr _ fun p q hp hq => bef_eq ht0 ht8 hRin pk _ f hp hq
  have hlowD : ∀ p ∈ (L' + 4, o4) :: (L' + 3, o3) :: (L' + 2, o2) :: (L' + 1, o1) :: (La, oa) :: (150, tabObj ps') :: (Kf, oKf) :: (ext ++ ents), p.1 ≠ Dt := allc ((ap4 _ (.head _)).symm) (fun p hp => ap p hp)
  dsimp only
  walk_at "got"
  rename Fr _ _ _ _ => F9
  refine order_ok X' T' F9.keep hA (by show A.units + 3 + 300 < cLine; first | exact room3 hu (by decide) | lia) (by show A.depth + 1 + 2 < recursionLimit; first | exact room3 hroom (by decide) | lia) hTold hdim (by simp; lia) ?_
  intro h10 tk10 D1 v1s n1 K10 nD1 eD1 hI1
  have hD1 : ∀ p ∈ (L' + 4, o4) :: (Dt, listOf rs.toArray nn) :: (L' + 3, o3) :: (L' + 2, o2) :: (L' + 1, o1) :: (La, oa) :: (150, tabObj ps') :: (Kf, oKf) :: (ext ++ ents), p.1 ≠ D1 := fun p hp q => by
    have e := (N7 p hp).1
    rw [q] at e
    exact absurd (e.symm.trans nD1) (by simp)
  rw [hord] at hI1
  have hTold2 : ToldsAt h10.get? Dt ((List.range ra.length).map fun i => pk.map (frc top R i)) := by
    refine oEEAA hTold fun rs' n' g' l' k' => ?_; (try clear hTold)
    exact ⟨rs', n', K10 _ _ (by simp) g', l', fun j xs hx => let ⟨c, e, fc⟩ := k' j xs hx; ⟨c, e, fc.mono fun b o q => K10 b o (by simp) q⟩⟩
  have F10 := frKeep0 F9 K10
  have N10 := newsFresh F9 nD1 eD1 (newsKeep0 N7 K10)
  clear F9 N7 hTold
  (try clear F8)
  dsimp only
  walk_at "got"
  rename Fr _ _ _ _ => F11
  rename News _ _ _ _ => N11
  refine order_ok X' T' F11.keep hA (by show A.units + 3 + 300 < cLine; first | exact room3 hu (by decide) | lia) (by show A.depth + 1 + 2 < recursionLimit; first | exact room3 hroom (by decide) | lia) hTold2 hdim (by simp; lia) ?_
  intro h12 tk12 D2 v2s n2 K12 nD2 eD2 hI2
  have hD2 : ∀ p ∈ (D1, listOf v1s.toArray n1) :: (L' + 4, o4) :: (Dt, listOf rs.toArray nn) :: (L' + 3, o3) :: (L' + 2, o2) :: (L' + 1, o1) :: (La, oa) :: (150, tabObj ps') :: (Kf, oKf) :: (ext ++ ents), p.1 ≠ D2 := fun p hp q => by
    have e := (N11 p hp).1
    rw [q] at e
    exact absurd (e.symm.trans nD2) (by simp)
  rw [hord] at hI2
  have F12 := frKeep0 F11 K12
  have N12 := newsFresh F11 nD2 eD2 (newsKeep0 N11 K12)
  clear F11 N11 hTold2
  (try clear F10)
  (try clear N10)
  dsimp only
  walk_at "got"
  rename Fr _ _ _ _ => F13
  rename News _ _ _ _ => N13
  refine max_few hA fun h13 tk13 few ft hk13 hf0 hf1 => ?_
  have F14 := frKeep (D := []) F13 (fun b o _ e => hk13 b o e) (by simp) (by simp)
  have N14 := newsKeep (D := []) (newsTail N13) (fun b o _ e => hk13 b o e) (by simp)
  clear F13 N13
  (try clear F12)
  (try clear N12)
  dsimp only
  repeat' (first | walk_at "unp" | ((fail_if_success (with_reducible refine isIfE ?_)); walk_at "go1") | (dsimp only; (fail_if_success (with_reducible refine isIfE ?_)); walk_at "go1"))
  rename Fr _ _ _ _ => F15
  rename News _ _ _ _ => N15
  have F16 := frKnown F15 [("key", .ref Kf), ("wish", .int wish tw), ("rising", .ref D1), ("falling", .ref D2), ("few", .int few ft)] (allc rfl (allc rfl (allc rfl (allc rfl (allc rfl alln)))))
  clear F15
  refine oE (⟨_, F16⟩ : ∃ m0, Fr h₀ L' _ (known [("key", .ref Kf), ("wish", .int wish tw), ("rising", .ref D1), ("falling", .ref D2), ("few", .int few ft)] m0)) fun m0 F17 => ?_
  clear F16
  refine cutC (PickI4 s h₀ L' La Kf RA Dt D1 D2 oa o1 o2 o3 o4 oKf ext ents ps' wish tw few ft m0 n1 n2 nn v1s v2s rs) ?_ ?_
  · intro Pz mkP
    walk_at "got"
    · refine call_iter (wpAny_pyIter_list (PySem.IsL.isList (n := n) (F17.keep _ _ hRA0)) ?_)
      have fI := fresh_base F17 (Heap.get?_none_of_le (Nat.le_refl _))
      have N19 := newsCons (o := { cls := .type "list_iterator", data := .fields #[.ref RA, .int 0 0] }) (N15.grown fun b o e => Heap.get?_push_of_some { cls := .type "list_iterator", data := .fields #[.ref RA, .int 0 0] } e) (Heap.get?_push_size _ rfl) fI.1 fI.2
      have F19 := F17.push { cls := .type "list_iterator", data := .fields #[.ref RA, .int 0 0] }
      have apI : ∀ p ∈ (D2, listOf v2s.toArray n2) :: (D1, listOf v1s.toArray n1) :: (L' + 4, o4) :: (Dt, listOf rs.toArray nn) :: (L' + 3, o3) :: (L' + 2, o2) :: (L' + 1, o1) :: (La, oa) :: (150, tabObj ps') :: (Kf, oKf) :: (ext ++ ents), p.1 ≠ _ := fun p hp => Nat.ne_of_lt (Heap.lt_size (N15 p hp).1)
      clear F17 N15
      walk_at "got"
      rename Fr _ _ _ _ => F20
      rename News _ _ _ _ => N20
      exact mkP _ _ (fun _ zz => zz _ _ _ _ _ _ _ F20 N20 ⟨rfl, rfl⟩ (.inl ⟨rfl, rfl⟩) apI)
    · refine call_iter (wpAny_pyIter_list (PySem.IsL.isList (n := n) (F17.keep _ _ hRA0)) ?_)
      have fI := fresh_base F17 (Heap.get?_none_of_le (Nat.le_refl _))
      have N19 := newsCons (o := { cls := .type "list_iterator", data := .fields #[.ref RA, .int 0 0] }) (N15.grown fun b o e => Heap.get?_push_of_some { cls := .type "list_iterator", data := .fields #[.ref RA, .int 0 0] } e) (Heap.get?_push_size _ rfl) fI.1 fI.2
      have F19 := F17.push { cls := .type "list_iterator", data := .fields #[.ref RA, .int 0 0] }
      have apI : ∀ p ∈ (D2, listOf v2s.toArray n2) :: (D1, listOf v1s.toArray n1) :: (L' + 4, o4) :: (Dt, listOf rs.toArray nn) :: (L' + 3, o3) :: (L' + 2, o2) :: (L' + 1, o1) :: (La, oa) :: (150, tabObj ps') :: (Kf, oKf) :: (ext ++ ents), p.1 ≠ _ := fun p hp => Nat.ne_of_lt (Heap.lt_size (N15 p hp).1)
      clear F17 N15
      walk_at "got"
      rename Fr _ _ _ _ => F20
      rename News _ _ _ _ => N20
      exact mkP _ _ (fun _ zz => zz _ _ _ _ _ _ _ F20 N20 ⟨rfl, rfl⟩ (.inr ⟨rfl, rfl⟩) apI)
  intro T1 I oI v1 v2 h18 tk18 F18 N18 cI hv apI
  clear F17 N15
  have hkb1 := kLt_eq ht0 ht8 hRin pk
  have hkb2 := kGt_eq ht0 ht8 hRin pk
  have hex : ∀ a ∈ ra, ∃ o, h₀.get? a = some o ∧ o.cls = .type "list" := fun a ha => by
    refine oE (List.getElem_of_mem ha) fun i q48298z1 => ?_; obtain ⟨hi, e⟩ := q48298z1
    refine oEEEEE (hrows0 i hi) fun t1 t2 t3 t4 nn er => ?_
    have : ra.getD i 0 = a := by simp [hi, e]
    rw [this] at er
    exact ⟨_, er, rfl⟩
  have hS1a := ordP_perm (ltOf top R pk) ra.length
  have hS1b := ordP_sorted (ltOf_swo (top := top) (R := R) (pk := pk)) ra.length
  have hS2a := ordP_perm (dirLt true (ltOf top R pk)) ra.length
  have hS2b := ordP_sorted (dirLt_swo (b := true) (ltOf_swo (top := top) (R := R) (pk := pk))) ra.length
  dsimp only
  walk_at "got"
  show wpAny _ _ (call (.ref 90) [.int wish tw, v1] [(Str.ofString "key", .ref Kf)]) _ _ _
  rename Fr _ _ _ _ => F19
  rename News _ _ _ _ => N19
  have hlowA : ∀ p ∈ (D2, listOf v2s.toArray n2) :: (D1, listOf v1s.toArray n1) :: (L' + 4, o4) :: (L' + 3, o3) :: (L' + 2, o2) :: (L' + 1, o1) :: (150, tabObj ps') :: (Kf, oKf) :: ext, p.1 ≠ La := by
    have a4 : ∀ k, L' + k ≠ La := fun k => Nat.ne_of_gt (Nat.lt_of_lt_of_le hLs (Nat.le_add_right _ _))
    exact allc ((hD2 _ (.tail _ (.tail _ (.tail _ (.tail _ (.tail _ (.tail _ (.head _)))))))).symm) (allc ((hD1 _ (.tail _ (.tail _ (.tail _ (.tail _ (.tail _ (.head _))))))).symm) (allc (a4 4) (allc (a4 3) (allc (a4 2) (allc (a4 1) (allc (hLa.symm) (fun p hp => Nat.ne_of_gt (Nat.lt_trans (Nat.lt_of_lt_of_le hLs (Nat.le_add_right _ _)) (hext p hp)))))))))
  have hRsub : ∀ p ∈ (D2, listOf v2s.toArray n2) :: (D1, listOf v1s.toArray n1) :: (L' + 4, o4) :: (L' + 3, o3) :: (L' + 2, o2) :: (L' + 1, o1) :: (150, tabObj ps') :: (Kf, oKf) :: ext, p ∈ (D2, listOf v2s.toArray n2) :: (D1, listOf v1s.toArray n1) :: (L' + 4, o4) :: (Dt, listOf rs.toArray nn) :: (L' + 3, o3) :: (L' + 2, o2) :: (L' + 1, o1) :: (La, oa) :: (150, tabObj ps') :: (Kf, oKf) :: (ext ++ ents) := fun p hp => by
    simp only [List.mem_cons, List.mem_append] at hp ⊢
    rcases hp with h | h | h | h | h | h | h | h | h <;> simp [h]
  have hRI : ∀ p ∈ (D2, listOf v2s.toArray n2) :: (D1, listOf v1s.toArray n1) :: (L' + 4, o4) :: (L' + 3, o3) :: (L' + 2, o2) :: (L' + 1, o1) :: (150, tabObj ps') :: (Kf, oKf) :: ext, p.1 ≠ I := fun p hp => apI p (hRsub p hp)
  have hIA : I ≠ La := (apI (La, oa) (by simp)).symm
  have zI := N19 _ (.tail _ (.head _))
  have NA : News h₀ L' _ ((La, oa) :: (D2, listOf v2s.toArray n2) :: (D1, listOf v1s.toArray n1) :: (L' + 4, o4) :: (L' + 3, o3) :: (L' + 2, o2) :: (L' + 1, o1) :: (150, tabObj ps') :: (Kf, oKf) :: ext) := allc (N19 _ (.tail _ (.tail _ (.tail _ (.tail _ (.tail _ (.tail _ (.tail _ (.tail _ (.tail _ (.head _))))))))))) (fun p hp => N19 p (.tail _ (.tail _ (hRsub p hp))))
  have hRAI : RA ≠ I := fun q => by
    have e := zI.2.2
    rw [q] at hRA0
    exact absurd (hRA0.symm.trans e) (by simp)
  have hKey2 : ∀ H1 : Heap, (∀ p ∈ (D2, listOf v2s.toArray n2) :: (D1, listOf v1s.toArray n1) :: (L' + 4, o4) :: (L' + 3, o3) :: (L' + 2, o2) :: (L' + 1, o1) :: (150, tabObj ps') :: (Kf, oKf) :: ext, H1.get? p.1 = some p.2) → h₀.StaysIn H1 → KeyOk w H1 Kf ra (kbOf top R pk) pk.length := fun H1 g st1 => hKey H1 (fun p hp => g p (.tail _ (.tail _ (.tail _ (.tail _ (.tail _ (.tail _ (.tail _ hp)))))))) (g _ (.tail _ (.tail _ (.tail _ (.tail _ (.head _)))))) (g _ (.tail _ (.tail _ (.tail _ (.head _))))) st1
  have src1 : ∀ hx : Heap, hx.get? I = some oI → SrcC h₀ L' La hx RA v1 ((D2, listOf v2s.toArray n2) :: (D1, listOf v1s.toArray n1) :: (L' + 4, o4) :: (L' + 3, o3) :: (L' + 2, o2) :: (L' + 1, o1) :: (150, tabObj ps') :: (Kf, oKf) :: ext) := fun hx e => hv.elim (fun q => .inl q.1) fun q => .inr ⟨I, oI, q.1, e, zI.2.1, zI.2.2, cI, hIA, hRI⟩
  refine' ns_call X' T' F19 NA hA ?nu ?nr ?nf nda hlowA (src1 _ zI.1) hKey2 hRA0 h2 h64 hex (lt := ltOf top R pk) ltOf_swo hkb1 hkb2 (rlt_true ht0 ht8 hRin pk) hw0 hw1 hS1a hS1b ?_
  case nu => show A.units + 3 + 1200 < cLine; first | exact room3 hu (by decide) | lia
  case nr => show A.depth + 1 + 10 < recursionLimit; first | exact room3 hroom (by decide) | lia
  case nf => exact ⟨_, ea, Around.frames_deeper hfr, rfl, hfa, (show ScopeKind.function ≠ ScopeKind.module by decide), hka⟩
  intro h20 tk20 a1 nn1 sa1 F20 N20 hk20
  refine oEEA (by
    rcases hv with ⟨rfl, rfl⟩ | ⟨rfl, rfl⟩
    · exact ⟨I, oI, ⟨hk20 _ _ (fun q => hRAI (by injection q)) zI.2.1 hIA zI.1, zI.2⟩, .inr ⟨rfl, cI, hIA, hRI⟩⟩
    · exact ⟨L' + 1, o1, N20 _ (.tail _ (.tail _ (.tail _ (.tail _ (.tail _ (.tail _ (.tail _ (.head _)))))))), .inl rfl⟩ : ∃ J oJ, (h20.get? J = some oJ ∧ J ≠ L' ∧ h₀.get? J = none) ∧ (v2 = .ref RA ∨ (v2 = .ref J ∧ IsLi oJ RA 0 ∧ J ≠ La ∧ ∀ p ∈ (D2, listOf v2s.toArray n2) :: (D1, listOf v1s.toArray n1) :: (L' + 4, o4) :: (L' + 3, o3) :: (L' + 2, o2) :: (L' + 1, o1) :: (150, tabObj ps') :: (Kf, oKf) :: ext, p.1 ≠ J))) fun J oJ zJ hJ => ?_
  have N21 : News h₀ L' h20 ((a1, listOf (((ordP (ltOf top R pk) ra.length).take wish.toNat).map fun i => Value.ref (ra.getD i 0)).toArray nn1) :: (La, { oa with slots := sa1 }) :: (J, oJ) :: (D2, listOf v2s.toArray n2) :: (D1, listOf v1s.toArray n1) :: (L' + 4, o4) :: (L' + 3, o3) :: (L' + 2, o2) :: (L' + 1, o1) :: (150, tabObj ps') :: (Kf, oKf) :: ext) := allc (N20 _ (.head _)) (allc (N20 _ (.tail _ (.head _))) (allc (zJ) (fun p hp => N20 p (.tail _ (.tail _ hp)))))
  clear F19 N19 NA N20 zI
  dsimp only
  walk_at "got"
  rename Fr _ _ _ _ => F22
  refine comp_list F22 hA goFree_name (by with_unfolding_all rfl) (by decide) (by rfl) (by decide) ?_
  walk_at "got"
  rename Fr _ _ _ _ => F31
  rename News _ _ _ _ => N31
  refine kmk_slice_lit F31 N31 (PySem.IsL.isList (n := n1) (N31 _ (.tail _ (.tail _ (.tail _ (.tail _ (.head _)))))).1) .none (.int few _) (slice_take _ hf0) ?_ (by with_unfolding_all rfl) (fun _ => rfl) (by rw [List.size_toArray, sizeLine_eq, hI1.len, ordP_length]; lia)
  intro Dz3 h32 F32 N32 hDz3
  clear F31 N31
  refine ⟨Dz3, v1s.take few.toNat, _, fun jx ys tk => ys = (((ordP (ltOf top R pk) ra.length).take few.toNat).take jx).map fun i => Value.ref (ra.getD i 0), rfl, F32, N32, fun h' F N => PySem.IsL.isList (N _ (.head _)).1, by rw [List.length_take, hI1.len, ordP_length]; omega, rfl, ?_, ?_⟩
  · rintro jx v C D3 I3 oC oI3 n3 m₂ h24 tk24 ys hjx hyl hPq F24 N24 off hoC
    subst hPq
    have hIt : IntsOf (v1s.take few.toNat) ((ordP (ltOf top R pk) ra.length).take few.toNat) := by
      have := IntsAre.take (k := few.toNat) hI1
      unfold IntsOf
      rw [List.map_take]; exact this
    have hjp : jx < ((ordP (ltOf top R pk) ra.length).take few.toNat).length := by
      rw [← hIt.len]
      rcases Nat.lt_or_ge jx (v1s.take few.toNat).length with q | q
      · exact q
      · rw [List.getElem?_eq_none q] at hjx; cases hjx
    refine oE (hIt.get (List.getElem?_eq_getElem hjp)) fun tq htq => ?_
    rw [hjx] at htq
    cases htq
    have hpl : ((ordP (ltOf top R pk) ra.length).take few.toNat)[jx] < ra.length := List.mem_range.mp (hS1a.mem_iff.mp (List.mem_of_mem_take (List.getElem_mem hjp)))
    refine comp_store rfl rfl F24 N24 off hoC fun h25 o25 F25 N25 c25 => ?_
    refine oEA (⟨_, c25, by simp⟩ : ∃ m8, LCg.NsObj o25 m8 ∧ m8 "place" = some (.int (((ordP (ltOf top R pk) ra.length).take few.toNat)[jx] : Nat) tq)) fun m25 c26 y1 => ?_
    clear F24 N24 c25 F32 N32
    dsimp only
    walk_at "got"
    refine sub_at (x := .ref (ra.getD ((ordP (ltOf top R pk) ra.length).take few.toNat)[jx] 0)) (j := ((ordP (ltOf top R pk) ra.length).take few.toNat)[jx]) (F25.keep _ _ hRA0) rfl (by rw [List.getElem?_map, getD_some hpl]; rfl) (by simp; lia) ?_
    refine ⟨h25, _, o25, m25, rfl, F25, N25, c26, ?_⟩
    rw [List.take_succ_eq_append_getElem hjp, List.map_append]; rfl
  rintro Dy3 ny3 h33 tk33 ys F33 N33 off3 hyl3 hPq3
  have ey3 : ys = ((ordP (ltOf top R pk) ra.length).take wish.toNat).map fun i => Value.ref (ra.getD i 0) := by
    rw [hPq3, List.take_of_length_le (by rw [List.length_take, List.length_take, hI1.len]; exact Nat.le_refl _), hf1]
  rw [ey3] at N33
  clear hPq3 hyl3 ey3 F32 N32
  dsimp only
  walk_at "got"
  rename Fr _ _ _ _ => F34
  refine cmp_ofNotEq ((SeqAt.RcNeAt.lists (e := fun _ => true) (PySem.IsL.isList (n := nn1) (N33 _ (.tail _ (.tail _ (.head _)))).1) (PySem.IsL.isList (n := ny3) (N33 _ (.head _)).1) rfl (by show A.units + 3 < cLine; first | exact room2 hu (by decide) | lia) (fun j h1 h2 => SeqAt.EqAt.same _)) _ _ _ _ ?_)
  rw [show (!(List.range _).all fun _ => true) = false by simp]
  walk_at "got"
  show wpAny _ _ (call (.ref 96) [.int wish tw, v2] [(Str.ofString "key", .ref Kf)]) _ _ _
  rename Fr _ _ _ _ => F39
  have zJ2 := N33 _ (.tail _ (.tail _ (.tail _ (.tail _ (.head _)))))
  have NB : News h₀ L' _ ((La, { oa with slots := sa1 }) :: (D2, listOf v2s.toArray n2) :: (D1, listOf v1s.toArray n1) :: (L' + 4, o4) :: (L' + 3, o3) :: (L' + 2, o2) :: (L' + 1, o1) :: (150, tabObj ps') :: (Kf, oKf) :: ext) := allc (N33 _ (.tail _ (.tail _ (.tail _ (.head _))))) (fun p hp => N33 p (.tail _ (.tail _ (.tail _ (.tail _ (.tail _ hp))))))
  have src2 : ∀ hx : Heap, hx.get? J = some oJ → SrcC h₀ L' La hx RA v2 ((D2, listOf v2s.toArray n2) :: (D1, listOf v1s.toArray n1) :: (L' + 4, o4) :: (L' + 3, o3) :: (L' + 2, o2) :: (L' + 1, o1) :: (150, tabObj ps') :: (Kf, oKf) :: ext) := fun hx e => by
    rcases hJ with rfl | ⟨rfl, j1, j2, j3⟩
    · exact .inl rfl
    · exact .inr ⟨J, oJ, rfl, e, zJ2.2.1, zJ2.2.2, j1, j2, j3⟩
  refine' nl_call X' T' F39 NB hA ?nv ?ns ?ng nda hlowA (src2 _ zJ2.1) hKey2 hRA0 h2 h64 hex (lt := ltOf top R pk) ltOf_swo hkb1 hkb2 (fun i j => rlt_false ht0 ht8 hRin pk j i) hw0 hw1 hS2a hS2b ?_
  case nv => show A.units + 3 + 1200 < cLine; first | exact room3 hu (by decide) | lia
  case ns => show A.depth + 1 + 10 < recursionLimit; first | exact room3 hroom (by decide) | lia
  case ng => exact ⟨_, ea, Around.frames_deeper hfr, rfl, hfa, (show ScopeKind.function ≠ ScopeKind.module by decide), hka⟩
  intro h40 tk40 a2 nn2 sa2 F40 N40 hk40
  clear F39 N33 NB zJ2
  (try clear F34)
  dsimp only
  walk_at "got"
  rename Fr _ _ _ _ => F42
  refine comp_list F42 hA goFree_name (by with_unfolding_all rfl) (by decide) (by rfl) (by decide) ?_
  walk_at "got"
  rename Fr _ _ _ _ => F51
  rename News _ _ _ _ => N51
  refine kmk_slice_lit F51 N51 (PySem.IsL.isList (n := n2) (N51 _ (.tail _ (.tail _ (.head _)))).1) .none (.int few _) (slice_take _ hf0) ?_ (by with_unfolding_all rfl) (fun _ => rfl) (by rw [List.size_toArray, sizeLine_eq, hI2.len, ordP_length]; lia)
  intro Dz5 h52 F52 N52 hDz5
  clear F51 N51
  refine ⟨Dz5, v2s.take few.toNat, _, fun jx ys tk => ys = (((ordP (dirLt true (ltOf top R pk)) ra.length).take few.toNat).take jx).map fun i => Value.ref (ra.getD i 0), rfl, F52, N52, fun h' F N => PySem.IsL.isList (N _ (.head _)).1, by rw [List.length_take, hI2.len, ordP_length]; lia, rfl, ?_, ?_⟩
  · rintro jx v C D3 I3 oC oI3 n3 m₂ h24 tk24 ys hjx hyl hPq F24 N24 off hoC
    subst hPq
    have hIt : IntsOf (v2s.take few.toNat) ((ordP (dirLt true (ltOf top R pk)) ra.length).take few.toNat) := by
      have := IntsAre.take (k := few.toNat) hI2
      unfold IntsOf
      rw [List.map_take]; exact this
    have hjp : jx < ((ordP (dirLt true (ltOf top R pk)) ra.length).take few.toNat).length := by
      rw [← hIt.len]
      rcases Nat.lt_or_ge jx (v2s.take few.toNat).length with q | q
      · exact q
      · rw [List.getElem?_eq_none q] at hjx; cases hjx
    refine oE (hIt.get (List.getElem?_eq_getElem hjp)) fun tq htq => ?_
    rw [hjx] at htq
    cases htq
    have hpl : ((ordP (dirLt true (ltOf top R pk)) ra.length).take few.toNat)[jx] < ra.length := List.mem_range.mp (hS2a.mem_iff.mp (List.mem_of_mem_take (List.getElem_mem hjp)))
    refine comp_store rfl rfl F24 N24 off hoC fun h25 o25 F25 N25 c25 => ?_
    refine oEA (⟨_, c25, by simp⟩ : ∃ m8, LCg.NsObj o25 m8 ∧ m8 "place" = some (.int (((ordP (dirLt true (ltOf top R pk)) ra.length).take few.toNat)[jx] : Nat) tq)) fun m25 c26 y1 => ?_
    clear F24 N24 c25 F52 N52
    dsimp only
    walk_at "got"
    refine sub_at (x := .ref (ra.getD ((ordP (dirLt true (ltOf top R pk)) ra.length).take few.toNat)[jx] 0)) (j := ((ordP (dirLt true (ltOf top R pk)) ra.length).take few.toNat)[jx]) (F25.keep _ _ hRA0) rfl (by rw [List.getElem?_map, getD_some hpl]; rfl) (by simp; lia) ?_
    refine ⟨h25, _, o25, m25, rfl, F25, N25, c26, ?_⟩
    rw [List.take_succ_eq_append_getElem hjp, List.map_append]; rfl
  rintro Dy5 ny5 h53 tk53 ys F53 N53 off5 hyl5 hPq5
  have ey5 : ys = ((ordP (dirLt true (ltOf top R pk)) ra.length).take wish.toNat).map fun i => Value.ref (ra.getD i 0) := by
    rw [hPq5, List.take_of_length_le (by rw [List.length_take, List.length_take, hI2.len]; exact Nat.le_refl _), hf1]
  rw [ey5] at N53
  clear hPq5 hyl5 ey5 F52 N52
  dsimp only
  walk_at "got"
  rename Fr _ _ _ _ => F54
  refine cmp_ofNotEq ((SeqAt.RcNeAt.lists (e := fun _ => true) (PySem.IsL.isList (n := nn2) (N53 _ (.tail _ (.tail _ (.head _)))).1) (PySem.IsL.isList (n := ny5) (N53 _ (.head _)).1) rfl (by show A.units + 3 < cLine; first | exact room2 hu (by decide) | lia) (fun j h1 h2 => SeqAt.EqAt.same _)) _ _ _ _ ?_)
  rw [show (!(List.range _).all fun _ => true) = false by simp]
  walk_at "got"
  rename Fr _ _ _ _ => F60
  have NC : News h₀ L' _ ((La, { oa with slots := sa2 }) :: (D2, listOf v2s.toArray n2) :: (D1, listOf v1s.toArray n1) :: (L' + 4, o4) :: (L' + 3, o3) :: (L' + 2, o2) :: (L' + 1, o1) :: (150, tabObj ps') :: (Kf, oKf) :: ext) := allc (N53 _ (.tail _ (.tail _ (.tail _ (.head _))))) (fun p hp => N53 p (.tail _ (.tail _ (.tail _ (.tail _ hp)))))
  have hK60 := hKey2 _ (fun p hp => (NC p (.tail _ hp)).1) F60.keep
  refine popped_ok (kb := kbOf top R pk) (X'.keeps F60.keep) (T'.keeps F60.keep) (fun _ _ e => e) hA (by show A.units + 3 + 800 < cLine; first | exact room3 hu (by decide) | lia) (by show A.depth + 1 + 8 < recursionLimit; first | exact room3 hroom (by decide) | lia) hK60 (F60.keep _ _ hRA0) (by lia) (fun i a hi => ?_) (rlt_swo ht0 ht8 hRin pk) ?_
  · have hil : i < ra.length := by
      rcases Nat.lt_or_ge i ra.length with q | q
      · exact q
      · rw [List.getElem?_eq_none q] at hi; cases hi
    have hia : ra.getD i 0 = a := by simp [hi]
    refine oEEEEE (hrows0 i hil) fun t1 t2 t3 t4 nr er => ?_
    rw [hia] at er
    exact ⟨_, nr, t4, F60.keep _ _ er, rfl, rfl⟩
  intro h61 tk61 ap vp np2 lp K61 nap eap hIp hpp hpw
  have F61 := frKeep0 F60 K61
  have N61 := newsFresh F60 nap eap (newsKeep0 NC K61)
  have hlp : ordP (ltOf top R pk) ra.length = lp := by
    refine sort_unique (slt_asymm ltOf_swo) hS1b ?_ (hpp.trans hS1a.symm)
    have hnd : lp.Nodup := hpp.nodup_iff.mpr List.nodup_range
    refine (hpw.and hnd).imp fun {x y} q => ?_
    refine slt_total ltOf_swo q.2.symm fun q2 => ?_
    have := (rlt_true ht0 ht8 hRin pk y x).mpr q2
    rw [q.1] at this; cases this
  clear F60 NC N53
  (try clear F54)
  dsimp only
  walk_at "got"
  rename Fr _ _ _ _ => F62
  rename News _ _ _ _ => N62
  refine eq_intsK (PySem.IsL.isList (n := np2) (N62 _ (.head _)).1) hIp (PySem.IsL.isList (n := n1) (N62 _ (.tail _ (.tail _ (.tail _ (.head _))))).1) hI1 (by show A.units + 3 + 64 < cLine; first | exact room3 hu (by decide) | lia) ?_
  rw [show ordP (dirLt false (ltOf top R pk)) ra.length = lp from hlp, show decide ((lp.map fun x : Nat => (x : Int)) = lp.map fun x : Nat => (x : Int)) = true by simp]
  walk_at "got"
  rename Fr _ _ _ _ => F63
  rename News _ _ _ _ => N63
  exact hq _ _ _ _ (hfin _ F63.keep) (N63 _ (.tail _ (.head _))).1 (N63 _ (.tail _ (.tail _ (.tail _ (.tail _ (.tail _ (.tail _ (.tail _ (.tail _ (.head _)))))))))).1 (hTab _ (fun p hp => (N63 p (.tail _ (.tail _ (.tail _ (.tail _ (.tail _ (.tail _ (.tail _ (.tail _ (.tail _ (.tail _ hp))))))))))).1) F63.keep)
end
end
-- part LawA
section
open PySem PySem.W PyProof.Rows PySem.Calls PySem.Flt
set_option maxRecDepth 100000
set_option maxHeartbeats 4000000
theorem fillLawA : True := by
  w_top off
  trivial
theorem slice_17 (vs : List Value) : (slicePick vs.toArray (some 1) (some 7) none).toList = (vs.drop 1).take 6 := by
  have e : sliceBounds (some 1) (some 7) none vs.toArray.size = (((min 1 vs.toArray.size : Nat) : Int), ((min 7 vs.toArray.size : Nat) : Int), 1) := by
    have h1 : (1 : Int) > 0 := by decide
    have h2 : ¬ (1 : Int) < 0 := by decide
    have h3 : ¬ (7 : Int) < 0 := by decide
    simp only [sliceBounds, Option.getD_none, if_pos h1, if_neg h2, if_neg h3, Prod.mk.injEq]
    exact ⟨by lia, by lia, trivial⟩
  rw [kmk_pick_nat _ e]
  simp only [List.size_toArray]
  rw [kmk_drop_min]
  cases vs with
  | nil => simp
  | cons a r =>
    simp only [List.length_cons, List.drop_succ_cons, List.drop_zero]
    rw [show min 7 (r.length + 1) - min 1 (r.length + 1) = min 6 r.length by lia, kmk_take_min]
theorem ints_item {vs : List Value} {ns : List Int} (hI : IntsAre vs ns) {j : Nat} (hj : j < ((vs.drop 1).take 6).length) : ∃ k t, ((vs.drop 1).take 6)[j]? = some (.int k t) := by
  have h := hj
  rw [List.length_take, List.length_drop, hI.length] at h
  have h1 : 1 + j < ns.length := by omega
  refine oE (hI.get (1 + j) ns[1 + j] (by simp [h1])) fun t e => ?_
  refine ⟨ns[1 + j], t, ?_⟩
  rw [List.getElem?_take_of_lt (by omega), List.getElem?_drop, e]
noncomputable def LRows (ents : List (Addr × Obj)) (ra : List Addr) (R : Nat → Nat × Nat × Nat) : Prop := ∀ i, i < ra.length → ∃ t1 t2 t3 t4 nn, (ra.getD i 0, rowObj (R i).1 (R i).2.1 (R i).2.2 i t1 t2 t3 t4 nn) ∈ ents
noncomputable def R5 (top : Nat) (i : Nat) : Nat × Nat × Nat := if i = 0 then (top, 0, 1) else if i = 1 then (1, 1, 1) else if i = 2 then (top - 1, top, top) else if i = 3 then (top, 1, 0) else if i = 4 then (top, 0, 1) else (0, 0, 0)
theorem R5_in {top : Nat} (h : 0 < top) : RowsIn top (R5 top) := fun i => by
  unfold R5
  repeat' split
  all_goals (refine ⟨?_, ?_, ?_⟩ <;> dsimp only <;> lia)
theorem LRows.snoc {ents : List (Addr × Obj)} {ra : List Addr} {R : Nat → Nat × Nat × Nat} (h : LRows ents ra R) {b : Addr} {x : Nat × Nat × Nat} {t1 t2 t3 t4 nn : Nat} : LRows ((b, rowObj x.1 x.2.1 x.2.2 (ra.length : Nat) t1 t2 t3 t4 nn) :: ents) (ra ++ [b]) (fun i => if i = ra.length then x else R i) := by
  intro i hi
  rw [List.length_append, List.length_singleton] at hi
  by_cases e : i = ra.length
  · subst e
    refine ⟨t1, t2, t3, t4, nn, ?_⟩
    dsimp only
    rw [if_pos rfl]
    have : (ra ++ [b]).getD ra.length 0 = b := by simp
    rw [this]
    exact .head _
  · refine oEEEEE (h i (by lia)) fun u1 u2 u3 u4 n m => ?_
    refine ⟨u1, u2, u3, u4, n, ?_⟩
    dsimp only
    rw [if_neg e]
    have : (ra ++ [b]).getD i 0 = ra.getD i 0 := by simp [List.getD_eq_getElem?_getD, List.getElem?_append_left (show i < ra.length by lia)]
    rw [this]
    exact .tail _ m
theorem RowsIn.snoc {top : Nat} {R : Nat → Nat × Nat × Nat} (h : RowsIn top R) {x : Nat × Nat × Nat} {k : Nat} (hx : x.1 ≤ top ∧ x.2.1 ≤ top ∧ x.2.2 ≤ top) : RowsIn top (fun i => if i = k then x else R i) := fun i => by
  dsimp only
  split
  · exact hx
  · exact h i
theorem law_init {h₀ h : Heap} {L RA b0 b1 b2 b3 b4 : Addr} {top nn n0 n1 n2 n3 n4 : Nat} {t0 t1 t2 t3 u0 u1 u2 u3 v0 v1 v2 v3 w0 w1 w2 w3 x0 x1 x2 x3 : Tok}
    (N : News h₀ L h [(RA, listOf [.ref b0, .ref b1, .ref b2, .ref b3, .ref b4].toArray nn), (b4, listOf [.int top x0, .int 0 x1, .int 1 x2, .int 4 x3].toArray n4), (b3, listOf [.int top w0, .int 1 w1, .int 0 w2, .int 3 w3].toArray n3), (b2, listOf [.int ((top - 1 : Nat) : Int) v0, .int top v1, .int top v2, .int 2 v3].toArray n2), (b1, listOf [.int 1 u0, .int 1 u1, .int 1 u2, .int 1 u3].toArray n1), (b0, listOf [.int top t0, .int 0 t1, .int 1 t2, .int 0 t3].toArray n0), (150, tabObj #[])])
    (lR : b4 < RA ∧ b3 < RA ∧ b2 < RA ∧ b1 < RA ∧ b0 < RA ∧ 150 < RA) :
    ∃ (RB : Addr) (nb : Nat) (ra : List Addr) (ents : List (Addr × Obj)), RB = RA ∧ News h₀ L h ((RB, listOf (ra.map Value.ref).toArray nb) :: (ents ++ [(150, tabObj #[])])) ∧ ra.length = 5 ∧ LRows ents ra (R5 top) ∧ (∀ p ∈ ents ++ [(150, tabObj #[])], p.1 ≠ RB) := by
  refine ⟨RA, nn, [b0, b1, b2, b3, b4], [(b4, listOf [.int top x0, .int 0 x1, .int 1 x2, .int 4 x3].toArray n4), (b3, listOf [.int top w0, .int 1 w1, .int 0 w2, .int 3 w3].toArray n3), (b2, listOf [.int ((top - 1 : Nat) : Int) v0, .int top v1, .int top v2, .int 2 v3].toArray n2), (b1, listOf [.int 1 u0, .int 1 u1, .int 1 u2, .int 1 u3].toArray n1), (b0, listOf [.int top t0, .int 0 t1, .int 1 t2, .int 0 t3].toArray n0)], rfl, fun p hp => N p (by first | exact nin1 (hp) | exact nin2 (hp) | exact allc (hp) alln | simpa using hp), rfl, ?_, ?_⟩
  · intro i hi
    have : i = 0 ∨ i = 1 ∨ i = 2 ∨ i = 3 ∨ i = 4 := by simp at hi; lia
    rcases this with rfl | rfl | rfl | rfl | rfl
    · exact ⟨t0, t1, t2, t3, n0, .tail _ (.tail _ (.tail _ (.tail _ (.head _))))⟩
    · exact ⟨u0, u1, u2, u3, n1, .tail _ (.tail _ (.tail _ (.head _)))⟩
    · exact ⟨v0, v1, v2, v3, n2, .tail _ (.tail _ (.head _))⟩
    · exact ⟨w0, w1, w2, w3, n3, .tail _ (.head _)⟩
    · exact ⟨x0, x1, x2, x3, n4, .head _⟩
  · intro p hp
    simp only [List.cons_append, List.nil_append, List.mem_cons, List.not_mem_nil, or_false] at hp
    refine oAAAAA lR fun l4 l3 l2 l1 l0 l5 => ?_; (try clear lR)
    rcases hp with rfl | rfl | rfl | rfl | rfl | rfl <;> exact Nat.ne_of_lt (by assumption)
theorem law_push {h₀ h : Heap} {L RA I D b : Addr} {ra : List Addr} {nn nb top r1 r2 r3 : Nat} {u1 u2 u3 u4 : Tok} {oI oD : Obj} {ents : List (Addr × Obj)} {R : Nat → Nat × Nat × Nat} {lx x1 x2 x3 : Int} {pt : Addr × Obj}
    (e : h.get? RA = some (listOf ((ra.map Value.ref).toArray.push (.ref b)) (nn + 1))) (zR : RA ≠ L ∧ h₀.get? RA = none)
    (zb : h.get? b = some (listOf [.int x1 u1, .int x2 u2, .int x3 u3, .int lx u4].toArray nb)) (hb : b ≠ L ∧ h₀.get? b = none) (hlx : lx = ra.length) (e1 : x1 = r1) (e2 : x2 = r2) (e3 : x3 = r3)
    (Nl : News h₀ L h (ents ++ [pt])) (zI : h.get? I = some oI ∧ I ≠ L ∧ h₀.get? I = none) (zD : h.get? D = some oD ∧ D ≠ L ∧ h₀.get? D = none)
    (ap : ∀ p ∈ ents ++ [pt], p.1 ≠ RA ∧ p.1 ≠ I) (b1 : RA < b) (b2 : I < b) (hLR : LRows ents ra R) (hR : RowsIn top R) (l1 : r1 ≤ top) (l2 : r2 ≤ top) (l3 : r3 ≤ top) :
    ∃ (ra' : List Addr) (ents' : List (Addr × Obj)) (R' : Nat → Nat × Nat × Nat), News h₀ L h ((RA, listOf (ra'.map Value.ref).toArray (nn + 1)) :: (I, oI) :: (D, oD) :: (ents' ++ [pt])) ∧ ra'.length = ra.length + 1 ∧ LRows ents' ra' R' ∧ RowsIn top R' ∧ (∀ p ∈ ents' ++ [pt], p.1 ≠ RA ∧ p.1 ≠ I) := by
  subst e1 e2 e3 hlx
  refine ⟨ra ++ [b], (b, rowObj r1 r2 r3 (ra.length : Nat) u1 u2 u3 u4 nb) :: ents, fun i => if i = ra.length then (r1, r2, r3) else R i, ?_, by simp, hLR.snoc (x := (r1, r2, r3)), hR.snoc ⟨l1, l2, l3⟩, ?_⟩
  · rw [List.cons_append]
    refine newsCons (newsCons (newsCons (newsCons Nl zb hb.1 hb.2) zD.1 zD.2.1 zD.2.2) zI.1 zI.2.1 zI.2.2) ?_ zR.1 zR.2
    rw [e, List.push_toArray, List.map_append]; rfl
  · intro p hp
    rw [List.cons_append] at hp
    rcases List.mem_cons.mp hp with rfl | hp
    · exact ⟨(Nat.ne_of_lt b1).symm, (Nat.ne_of_lt b2).symm⟩
    · exact ap p hp
noncomputable def PkOk (entsP : List (Addr × Obj)) (x : Option Value) : Prop := ∃ (P : Addr) (pk : List Nat) (pvs : List Value) (np : Nat), x = some (.ref P) ∧ (P, listOf pvs.toArray np) ∈ entsP ∧ IntsOf pvs pk ∧ (∀ j ∈ pk, j < 3) ∧ pk.length < 2 ^ 20
theorem law_pinit {h₀ h : Heap} {L PK p0 p1 p2 p3 : Addr} {nk n0 n1 n2 n3 : Nat} {t0 t1 t2 t3 t4 t5 : Tok} {rest : List (Addr × Obj)}
    (N : News h₀ L h ((PK, listOf [.ref p0, .ref p1, .ref p2, .ref p3].toArray nk) :: (p3, listOf [.int 0 t3, .int 1 t4, .int 2 t5].toArray n3) :: (p2, listOf [.int 2 t2].toArray n2) :: (p1, listOf [.int 1 t1].toArray n1) :: (p0, listOf [.int 0 t0].toArray n0) :: rest)) :
    ∃ (PK' : Addr) (nk' : Nat) (pks : List Value) (entsP : List (Addr × Obj)), PK' = PK ∧ News h₀ L h ((PK', listOf pks.toArray nk') :: (entsP ++ rest)) ∧ pks.length = 4 ∧ ∀ j, j < 4 → PkOk entsP pks[j]? := by
  refine ⟨PK, nk, [.ref p0, .ref p1, .ref p2, .ref p3], [(p3, listOf [.int 0 t3, .int 1 t4, .int 2 t5].toArray n3), (p2, listOf [.int 2 t2].toArray n2), (p1, listOf [.int 1 t1].toArray n1), (p0, listOf [.int 0 t0].toArray n0)], rfl, fun p hp => N p (by first | exact nin1 (hp) | exact nin2 (hp) | exact allc (hp) alln | simpa using hp), rfl, fun j hj => ?_⟩
  have : j = 0 ∨ j = 1 ∨ j = 2 ∨ j = 3 := by lia
  rcases this with rfl | rfl | rfl | rfl
  · exact ⟨p0, [0], [.int 0 t0], n0, rfl, .tail _ (.tail _ (.tail _ (.head _))), IntsAre.cons _ _ IntsAre.nil, by simp, by simp⟩
  · exact ⟨p1, [1], [.int 1 t1], n1, rfl, .tail _ (.tail _ (.head _)), IntsAre.cons _ _ IntsAre.nil, by simp, by simp⟩
  · exact ⟨p2, [2], [.int 2 t2], n2, rfl, .tail _ (.head _), IntsAre.cons _ _ IntsAre.nil, by simp, by simp⟩
  · exact ⟨p3, [0, 1, 2], [.int 0 t3, .int 1 t4, .int 2 t5], n3, rfl, .head _, IntsAre.cons _ _ (IntsAre.cons _ _ (IntsAre.cons _ _ IntsAre.nil)), by simp, by simp⟩
theorem tab_split {h₀ h : Heap} {L : Addr} {m : Str → Option Value} {ps : Array Value} (F : Fr h₀ L h m) (hT : TabOk h ps) : ∃ extT : List (Addr × Obj), (∀ p ∈ extT, (h.get? p.1 = some p.2 ∧ p.1 ≠ L ∧ h₀.get? p.1 = none) ∧ ∃ vs t, p.2.data = .fields vs ∧ vs[1]? = some (.str lamQ t)) ∧ ∀ h'', h₀.StaysIn h'' → (∀ p ∈ extT, h''.get? p.1 = some p.2) → TabOk h'' ps := by
  rcases hT with rfl | ⟨c', oc, vs, t, rfl, gc, dc, vc⟩
  · exact ⟨[], fun p hp => (nomatch hp), fun _ _ _ => .inl rfl⟩
  · cases q : h₀.get? c' with
    | some o =>
      have e := F.keep _ _ q
      rw [gc] at e
      cases e
      exact ⟨[], fun p hp => (nomatch hp), fun h'' st _ => .inr ⟨c', oc, vs, t, rfl, st _ _ q, dc, vc⟩⟩
    | none =>
      refine ⟨[(c', oc)], fun p hp => ?_, fun h'' _ g => .inr ⟨c', oc, vs, t, rfl, g _ (.head _), dc, vc⟩⟩
      rw [List.mem_singleton.mp hp]
      refine ⟨⟨gc, ?_, q⟩, vs, t, dc, vc⟩
      rintro rfl
      refine oEEEAA F.ns fun o' es ep ho' hd' _ => ?_
      rw [gc] at ho'; cases ho'
      rw [dc] at hd'; cases hd'
noncomputable def LawAI1 (s1 : Shared) (G0 : Heap) (L0 : Addr) (vs : List Value) (ZZ : Flow → Shared → Prop) : Prop := ∀ (first : Int), ∀ (tf : Tok), ∀ (scr : Addr), ∀ (h' : Heap), ∀ (tk' : Nat), ∀ (m : Str → Option Value), (Fr G0 L0 h' m) → (News G0 L0 h' [(150, tabObj #[])]) → (m "script" = some (.ref scr)) → (Heap.IsList G0 scr vs.toArray) → (m "first" = some (.int first tf)) → ZZ (.next) ({ s1 with heap := h', toks := tk' })
noncomputable def LawAI2 (s1 : Shared) (G0 : Heap) (L0 : Addr) (scr : Addr) (first : Int) (tf : Tok) (ZZ : Flow → Shared → Prop) : Prop := ∀ (top v : Nat), ∀ (tt : Tok), ∀ (h' : Heap), ∀ (tk' : Nat), ∀ (m : Str → Option Value), (Fr G0 L0 h' m) → (News G0 L0 h' [(150, tabObj #[])]) → (m "script" = some (.ref scr)) → (m "first" = some (.int first tf)) → (m "top" = some (.int top tt)) → (top * (2 * v) = 2 ^ 14) → (top ≤ 256) → (0 < v) → ZZ (.next) ({ s1 with heap := h', toks := tk' })
noncomputable def LawAI3 (s1 : Shared) (G0 : Heap) (L0 : Addr) (first : Int) (tf : Tok) (top : Nat) (tt : Tok) (ZZ : Flow → Shared → Prop) : Prop := ∀ (RA : Addr), ∀ (nn : Nat), ∀ (ra : List Addr), ∀ (ents : List (Addr × Obj)), ∀ (R : Nat → Nat × Nat × Nat), ∀ (h' : Heap), ∀ (tk' : Nat), ∀ (m : Str → Option Value), (Fr G0 L0 h' m) → (News G0 L0 h' ((RA, listOf (ra.map Value.ref).toArray nn) :: (ents ++ [(150, tabObj #[])]))) → (m "first" = some (.int first tf)) → (m "top" = some (.int top tt)) → (m "rows" = some (.ref RA)) → (2 ≤ ra.length) → (ra.length < 60) → (LRows ents ra R) → (RowsIn top R) → ZZ (.next) ({ s1 with heap := h', toks := tk' })
noncomputable def LawAI4 (s1 : Shared) (G0 : Heap) (L0 : Addr) (vs : List Value) (first : Int) (tf : Tok) (top : Nat) (tt : Tok) (c : Nat) (ZZ : Value → Shared → Prop) : Prop := ∀ (I RA D : Addr), ∀ (j nn nz : Nat), ∀ (bt : Tok), ∀ (ra : List Addr), ∀ (ents : List (Addr × Obj)), ∀ (R : Nat → Nat × Nat × Nat), ∀ (oI : Obj), ∀ (h' : Heap), ∀ (tk' : Nat), ∀ (m : Str → Option Value), (Fr G0 L0 h' m) → (News G0 L0 h' ((RA, listOf (ra.map Value.ref).toArray nn) :: (I, oI) :: (D, listOf ((vs.drop 1).take 6).toArray nz) :: (ents ++ [(150, tabObj #[])]))) → (IsLi oI D j) → (j + c = ((vs.drop 1).take 6).length) → (m "first" = some (.int first tf)) → (m "top" = some (.int top tt)) → (m "rows" = some (.ref RA)) → (m "base" = some (.int (top + 1) bt)) → (RA ≠ I) → (D ≠ RA) → (D ≠ I) → ((∀ p ∈ ents ++ [(150, tabObj #[])], p.1 ≠ RA ∧ p.1 ≠ I)) → (ra.length = 5 + j) → (LRows ents ra R) → (RowsIn top R) → ZZ (.ref I) ({ s1 with heap := h', toks := tk' })
noncomputable def LawAI5 (s1 : Shared) (G0 : Heap) (L0 : Addr) (RA : Addr) (nn : Nat) (ra : List Addr) (ents : List (Addr × Obj)) (first : Int) (tf : Tok) (top : Nat) (tt : Tok) (ZZ : Flow → Shared → Prop) : Prop := ∀ (h' : Heap), ∀ (tk' : Nat), ∀ (m : Str → Option Value), (Fr G0 L0 h' m) → (News G0 L0 h' ((RA, listOf (ra.map Value.ref).toArray nn) :: (ents ++ [(150, tabObj #[])]))) → (m "first" = some (.int first tf)) → (m "top" = some (.int top tt)) → (m "rows" = some (.ref RA)) → ZZ (.next) ({ s1 with heap := h', toks := tk' })
noncomputable def LawAI6 (s1 : Shared) (G0 : Heap) (L0 : Addr) (RA : Addr) (nn : Nat) (ra : List Addr) (ents : List (Addr × Obj)) (first : Int) (tf : Tok) (top : Nat) (tt : Tok) (c : Nat) (ZZ : Value → Shared → Prop) : Prop := ∀ (I : Addr), ∀ (j : Nat), ∀ (oI : Obj), ∀ (h' : Heap), ∀ (tk' : Nat), ∀ (m : Str → Option Value), (Fr G0 L0 h' m) → (News G0 L0 h' ((RA, listOf (ra.map Value.ref).toArray nn) :: (I, oI) :: (ents ++ [(150, tabObj #[])]))) → (IsLi oI RA j) → (j + c = ra.length) → (m "first" = some (.int first tf)) → (m "top" = some (.int top tt)) → (m "rows" = some (.ref RA)) → (RA ≠ I) → ((∀ p ∈ ents ++ [(150, tabObj #[])], p.1 ≠ I)) → ZZ (.ref I) ({ s1 with heap := h', toks := tk' })
noncomputable def LawAI7 (s1 : Shared) (G0 : Heap) (L0 : Addr) (RA : Addr) (PK : Addr) (KK : List (Addr × Obj)) (first : Int) (tf : Tok) (top : Nat) (tt : Tok) (c : Nat) (ZZ : Value → Shared → Prop) : Prop := ∀ (I : Addr), ∀ (j : Nat), ∀ (ps : Array Value), ∀ (extT : List (Addr × Obj)), ∀ (h' : Heap), ∀ (tk' : Nat), ∀ (m : Str → Option Value), (Fr G0 L0 h' m) → (News G0 L0 h' ((150, tabObj ps) :: (I, riObj j c 1) :: (extT ++ KK))) → (j + c = 4) → (m "first" = some (.int first tf)) → (m "top" = some (.int top tt)) → (m "rows" = some (.ref RA)) → (m "picks" = some (.ref PK)) → ((∀ p ∈ extT ++ KK, p.1 ≠ 150 ∧ p.1 ≠ I)) → (I ≠ 150) → ((∀ h'', Heap.StaysIn G0 h'' → (∀ p ∈ extT, h''.get? p.1 = some p.2) → TabOk h'' ps)) → ZZ (.ref I) ({ s1 with heap := h', toks := tk' })
theorem law_holds : PySem.Challenge.rw_mq0320_01.Holds := by
  refine hd.2 ?_
  k_go0
  rename Fr _ _ _ _ => F1
  rename News _ _ _ _ => N1
  rename IntsAre _ _ => hI
  rename Frag.In _ _ => X1
  rename Top _ _ _ _ _ _ => T1
  rename Shared => s1
  rename World => w0
  rename List Value => vs
  rename List Int => ns
  rename Heap.IsList (ghostOf _ _) _ _ => hscr
  rename CodeHd _ _ _ => C1
  dsimp only
  generalize ghostOf s1.heap [(152, 150)] = G0 at *
  generalize s1.heap.objs.size = L0 at *
  refine wpAny_execs_cons ?_
  refine cutC (LawAI1 s1 G0 L0 vs) ?_ ?_
  · intro Pz mkP
    walk_at "got"
    · rename Fr _ _ _ _ => F2
      rename News _ _ _ _ => N2
      refine oEE (by
        cases ns with
        | nil => rename 0 < _ => hz; simp at hz
        | cons a r => exact ⟨a, r, rfl⟩ : ∃ n0 ns', ns = n0 :: ns') fun n0 ns' en => ?_
      subst en
      refine oE (hI.get 0 n0 rfl) fun t0 ht0 => ?_
      have hs2 := Heap.IsList.at hscr (fun o e => F2.keep _ o e)
      refine item_listL (l := vs) hs2 (by decide) (by decide) (by first | exact nin1 (ht0) | exact nin2 (ht0) | exact allc (ht0) alln | simpa using ht0) ?_
      walk_at "got"
      rename Fr _ _ _ _ => F3
      rename News _ _ _ _ => N3
      exact mkP _ _ (fun _ zz => zz _ _ _ _ _ _ F3 N3 rfl hscr rfl)
    · rename Fr _ _ _ _ => F2
      rename News _ _ _ _ => N2
      exact mkP _ _ (fun _ zz => zz _ _ _ _ _ _ F2 N2 rfl hscr rfl)
  intro first tf scr h2 tk2 m2 F2 N2 ls hscr2 lf
  clear F1 N1 hscr
  have F3 := frKnown F2 [("script", .ref scr), ("first", .int first tf)] (by first | exact allc ls (allc lf alln) | simp [ls, lf])
  clear F2
  dsimp only
  refine wpAny_execs_cons ?_
  refine cutC (LawAI2 s1 G0 L0 scr first tf) ?_ ?_
  · intro Pz mkP
    walk_at "got"
    rename Fr _ _ _ _ => F4
    rename News _ _ _ _ => N4
    have e1 : ∃ e : Nat, 1 ≤ e ∧ e ≤ 8 ∧ (first.fmod 8 + 1).toNat = e := ⟨_, by lia, by lia, rfl⟩
    refine oEAA e1 fun e he1 he8 ee => ?_; (try clear e1)
    have hpow : (2 : Int) ^ (first.fmod 8 + 1).toNat = ((2 ^ e : Nat) : Int) := by rw [ee]; simp
    rw [hpow] at F4
    refine mkP _ _ (fun _ zz => zz (2 ^ e) (2 ^ (13 - e)) _ _ _ _ F4 N4 rfl rfl rfl (?_) (?_) (Nat.pow_pos (by decide)))
    · rw [← Nat.pow_succ', ← Nat.pow_add]; congr 1; lia
    · exact Nat.pow_le_pow_right (n := 2) (by decide) he8
  intro top v tt h3 tk3 m3 F4 N4 ls3 lf3 lt3 htv ht8 hv0
  clear F3 N2
  have F5 := frKnown F4 [("script", .ref scr), ("first", .int first tf), ("top", .int top tt)] (by first | exact allc ls3 (allc lf3 (allc lt3 alln)) | simp [ls3, lf3, lt3])
  clear F4
  dsimp only
  walk_at "got"
  rename Fr _ _ _ _ => F6
  rename News _ _ _ _ => N6
  have ht0 : 0 < top := by
    rcases Nat.eq_zero_or_pos top with e | e
    · rw [e] at htv; simp at htv
    · exact e
  have etp : ((top : Nat) : Int) - 1 = ((top - 1 : Nat) : Int) := by lia
  rw [etp] at N6
  rename _ < _ ∧ _ < _ ∧ _ < _ ∧ _ < _ ∧ _ < _ ∧ _ < _ => lR
  refine oEEEEAAAA (law_init N6 lR) fun RA0 nn0 ra0 ents0 eRA N6' l5 hLR0 ap0 => ?_
  clear N6
  refine cutC (LawAI3 s1 G0 L0 first tf top tt) ?_ ?_
  · intro Pz mkP
    refine for_myC (LawAI4 s1 G0 L0 vs first tf top tt) ?_ ?_
    · walk_at "got"
      refine kmk_slice_lit F6 N6' (Heap.IsList.at hscr2 (fun o e => F6.keep _ o e)) (.int 1 _) (.int 7 _) (slice_17 vs) ?_ (by with_unfolding_all rfl) (fun _ => rfl) (by rw [List.size_toArray, sizeLine_eq]; rename ¬ ((63 : Nat) : Int) < _ => hsz; rw [hI.length]; lia)
      intro D h7 F7 N7 hD7
      clear F6 N6'
      dsimp only
      refine wpAny_pyIter_list (PySem.IsL.isList (n := 0) (N7 _ (.head _)).1) ?_
      have fI := fresh_base F7 (Heap.get?_none_of_le (Nat.le_refl _))
      have N8 := N7.grown fun b o e => Heap.get?_push_of_some { cls := .type "list_iterator", data := .fields #[.ref D, .int 0 0] } e
      have q1 := Nat.ne_of_lt (Heap.lt_size (N7 _ (.tail _ (.head _))).1)
      have q2 := (Nat.ne_of_lt (hD7 _ (.head _))).symm
      have q3 := Nat.ne_of_lt (Heap.lt_size (N7 _ (.head _)).1)
      have q4 : ∀ p ∈ ents0 ++ [(150, tabObj #[])], p.1 ≠ RA0 ∧ p.1 ≠ h7.objs.size := fun p hp => ⟨ap0 p hp, Nat.ne_of_lt (Heap.lt_size (N7 p (.tail _ (.tail _ hp))).1)⟩
      refine ⟨((vs.drop 1).take 6).length, fun _ zz => zz h7.objs.size RA0 D 0 nn0 0 _ ra0 ents0 (R5 top) ({ cls := .type "list_iterator", data := .fields #[.ref D, .int 0 0] }) _ _ _ (F7.push _) (?_) ⟨rfl, rfl⟩ (by lia) rfl rfl (by rw [eRA]; rfl) rfl q1 q2 q3 q4 (by omega) hLR0 (R5_in ht0)⟩
      exact allc (N8 _ (.tail _ (.head _))) (allc (⟨Heap.get?_push_size _ rfl, fI.1, fI.2⟩) (allc (N8 _ (.head _)) (fun p hp => N8 _ (.tail _ (.tail _ hp)))))
    · intro c I RA D j nn nz bt ra ents R oI h' tk' m F7 N7 cI hj lf lt lr lb n1 n2 n3 ap hrl hLR hR
      intro Bz mkB
      clear F6 N6' ap0 hLR0 l5
      have zR := N7 _ (.head _)
      have zI := N7 _ (.tail _ (.head _))
      have zD := N7 _ (.tail _ (.tail _ (.head _)))
      have Nl : News G0 L0 h' (ents ++ [(150, tabObj #[])]) := fun p hp => N7 p (.tail _ (.tail _ (.tail _ hp)))
      have hl6 : ((vs.drop 1).take 6).length ≤ 6 := by rw [List.length_take]; lia
      rcases Nat.eq_zero_or_pos c with rfl | hc
      · refine wpAny_pyNext_list_end rfl ⟨oI, zI.1, cI⟩ (PySem.IsL.isList zD.1) (by have hh := hj; rw [List.length_take, List.length_drop] at hh; simp; lia) fun h8 hx => ?_
        have K8 := Keep.ofExt hx
        have F8 := frKeep1 F7 K8 zI.2
        have N8 := newsCons (newsKeep Nl K8 (fun p hp => by first | exact nin1 ((ap p hp).2) | exact nin2 ((ap p hp).2) | exact allc ((ap p hp).2) alln | simpa using (ap p hp).2)) (K8 _ _ (by first | exact nin1 (n1) | exact nin2 (n1) | exact allc (n1) alln | simpa using n1) zR.1) zR.2.1 zR.2.2
        exact mkP _ _ (fun _ zz => zz RA nn ra ents R h8 tk' m F8 N8 lf lt lr (by lia) (by lia) hLR hR)
      have hjr : j < ((vs.drop 1).take 6).length := by lia
      refine oEE (ints_item hI hjr) fun kk kt ek => ?_
      refine wpAny_pyNext_list_item (x := .int kk kt) ⟨oI, zI.1, cI⟩ (PySem.IsL.isList zD.1) (by first | exact nin1 (ek) | exact nin2 (ek) | exact allc (ek) alln | simpa using ek) fun h8 hI8 hx => ?_
      refine oEA hI8 fun oI8 eI8 cI8 => ?_; (try clear hI8)
      have K8 := Keep.ofSame hx
      have F8 := frKeep1 F7 K8 zI.2
      have N8 := newsCons (newsCons (newsCons (newsKeep Nl K8 (fun p hp => by first | exact nin1 ((ap p hp).2) | exact nin2 ((ap p hp).2) | exact allc ((ap p hp).2) alln | simpa using (ap p hp).2)) (K8 _ _ (by first | exact nin1 (n3) | exact nin2 (n3) | exact allc (n3) alln | simpa using n3) zD.1) zD.2.1 zD.2.2) eI8 zI.2.1 zI.2.2) (K8 _ _ (by first | exact nin1 (n1) | exact nin2 (n1) | exact allc (n1) alln | simpa using n1) zR.1) zR.2.1 zR.2.2
      have F9 := frKnown F8 [("first", .int first tf), ("top", .int top tt), ("rows", .ref RA), ("base", .int (top + 1) bt)] (by first | exact allc lf (allc lt (allc lr (allc lb alln))) | simp [lf, lt, lr, lb])
      clear F7 N7 F8 Nl
      dsimp only
      refine letGo_name (wpAny_assign_Name ?_)
      walk_at "got"
      have eQ : ∃ Q : Nat, (((top : Nat) : Int) + 1) ^ (Int.toNat 2) = Q ∧ 0 < Q ∧ Q ≤ 66049 := by
        refine ⟨(top + 1) ^ 2, ?_, Nat.pow_pos (by lia), ?_⟩
        · rw [show Int.toNat 2 = 2 from rfl]; simp
        · exact Nat.pow_le_pow_left (show top + 1 ≤ 257 by lia) 2
      refine oEAA eQ fun bb eQ hQ0 hQ1 => ?_
      rw [eQ]
      walk_at "got"
      rename News _ _ _ _ => N9
      refine len_list (PySem.IsL.isList (n := nn) (N9 _ (.head _)).1) (by simp; lia) ?_
      walk_at "got"
      rename Fr _ _ _ _ => F10
      rename News _ _ _ _ => N10
      rename _ < _ ∧ _ < _ ∧ _ < _ ∧ _ => lB
      have fm : ∀ z : Int, ∃ r : Nat, z.fmod ((top : Nat) + 1) = r ∧ r ≤ top := fun z => by
        have h1 := Int.fmod_nonneg_of_pos z (show (0 : Int) < (top : Nat) + 1 by lia)
        have h2 := Int.fmod_lt_of_pos z (show (0 : Int) < (top : Nat) + 1 by lia)
        exact ⟨(z.fmod ((top : Nat) + 1)).toNat, by omega, by omega⟩
      refine oEA (fm kk) fun r1 er1 lr1 => ?_
      refine oEA (fm (kk.fdiv ((top : Nat) + 1))) fun r2 er2 lr2 => ?_
      refine oEA (fm (kk.fdiv bb)) fun r3 er3 lr3 => ?_
      have zb := N10 _ (.head _)
      have zR10 := N10 _ (.tail _ (.head _))
      have zI10 := N10 _ (.tail _ (.tail _ (.head _)))
      have zD10 := N10 _ (.tail _ (.tail _ (.tail _ (.head _))))
      have Nl10 : News G0 L0 _ (ents ++ [(150, tabObj #[])]) := fun p hp => N10 p (.tail _ (.tail _ (.tail _ (.tail _ hp))))
      refine append_at zR10.1 (fun h17 hs17 e17 => ?_) (by rw [sizeLine_eq]; simp; lia)
      have K17 := Keep.ofSame hs17
      have F17 := frKeep1 F10 K17 zR10.2
      have bR := lB.1
      have bI := lB.2.1
      refine oEEEAAAA (law_push (D := D) (top := top) (R := R) e17 zR10.2 (K17 _ _ (by simpa using (Nat.ne_of_lt bR).symm) zb.1) zb.2 (by simp) er1 er2 er3 (newsKeep Nl10 K17 (fun p hp => by first | exact nin1 ((ap p hp).1) | exact nin2 ((ap p hp).1) | exact allc ((ap p hp).1) alln | simpa using (ap p hp).1)) ⟨K17 _ _ (by first | exact nin1 (n1.symm) | exact nin2 (n1.symm) | exact allc (n1.symm) alln | simpa using n1.symm) zI10.1, zI10.2⟩ ⟨K17 _ _ (by first | exact nin1 (n2) | exact nin2 (n2) | exact allc (n2) alln | simpa using n2) zD10.1, zD10.2⟩ ap bR bI hLR hR lr1 lr2 lr3) fun ra2 ents2 R2 N17 q1 q2 q3 q4 => ?_
      clear N10 F10 Nl10 zb
      walk_at "got"
      refine mkB (c - 1) _ (by lia) (fun _ zz => zz I RA D (j + 1) (nn + 1) nz bt ra2 ents2 R2 oI8 h17 _ _ F17 N17 cI8 (by lia) rfl rfl rfl rfl n1 n2 n3 q4 (by lia) q2 q3)
  intro RA nn ra ents R h8 tk8 m8 F8 N8 lf8 lt8 lr8 hra2 hra60 hLR hR
  clear F6 N6' hLR0
  have F9 := frKnown F8 [("first", .int first tf), ("top", .int top tt), ("rows", .ref RA)] (by first | exact allc lf8 (allc lt8 (allc lr8 alln)) | simp [lf8, lt8, lr8])
  clear F8
  dsimp only
  refine wpAny_execs_cons ?_
  refine cutC (LawAI5 s1 G0 L0 RA nn ra ents first tf top tt) ?_ ?_
  · intro Pz mkP
    refine for_myC (LawAI6 s1 G0 L0 RA nn ra ents first tf top tt) ?_ ?_
    · walk_at "got"
      refine wpAny_pyIter_list (PySem.IsL.isList (n := nn) (N8 _ (.head _)).1) ?_
      have fI := fresh_base F9 (Heap.get?_none_of_le (Nat.le_refl _))
      have N10 := N8.grown fun b o e => Heap.get?_push_of_some { cls := .type "list_iterator", data := .fields #[.ref RA, .int 0 0] } e
      have q1 := Nat.ne_of_lt (Heap.lt_size (N8 _ (.head _)).1)
      have q4 : ∀ p ∈ ents ++ [(150, tabObj #[])], p.1 ≠ h8.objs.size := fun p hp => Nat.ne_of_lt (Heap.lt_size (N8 p (.tail _ hp)).1)
      refine ⟨ra.length, fun _ zz => zz h8.objs.size 0 ({ cls := .type "list_iterator", data := .fields #[.ref RA, .int 0 0] }) _ _ _ (F9.push _) (?_) ⟨rfl, rfl⟩ (by lia) rfl rfl rfl q1 q4⟩
      exact allc (N10 _ (.head _)) (allc (⟨Heap.get?_push_size _ rfl, fI.1, fI.2⟩) (fun p hp => N10 _ (.tail _ hp)))
    · intro c I j oI h' tk' m F7 N7 cI hj lf lt lr n1 ap
      intro Bz mkB
      clear F9 N8
      have zR := N7 _ (.head _)
      have zI := N7 _ (.tail _ (.head _))
      have Nl : News G0 L0 h' (ents ++ [(150, tabObj #[])]) := fun p hp => N7 p (.tail _ (.tail _ hp))
      rcases Nat.eq_zero_or_pos c with rfl | hc
      · refine wpAny_pyNext_list_end rfl ⟨oI, zI.1, cI⟩ (PySem.IsL.isList zR.1) (by simp; lia) fun h8 hx => ?_
        have K8 := Keep.ofExt hx
        have F8 := frKeep1 F7 K8 zI.2
        have N8 := newsCons (newsKeep Nl K8 (fun p hp => by simpa using ap p hp)) (K8 _ _ (by first | exact nin1 (n1) | exact nin2 (n1) | exact allc (n1) alln | simpa using n1) zR.1) zR.2.1 zR.2.2
        exact mkP _ _ (fun _ zz => zz h8 tk' m F8 N8 lf lt lr)
      have hjr : j < ra.length := by lia
      refine wpAny_pyNext_list_item (x := .ref ra[j]) ⟨oI, zI.1, cI⟩ (PySem.IsL.isList zR.1) (by simp [hjr]) fun h8 hI8 hx => ?_
      refine oEA hI8 fun oI8 eI8 cI8 => ?_; (try clear hI8)
      have K8 := Keep.ofSame hx
      have F8 := frKeep1 F7 K8 zI.2
      have N8 := newsCons (newsCons (newsKeep Nl K8 (fun p hp => by simpa using ap p hp)) eI8 zI.2.1 zI.2.2) (K8 _ _ (by first | exact nin1 (n1) | exact nin2 (n1) | exact allc (n1) alln | simpa using n1) zR.1) zR.2.1 zR.2.2
      have F9 := frKnown F8 [("first", .int first tf), ("top", .int top tt), ("rows", .ref RA)] (by first | exact allc lf (allc lt (allc lr alln)) | simp [lf, lt, lr])
      clear F7 N7 F8 Nl
      dsimp only
      refine letGo_name (wpAny_assign_Name ?_)
      walk_at "got"
      rename Fr _ _ _ _ => F10
      rename News _ _ _ _ => N10
      refine oEEEEE (hLR j hjr) fun t1 t2 t3 t4 nr er => ?_
      have er := (N10 _ (.tail _ (.tail _ (List.mem_append_left _ er)))).1
      have eja : ra.getD j 0 = ra[j] := by simp [hjr]
      dsimp only at er
      rw [eja] at er
      refine read_ok (H := G0) X1 T1 F10.keep rfl (by show callerA.units + 3 + 400 < cLine; decide +kernel) (by show callerA.depth + 1 + 3 < recursionLimit; decide +kernel) er htv ht8 (hR j).1 (hR j).2.1 (hR j).2.2 ?_
      intro h11 tk11 K11
      have F11 := frKeep0 F10 K11
      have N11 := newsKeep0 N10 K11
      clear F10 N10
      (try clear F9 N8)
      walk_at "got"
      rename Fr _ _ _ _ => F12
      rename News _ _ _ _ => N12
      refine mkB (c - 1) _ (by lia) (fun _ zz => zz I (j + 1) oI8 _ _ _ F12 N12 cI8 (by lia) rfl rfl rfl n1 ap)
  intro h12 tk12 m12 F12 N12 lf12 lt12 lr12
  clear F9 N8
  have F13 := frKnown F12 [("first", .int first tf), ("top", .int top tt), ("rows", .ref RA)] (by first | exact allc lf12 (allc lt12 (allc lr12 alln)) | simp [lf12, lt12, lr12])
  clear F12
  dsimp only
  walk_at "got"
  rename Fr _ _ _ _ => F14
  rename News _ _ _ _ => N14
  (try clear F13)
  refine oEEEEAAA (law_pinit N14) fun PK nk pks entsP ePK N15 hpk4 hpks => ?_
  clear N14
  subst ePK
  refine oEA (by
    refine ⟨((PK, listOf pks.toArray nk) :: (entsP ++ (RA, listOf (ra.map Value.ref).toArray nn) :: (ents ++ [(150, tabObj #[])]))).filter (fun p => p.1 != 150), fun p hp => ?_, fun p hp hs => ?_⟩
    · rw [List.mem_filter] at hp
      exact ⟨hp.1, by simpa using hp.2⟩
    · rw [List.mem_filter]
      refine ⟨hp, ?_⟩
      have z1 := (N15 p hp).1
      have z2 := (N15 (150, tabObj #[]) (by simp)).1
      have : p.1 ≠ 150 := fun q => by
        rw [q] at z1
        dsimp only at z2
        rw [z1] at z2
        obtain ⟨vs', n', hd'⟩ := hs
        injection z2 with z2
        rw [z2] at hd'
        cases hd'
      simpa using this : ∃ KK : List (Addr × Obj), (∀ p ∈ KK, (p ∈ (PK, listOf pks.toArray nk) :: (entsP ++ (RA, listOf (ra.map Value.ref).toArray nn) :: (ents ++ [(150, tabObj #[])]))) ∧ p.1 ≠ 150) ∧ ∀ p ∈ (PK, listOf pks.toArray nk) :: (entsP ++ (RA, listOf (ra.map Value.ref).toArray nn) :: (ents ++ [(150, tabObj #[])])), (∃ vs n, p.2.data = .seq vs n) → p ∈ KK) fun KK hKK hKm => ?_
  have hPKm : (PK, listOf pks.toArray nk) ∈ KK := hKm _ (.head _) ⟨_, _, rfl⟩
  have hRAm : (RA, listOf (ra.map Value.ref).toArray nn) ∈ KK := hKm _ (by simp) ⟨_, _, rfl⟩
  have hrm : ∀ i, i < ra.length → ∃ t1 t2 t3 t4 nn, (ra.getD i 0, rowObj (R i).1 (R i).2.1 (R i).2.2 i t1 t2 t3 t4 nn) ∈ KK := fun i hi => by
    refine oEEEEE (hLR i hi) fun t1 t2 t3 t4 n' e => ?_
    exact ⟨t1, t2, t3, t4, n', hKm _ (.tail _ (List.mem_append_right _ (.tail _ (List.mem_append_left _ e)))) ⟨_, _, rfl⟩⟩
  have hpm : ∀ j, j < 4 → PkOk KK pks[j]? := fun j hj => by
    refine oEEEEAA (hpks j hj) fun P pk pvs np e1 e2 e3 => ?_
    exact ⟨P, pk, pvs, np, e1, hKm _ (by simp [e2]) ⟨_, _, rfl⟩, e3⟩
  have N16 : News G0 L0 _ ((150, tabObj #[]) :: KK) := allc (N15 _ (by simp)) (fun p hp => N15 p (hKK p hp).1)
  have hK150 : ∀ p ∈ KK, p.1 ≠ 150 := fun p hp => (hKK p hp).2
  clear N15 hKK hKm hpks hLR
  refine for_myC (LawAI7 s1 G0 L0 RA PK KK first tf top tt) ?_ ?_
  · walk_at "got"
    refine len_list (PySem.IsL.isList (n := nk) (N16 _ (.tail _ hPKm)).1) (by simp; lia) ?_
    walk_at "got"
    refine call_range_1 ?_
    walk_at "got"
    rw [show (pks.toArray.size : Int) = ((4 : Nat) : Int) by simp [hpk4]]
    refine wpAny_pyIter_range (IsRange.new ..) (small_n (by decide)) ?_
    rw [show Builtin.Range.rangeSize 0 ((4 : Nat) : Int) 1 = ((4 : Nat) : Int) by decide]
    refine ⟨4, fun _ zz => zz _ 0 (#[]) ([]) _ _ _ ((F14.push _).push _) (?_) rfl rfl rfl rfl rfl (?_) (?_) (fun _ _ _ => .inl rfl)⟩
    · intro p hp
      rcases List.mem_cons.mp hp with rfl | hp
      · have z := N16 _ (.head _)
        exact ⟨Heap.get?_push_of_some _ (Heap.get?_push_of_some _ z.1), z.2⟩
      rcases List.mem_cons.mp hp with rfl | hp
      · exact ⟨Heap.get?_push_size _ rfl, fresh_base (F14.push _) (Heap.get?_none_of_le (Nat.le_refl _))⟩
      · have z := N16 p (.tail _ hp)
        exact ⟨Heap.get?_push_of_some _ (Heap.get?_push_of_some _ z.1), z.2⟩
    · intro p hp
      refine ⟨hK150 p hp, ?_⟩
      simp only [Heap.size_push]
      exact Nat.ne_of_lt (Nat.lt_succ_of_lt (Heap.lt_size (N16 p (.tail _ hp)).1))
    · simp only [Heap.size_push]
      exact (Nat.ne_of_lt (Nat.lt_succ_of_lt (Heap.lt_size (N16 _ (.head _)).1))).symm
  · intro c I j ps extT h' tk' m F7 N7 hj lf lt lr lp ap hI1 hTab
    intro Bz mkB
    clear F14 N16
    have z15 := N7 _ (.head _)
    have zI := N7 _ (.tail _ (.head _))
    have Nl : News G0 L0 h' (extT ++ KK) := fun p hp => N7 p (.tail _ (.tail _ hp))
    rcases Nat.eq_zero_or_pos c with rfl | hc
    · refine wpAny_pyNext_range_end rfl zI.1 (by simp) fun h8 hx => ?_
      have K8 := Keep.ofExt hx
      have F8 := frKeep1 F7 K8 zI.2
      have N8 := newsCons (newsKeep Nl K8 (fun p hp => by first | exact nin1 ((ap p hp).2) | exact nin2 ((ap p hp).2) | exact allc ((ap p hp).2) alln | simpa using (ap p hp).2)) (K8 _ _ (by first | exact nin1 (hI1.symm) | exact nin2 (hI1.symm) | exact allc (hI1.symm) alln | simpa using hI1.symm) z15.1) z15.2.1 z15.2.2
      have F9 := frKnown F8 [("first", .int first tf)] (by first | exact allc lf alln | simp [lf])
      clear F7 N7 F8 Nl
      walk_at "got"
      wrow_close
    · refine wpAny_pyNext_range_item zI.1 (by lia) fun h8 hI8 hx => ?_
      have K8 := Keep.ofSame hx
      have F8 := frKeep1 F7 K8 zI.2
      have N8 : News G0 L0 h8 ((150, tabObj ps) :: (I, riObj (j + 1 : Nat) (c - 1 : Nat) 1) :: (extT ++ KK)) := newsCons (newsCons (newsKeep Nl K8 (fun p hp => by first | exact nin1 ((ap p hp).2) | exact nin2 ((ap p hp).2) | exact allc ((ap p hp).2) alln | simpa using (ap p hp).2)) (ri_ext hI8 (by lia) (by lia)) zI.2.1 zI.2.2) (K8 _ _ (by first | exact nin1 (hI1.symm) | exact nin2 (hI1.symm) | exact allc (hI1.symm) alln | simpa using hI1.symm) z15.1) z15.2.1 z15.2.2
      have F9 := frKnown F8 [("first", .int first tf), ("top", .int top tt), ("rows", .ref RA), ("picks", .ref PK)] (by first | exact allc lf (allc lt (allc lr (allc lp alln))) | simp [lf, lt, lr, lp])
      clear F7 N7 F8 Nl
      dsimp only
      refine letGo_name (wpAny_assign_Name ?_)
      walk_at "got"
      rename Fr _ _ _ _ => F10
      rename News _ _ _ _ => N10
      refine len_list (PySem.IsL.isList (n := nn) (N10 _ (.tail _ (.tail _ (List.mem_append_right _ hRAm)))).1) (by simp; lia) ?_
      walk_at "got"
      rename Fr _ _ _ _ => F11
      rename News _ _ _ _ => N11
      have hj4 : j < 4 := by lia
      refine oEEEEAAAA (hpm j hj4) fun P pk pvs np eP mP hpi hp3 hpl => ?_
      refine item_listL (l := pks) (PySem.IsL.isList (n := nk) (N11 _ (.tail _ (.tail _ (List.mem_append_right _ hPKm)))).1) (by lia) (by simp; lia) (by first | exact nin1 (eP) | exact nin2 (eP) | exact allc (eP) alln | simpa using eP) ?_
      walk_at "got"
      have hM : ∀ p ∈ KK, p ∈ (150, tabObj ps) :: (I, riObj (j + 1 : Nat) (c - 1 : Nat) 1) :: (extT ++ KK) := fun p hp => .tail _ (.tail _ (List.mem_append_right _ hp))
      have z11 := N11 _ (.head _)
      have zI11 := N11 _ (.tail _ (.head _))
      refine oEEEAA (id F11.ns) fun oL esL epL hoL hdL hrL => ?_
      have hLG : Heap.get? G0 L0 = none := Heap.get?_none_of_le F11.above
      refine pick_ok (H := G0) (La := L0) (oa := oL) (R := R) (v := v) X1 T1 F11.keep rfl (by show callerA.units + 3 + 1800 < cLine; decide +kernel) (by show callerA.depth + 1 + 14 < recursionLimit; decide +kernel) C1 (N11 _ (hM _ hRAm)).1 hra2 (by lia)
        (fun i hi => let ⟨t1, t2, t3, t4, n', e⟩ := hrm i hi; ⟨t1, t2, t3, t4, n', (N11 _ (hM _ e)).1⟩) hR htv ht8 (N11 _ (hM _ mP)).1 hpi hp3 hpl ?w0 ?w1 _ (Around.frames_deeper rfl) rfl (show ScopeKind.function ≠ ScopeKind.module by decide) hoL ⟨_, _, hdL⟩ hLG z11.1 z11.2.2
        (hTab _ F11.keep fun p hp => (N11 _ (.tail _ (.tail _ (List.mem_append_left _ hp)))).1) z11.2.1.symm ?_
      case w0 =>
        have := Int.fmod_nonneg_of_pos (first.fdiv 8 + 3 + (j : Nat)) (show (0 : Int) < ((ra.map Value.ref).toArray.size : Nat) + 3 by lia)
        omega
      case w1 =>
        have := Int.fmod_lt_of_pos (first.fdiv 8 + 3 + (j : Nat)) (show (0 : Int) < ((ra.map Value.ref).toArray.size : Nat) + 3 by lia)
        have e : (ra.map Value.ref).toArray.size = ra.length := by simp
        lia
      intro h12 tk12 sa ps' K12 eL e150 hT12
      have F12 := frFrame F11 hoL eL K12 (by first | exact nin1 (⟨hLG, z11.2.2⟩) | exact nin2 (⟨hLG, z11.2.2⟩) | exact allc (⟨hLG, z11.2.2⟩) alln | simpa using ⟨hLG, z11.2.2⟩)
      refine oEA (tab_split F12 hT12) fun extT' x1 x2 => ?_
      have hn150 : ps'[1]? = none ∨ ps'[1]? = some (rawInt 10) := by
        rcases hT12 with rfl | ⟨_, _, _, _, rfl, _⟩
        · exact .inl rfl
        · exact .inr rfl
      have ap2 : ∀ p ∈ extT' ++ KK, p.1 ≠ 150 ∧ p.1 ≠ I := fun p hp => by
        rcases List.mem_append.mp hp with hp | hp
        · refine oAEEA (x1 p hp) fun q39956z0 vs' t' hd' hv' => ?_; obtain ⟨g, _, _⟩ := q39956z0
          constructor
          · intro q
            rw [q, e150] at g
            injection g with g
            rw [← g] at hd'
            injection hd' with hd'
            rw [← hd'] at hv'
            rcases hn150 with q' | q' <;> rw [q'] at hv' <;> cases hv'
          · intro q
            rw [q, K12 _ _ (by first | exact nin1 (⟨zI11.2.1, hI1⟩) | exact nin2 (⟨zI11.2.1, hI1⟩) | exact allc (⟨zI11.2.1, hI1⟩) alln | simpa using ⟨zI11.2.1, hI1⟩) zI11.1] at g
            injection g with g
            rw [← g] at hd'
            injection hd' with hd'
            rw [← hd'] at hv'
            cases hv'
        · exact ⟨hK150 p hp, (ap p (List.mem_append_right _ hp)).2⟩
      have N12 : News G0 L0 h12 ((150, tabObj ps') :: (I, riObj (j + 1 : Nat) (c - 1 : Nat) 1) :: (extT' ++ KK)) := fun p hp => by
        rcases List.mem_cons.mp hp with rfl | hp
        · exact ⟨e150, z11.2⟩
        rcases List.mem_cons.mp hp with rfl | hp
        · exact ⟨K12 _ _ (by first | exact nin1 (⟨zI11.2.1, hI1⟩) | exact nin2 (⟨zI11.2.1, hI1⟩) | exact allc (⟨zI11.2.1, hI1⟩) alln | simpa using ⟨zI11.2.1, hI1⟩) zI11.1, zI11.2⟩
        rcases List.mem_append.mp hp with hp | hp
        · exact (x1 p hp).1
        · have z := N11 _ (hM p hp)
          exact ⟨K12 _ _ (by first | exact nin1 (⟨z.2.1, hK150 p hp⟩) | exact nin2 (⟨z.2.1, hK150 p hp⟩) | exact allc (⟨z.2.1, hK150 p hp⟩) alln | simpa using ⟨z.2.1, hK150 p hp⟩) z.1, z.2⟩
      clear F11 N11
      (try clear F10 N10)
      walk_at "got"
      rename Fr _ _ _ _ => F13
      rename News _ _ _ _ => N13
      refine mkB (c - 1) _ (by lia) (fun _ zz => zz I (j + 1) ps' extT' _ _ _ F13 N13 (by lia) rfl rfl rfl rfl ap2 hI1 x2)
end
end
end Mine
theorem PySem.Challenge.cw_mq0320_01_holds : PySem.Challenge.rw_mq0320_01.Holds := by
  exact Mine.law_holds
