import PyProof.Rows.All
import Wide.All
import OpenK.AllK
import Wide.FinOn
import Lean
import PySem.Challenge.RW_us0024_01
set_option Elab.async false
set_option maxRecDepth 100000
set_option maxHeartbeats 8000000
set_option linter.unusedVariables false
set_option genSizeOf false
set_option genInjectivity false
set_option tactic.hygienic false
set_option Elab.async true
open PySem PySem.W PyProof.Rows
theorem Mine.four {X Y Z Q : Prop} (x : X) (y : Y) (z : Z) (q : Q) : Q := q
theorem Mine.pre : ∃ (A B C D : Prop), A → B → C → D → PySem.Challenge.rw_us0024_01.Holds := ⟨_, _, _, _, fun a b c d => by
 w_on
 refine holds_law a fun said => ?_
 refine' Mine.four ?hl ?hw ?hc ?main
 case main => k_head
 case hl => exact b
 case hw => exact c
 case hc => exact d⟩
set_option Elab.async false
noncomputable abbrev Mine.K0 := Mine.pre.heap_1_1
section
namespace Mine
universe u0 u1 u2 u3 u4 u5 u6 u7 u8 u9 u10 u11 u12 u13 u14 u15 u16 u17 u18 u19
theorem el_AA {P0 : Prop} {P1 : Prop} {P2 : Prop} {G : Prop} (h : P0 ∧ P1 ∧ P2) (f : P0 → P1 → P2 → G) : G := f h.1 h.2.1 h.2.2
theorem el_AAA {P0 : Prop} {P1 : Prop} {P2 : Prop} {P3 : Prop} {G : Prop} (h : P0 ∧ P1 ∧ P2 ∧ P3) (f : P0 → P1 → P2 → P3 → G) : G := f h.1 h.2.1 h.2.2.1 h.2.2.2
theorem el_AAAA {P0 : Prop} {P1 : Prop} {P2 : Prop} {P3 : Prop} {P4 : Prop} {G : Prop} (h : P0 ∧ P1 ∧ P2 ∧ P3 ∧ P4) (f : P0 → P1 → P2 → P3 → P4 → G) : G := f h.1 h.2.1 h.2.2.1 h.2.2.2.1 h.2.2.2.2
theorem el_AAAAA {P0 : Prop} {P1 : Prop} {P2 : Prop} {P3 : Prop} {P4 : Prop} {P5 : Prop} {G : Prop} (h : P0 ∧ P1 ∧ P2 ∧ P3 ∧ P4 ∧ P5) (f : P0 → P1 → P2 → P3 → P4 → P5 → G) : G := f h.1 h.2.1 h.2.2.1 h.2.2.2.1 h.2.2.2.2.1 h.2.2.2.2.2
theorem el_AAAAAA {P0 : Prop} {P1 : Prop} {P2 : Prop} {P3 : Prop} {P4 : Prop} {P5 : Prop} {P6 : Prop} {G : Prop} (h : P0 ∧ P1 ∧ P2 ∧ P3 ∧ P4 ∧ P5 ∧ P6) (f : P0 → P1 → P2 → P3 → P4 → P5 → P6 → G) : G := f h.1 h.2.1 h.2.2.1 h.2.2.2.1 h.2.2.2.2.1 h.2.2.2.2.2.1 h.2.2.2.2.2.2
theorem el_AAAEAAA {α0 : Sort u0} {P0 : Prop} {P1 : Prop} {P2 : Prop} {P3 : α0 → Prop} {P4 : α0 → Prop} {P5 : α0 → Prop} {P6 : α0 → Prop} {G : Prop} (h : P0 ∧ P1 ∧ P2 ∧ ∃ x0 : α0, P3 x0 ∧ P4 x0 ∧ P5 x0 ∧ P6 x0) (f : ∀ (x0 : α0), P0 → P1 → P2 → P3 x0 → P4 x0 → P5 x0 → P6 x0 → G) : G := h.2.2.2.elim fun y0 q0 => f y0 h.1 h.2.1 h.2.2.1 q0.1 q0.2.1 q0.2.2.1 q0.2.2.2
theorem el_AAEA {α0 : Sort u0} {P0 : Prop} {P1 : Prop} {P2 : α0 → Prop} {P3 : α0 → Prop} {G : Prop} (h : P0 ∧ P1 ∧ ∃ x0 : α0, P2 x0 ∧ P3 x0) (f : ∀ (x0 : α0), P0 → P1 → P2 x0 → P3 x0 → G) : G := h.2.2.elim fun y0 q0 => f y0 h.1 h.2.1 q0.1 q0.2
theorem el_AAEEA {α0 : Sort u0} {α1 : Sort u1} {P0 : Prop} {P1 : Prop} {P2 : α0 → α1 → Prop} {P3 : α0 → α1 → Prop} {G : Prop} (h : P0 ∧ P1 ∧ ∃ x0 : α0, ∃ x1 : α1, P2 x0 x1 ∧ P3 x0 x1) (f : ∀ (x0 : α0) (x1 : α1), P0 → P1 → P2 x0 x1 → P3 x0 x1 → G) : G := h.2.2.elim fun y0 q0 => q0.elim fun y1 q1 => f y0 y1 h.1 h.2.1 q1.1 q1.2
theorem el_AEA {α0 : Sort u0} {P0 : Prop} {P1 : α0 → Prop} {P2 : α0 → Prop} {G : Prop} (h : P0 ∧ ∃ x0 : α0, P1 x0 ∧ P2 x0) (f : ∀ (x0 : α0), P0 → P1 x0 → P2 x0 → G) : G := h.2.elim fun y0 q0 => f y0 h.1 q0.1 q0.2
theorem el_AEAA {α0 : Sort u0} {P0 : Prop} {P1 : α0 → Prop} {P2 : α0 → Prop} {P3 : α0 → Prop} {G : Prop} (h : P0 ∧ ∃ x0 : α0, P1 x0 ∧ P2 x0 ∧ P3 x0) (f : ∀ (x0 : α0), P0 → P1 x0 → P2 x0 → P3 x0 → G) : G := h.2.elim fun y0 q0 => f y0 h.1 q0.1 q0.2.1 q0.2.2
theorem el_AEAAA {α0 : Sort u0} {P0 : Prop} {P1 : α0 → Prop} {P2 : α0 → Prop} {P3 : α0 → Prop} {P4 : α0 → Prop} {G : Prop} (h : P0 ∧ ∃ x0 : α0, P1 x0 ∧ P2 x0 ∧ P3 x0 ∧ P4 x0) (f : ∀ (x0 : α0), P0 → P1 x0 → P2 x0 → P3 x0 → P4 x0 → G) : G := h.2.elim fun y0 q0 => f y0 h.1 q0.1 q0.2.1 q0.2.2.1 q0.2.2.2
theorem el_AEEA {α0 : Sort u0} {α1 : Sort u1} {P0 : Prop} {P1 : α0 → α1 → Prop} {P2 : α0 → α1 → Prop} {G : Prop} (h : P0 ∧ ∃ x0 : α0, ∃ x1 : α1, P1 x0 x1 ∧ P2 x0 x1) (f : ∀ (x0 : α0) (x1 : α1), P0 → P1 x0 x1 → P2 x0 x1 → G) : G := h.2.elim fun y0 q0 => q0.elim fun y1 q1 => f y0 y1 h.1 q1.1 q1.2
theorem el_AEEAAA {α0 : Sort u0} {α1 : Sort u1} {P0 : Prop} {P1 : α0 → α1 → Prop} {P2 : α0 → α1 → Prop} {P3 : α0 → α1 → Prop} {P4 : α0 → α1 → Prop} {G : Prop} (h : P0 ∧ ∃ x0 : α0, ∃ x1 : α1, P1 x0 x1 ∧ P2 x0 x1 ∧ P3 x0 x1 ∧ P4 x0 x1) (f : ∀ (x0 : α0) (x1 : α1), P0 → P1 x0 x1 → P2 x0 x1 → P3 x0 x1 → P4 x0 x1 → G) : G := h.2.elim fun y0 q0 => q0.elim fun y1 q1 => f y0 y1 h.1 q1.1 q1.2.1 q1.2.2.1 q1.2.2.2
theorem el_AEEEEAA {α0 : Sort u0} {α1 : Sort u1} {α2 : Sort u2} {α3 : Sort u3} {P0 : Prop} {P1 : α0 → α1 → α2 → α3 → Prop} {P2 : α0 → α1 → α2 → α3 → Prop} {P3 : α0 → α1 → α2 → α3 → Prop} {G : Prop} (h : P0 ∧ ∃ x0 : α0, ∃ x1 : α1, ∃ x2 : α2, ∃ x3 : α3, P1 x0 x1 x2 x3 ∧ P2 x0 x1 x2 x3 ∧ P3 x0 x1 x2 x3) (f : ∀ (x0 : α0) (x1 : α1) (x2 : α2) (x3 : α3), P0 → P1 x0 x1 x2 x3 → P2 x0 x1 x2 x3 → P3 x0 x1 x2 x3 → G) : G := h.2.elim fun y0 q0 => q0.elim fun y1 q1 => q1.elim fun y2 q2 => q2.elim fun y3 q3 => f y0 y1 y2 y3 h.1 q3.1 q3.2.1 q3.2.2
theorem el_AEEEEE {α0 : Sort u0} {α1 : Sort u1} {α2 : Sort u2} {α3 : Sort u3} {α4 : Sort u4} {P0 : Prop} {P1 : α0 → α1 → α2 → α3 → α4 → Prop} {G : Prop} (h : P0 ∧ ∃ x0 : α0, ∃ x1 : α1, ∃ x2 : α2, ∃ x3 : α3, ∃ x4 : α4, P1 x0 x1 x2 x3 x4) (f : ∀ (x0 : α0) (x1 : α1) (x2 : α2) (x3 : α3) (x4 : α4), P0 → P1 x0 x1 x2 x3 x4 → G) : G := h.2.elim fun y0 q0 => q0.elim fun y1 q1 => q1.elim fun y2 q2 => q2.elim fun y3 q3 => q3.elim fun y4 q4 => f y0 y1 y2 y3 y4 h.1 q4
theorem el_AbAbAee {P0 : Prop} {P1 : Prop} {P2 : Prop} {P3 : Prop} {G : Prop} (h : ((P0 ∧ P1) ∧ P2) ∧ P3) (f : P0 → P1 → P2 → P3 → G) : G := f h.1.1.1 h.1.1.2 h.1.2 h.2
theorem el_AbEe {α0 : Sort u0} {P0 : α0 → Prop} {P1 : Prop} {G : Prop} (h : (∃ x0 : α0, P0 x0) ∧ P1) (f : ∀ (x0 : α0), P0 x0 → P1 → G) : G := h.1.elim fun y0 q0 => f y0 q0 h.2
theorem el_AbEeA {α0 : Sort u0} {P0 : α0 → Prop} {P1 : Prop} {P2 : Prop} {G : Prop} (h : (∃ x0 : α0, P0 x0) ∧ P1 ∧ P2) (f : ∀ (x0 : α0), P0 x0 → P1 → P2 → G) : G := h.1.elim fun y0 q0 => f y0 q0 h.2.1 h.2.2
theorem el_EA {α0 : Sort u0} {P0 : α0 → Prop} {P1 : α0 → Prop} {G : Prop} (h : ∃ x0 : α0, P0 x0 ∧ P1 x0) (f : ∀ (x0 : α0), P0 x0 → P1 x0 → G) : G := h.elim fun y0 q0 => f y0 q0.1 q0.2
theorem el_EAA {α0 : Sort u0} {P0 : α0 → Prop} {P1 : α0 → Prop} {P2 : α0 → Prop} {G : Prop} (h : ∃ x0 : α0, P0 x0 ∧ P1 x0 ∧ P2 x0) (f : ∀ (x0 : α0), P0 x0 → P1 x0 → P2 x0 → G) : G := h.elim fun y0 q0 => f y0 q0.1 q0.2.1 q0.2.2
theorem el_EAAA {α0 : Sort u0} {P0 : α0 → Prop} {P1 : α0 → Prop} {P2 : α0 → Prop} {P3 : α0 → Prop} {G : Prop} (h : ∃ x0 : α0, P0 x0 ∧ P1 x0 ∧ P2 x0 ∧ P3 x0) (f : ∀ (x0 : α0), P0 x0 → P1 x0 → P2 x0 → P3 x0 → G) : G := h.elim fun y0 q0 => f y0 q0.1 q0.2.1 q0.2.2.1 q0.2.2.2
theorem el_EAAAA {α0 : Sort u0} {P0 : α0 → Prop} {P1 : α0 → Prop} {P2 : α0 → Prop} {P3 : α0 → Prop} {P4 : α0 → Prop} {G : Prop} (h : ∃ x0 : α0, P0 x0 ∧ P1 x0 ∧ P2 x0 ∧ P3 x0 ∧ P4 x0) (f : ∀ (x0 : α0), P0 x0 → P1 x0 → P2 x0 → P3 x0 → P4 x0 → G) : G := h.elim fun y0 q0 => f y0 q0.1 q0.2.1 q0.2.2.1 q0.2.2.2.1 q0.2.2.2.2
theorem el_EAAAAAAA {α0 : Sort u0} {P0 : α0 → Prop} {P1 : α0 → Prop} {P2 : α0 → Prop} {P3 : α0 → Prop} {P4 : α0 → Prop} {P5 : α0 → Prop} {P6 : α0 → Prop} {P7 : α0 → Prop} {G : Prop} (h : ∃ x0 : α0, P0 x0 ∧ P1 x0 ∧ P2 x0 ∧ P3 x0 ∧ P4 x0 ∧ P5 x0 ∧ P6 x0 ∧ P7 x0) (f : ∀ (x0 : α0), P0 x0 → P1 x0 → P2 x0 → P3 x0 → P4 x0 → P5 x0 → P6 x0 → P7 x0 → G) : G := h.elim fun y0 q0 => f y0 q0.1 q0.2.1 q0.2.2.1 q0.2.2.2.1 q0.2.2.2.2.1 q0.2.2.2.2.2.1 q0.2.2.2.2.2.2.1 q0.2.2.2.2.2.2.2
theorem el_EAAE {α0 : Sort u0} {α1 : Sort u1} {P0 : α0 → Prop} {P1 : α0 → Prop} {P2 : α0 → α1 → Prop} {G : Prop} (h : ∃ x0 : α0, P0 x0 ∧ P1 x0 ∧ ∃ x1 : α1, P2 x0 x1) (f : ∀ (x0 : α0) (x1 : α1), P0 x0 → P1 x0 → P2 x0 x1 → G) : G := h.elim fun y0 q0 => q0.2.2.elim fun y1 q1 => f y0 y1 q0.1 q0.2.1 q1
theorem el_EAAr {α0 : Sort u0} {P0 : α0 → Prop} {P1 : α0 → Prop} {P2 : α0 → Prop} {G : Prop} (h : ∃ x0 : α0, P0 x0 ∧ P1 x0 ∧ P2 x0) (f : ∀ (x0 : α0), P2 x0 → P0 x0 → P1 x0 → G) : G := h.elim fun y0 q0 => f y0 q0.2.2 q0.1 q0.2.1
theorem el_EAEAr {α0 : Sort u0} {α1 : Sort u1} {P0 : α0 → Prop} {P1 : α0 → α1 → Prop} {P2 : α0 → α1 → Prop} {G : Prop} (h : ∃ x0 : α0, P0 x0 ∧ ∃ x1 : α1, P1 x0 x1 ∧ P2 x0 x1) (f : ∀ (x0 : α0) (x1 : α1), P2 x0 x1 → P0 x0 → P1 x0 x1 → G) : G := h.elim fun y0 q0 => q0.2.elim fun y1 q1 => f y0 y1 q1.2 q0.1 q1.1
theorem el_EAEr {α0 : Sort u0} {α1 : Sort u1} {P0 : α0 → Prop} {P1 : α0 → α1 → Prop} {G : Prop} (h : ∃ x0 : α0, P0 x0 ∧ ∃ x1 : α1, P1 x0 x1) (f : ∀ (x0 : α0) (x1 : α1), P1 x0 x1 → P0 x0 → G) : G := h.elim fun y0 q0 => q0.2.elim fun y1 q1 => f y0 y1 q1 q0.1
theorem el_EAr {α0 : Sort u0} {P0 : α0 → Prop} {P1 : α0 → Prop} {G : Prop} (h : ∃ x0 : α0, P0 x0 ∧ P1 x0) (f : ∀ (x0 : α0), P1 x0 → P0 x0 → G) : G := h.elim fun y0 q0 => f y0 q0.2 q0.1
theorem el_EE {α0 : Sort u0} {α1 : Sort u1} {P0 : α0 → α1 → Prop} {G : Prop} (h : ∃ x0 : α0, ∃ x1 : α1, P0 x0 x1) (f : ∀ (x0 : α0) (x1 : α1), P0 x0 x1 → G) : G := h.elim fun y0 q0 => q0.elim fun y1 q1 => f y0 y1 q1
theorem el_EEA {α0 : Sort u0} {α1 : Sort u1} {P0 : α0 → α1 → Prop} {P1 : α0 → α1 → Prop} {G : Prop} (h : ∃ x0 : α0, ∃ x1 : α1, P0 x0 x1 ∧ P1 x0 x1) (f : ∀ (x0 : α0) (x1 : α1), P0 x0 x1 → P1 x0 x1 → G) : G := h.elim fun y0 q0 => q0.elim fun y1 q1 => f y0 y1 q1.1 q1.2
theorem el_EEAA {α0 : Sort u0} {α1 : Sort u1} {P0 : α0 → α1 → Prop} {P1 : α0 → α1 → Prop} {P2 : α0 → α1 → Prop} {G : Prop} (h : ∃ x0 : α0, ∃ x1 : α1, P0 x0 x1 ∧ P1 x0 x1 ∧ P2 x0 x1) (f : ∀ (x0 : α0) (x1 : α1), P0 x0 x1 → P1 x0 x1 → P2 x0 x1 → G) : G := h.elim fun y0 q0 => q0.elim fun y1 q1 => f y0 y1 q1.1 q1.2.1 q1.2.2
theorem el_EEAAA {α0 : Sort u0} {α1 : Sort u1} {P0 : α0 → α1 → Prop} {P1 : α0 → α1 → Prop} {P2 : α0 → α1 → Prop} {P3 : α0 → α1 → Prop} {G : Prop} (h : ∃ x0 : α0, ∃ x1 : α1, P0 x0 x1 ∧ P1 x0 x1 ∧ P2 x0 x1 ∧ P3 x0 x1) (f : ∀ (x0 : α0) (x1 : α1), P0 x0 x1 → P1 x0 x1 → P2 x0 x1 → P3 x0 x1 → G) : G := h.elim fun y0 q0 => q0.elim fun y1 q1 => f y0 y1 q1.1 q1.2.1 q1.2.2.1 q1.2.2.2
theorem el_EEAAEAr {α0 : Sort u0} {α1 : Sort u1} {α2 : Sort u2} {P0 : α0 → α1 → Prop} {P1 : α0 → α1 → Prop} {P2 : α0 → α1 → α2 → Prop} {P3 : α0 → α1 → α2 → Prop} {G : Prop} (h : ∃ x0 : α0, ∃ x1 : α1, P0 x0 x1 ∧ P1 x0 x1 ∧ ∃ x2 : α2, P2 x0 x1 x2 ∧ P3 x0 x1 x2) (f : ∀ (x0 : α0) (x1 : α1) (x2 : α2), P3 x0 x1 x2 → P0 x0 x1 → P1 x0 x1 → P2 x0 x1 x2 → G) : G := h.elim fun y0 q0 => q0.elim fun y1 q1 => q1.2.2.elim fun y2 q2 => f y0 y1 y2 q2.2 q1.1 q1.2.1 q2.1
theorem el_EEAAEr {α0 : Sort u0} {α1 : Sort u1} {α2 : Sort u2} {P0 : α0 → α1 → Prop} {P1 : α0 → α1 → Prop} {P2 : α0 → α1 → α2 → Prop} {G : Prop} (h : ∃ x0 : α0, ∃ x1 : α1, P0 x0 x1 ∧ P1 x0 x1 ∧ ∃ x2 : α2, P2 x0 x1 x2) (f : ∀ (x0 : α0) (x1 : α1) (x2 : α2), P2 x0 x1 x2 → P0 x0 x1 → P1 x0 x1 → G) : G := h.elim fun y0 q0 => q0.elim fun y1 q1 => q1.2.2.elim fun y2 q2 => f y0 y1 y2 q2 q1.1 q1.2.1
theorem el_EEAAbAAe {α0 : Sort u0} {α1 : Sort u1} {P0 : α0 → α1 → Prop} {P1 : α0 → α1 → Prop} {P2 : α0 → α1 → Prop} {P3 : α0 → α1 → Prop} {P4 : α0 → α1 → Prop} {G : Prop} (h : ∃ x0 : α0, ∃ x1 : α1, P0 x0 x1 ∧ (P1 x0 x1 ∧ P2 x0 x1 ∧ P3 x0 x1) ∧ P4 x0 x1) (f : ∀ (x0 : α0) (x1 : α1), P0 x0 x1 → P1 x0 x1 → P2 x0 x1 → P3 x0 x1 → P4 x0 x1 → G) : G := h.elim fun y0 q0 => q0.elim fun y1 q1 => f y0 y1 q1.1 q1.2.1.1 q1.2.1.2.1 q1.2.1.2.2 q1.2.2
theorem el_EEAAbAEAe {α0 : Sort u0} {α1 : Sort u1} {α2 : Sort u2} {P0 : α0 → α1 → Prop} {P1 : α0 → α1 → Prop} {P2 : α0 → α1 → α2 → Prop} {P3 : α0 → α1 → α2 → Prop} {P4 : α0 → α1 → Prop} {G : Prop} (h : ∃ x0 : α0, ∃ x1 : α1, P0 x0 x1 ∧ (P1 x0 x1 ∧ ∃ x2 : α2, P2 x0 x1 x2 ∧ P3 x0 x1 x2) ∧ P4 x0 x1) (f : ∀ (x0 : α0) (x1 : α1) (x2 : α2), P0 x0 x1 → P1 x0 x1 → P2 x0 x1 x2 → P3 x0 x1 x2 → P4 x0 x1 → G) : G := h.elim fun y0 q0 => q0.elim fun y1 q1 => q1.2.1.2.elim fun y2 q2 => f y0 y1 y2 q1.1 q1.2.1.1 q2.1 q2.2 q1.2.2
theorem el_EEAAbEAe {α0 : Sort u0} {α1 : Sort u1} {α2 : Sort u2} {P0 : α0 → α1 → Prop} {P1 : α0 → α1 → α2 → Prop} {P2 : α0 → α1 → α2 → Prop} {P3 : α0 → α1 → Prop} {G : Prop} (h : ∃ x0 : α0, ∃ x1 : α1, P0 x0 x1 ∧ (∃ x2 : α2, P1 x0 x1 x2 ∧ P2 x0 x1 x2) ∧ P3 x0 x1) (f : ∀ (x0 : α0) (x1 : α1) (x2 : α2), P0 x0 x1 → P1 x0 x1 x2 → P2 x0 x1 x2 → P3 x0 x1 → G) : G := h.elim fun y0 q0 => q0.elim fun y1 q1 => q1.2.1.elim fun y2 q2 => f y0 y1 y2 q1.1 q2.1 q2.2 q1.2.2
theorem el_EEAAbEEAe {α0 : Sort u0} {α1 : Sort u1} {α2 : Sort u2} {α3 : Sort u3} {P0 : α0 → α1 → Prop} {P1 : α0 → α1 → α2 → α3 → Prop} {P2 : α0 → α1 → α2 → α3 → Prop} {P3 : α0 → α1 → Prop} {G : Prop} (h : ∃ x0 : α0, ∃ x1 : α1, P0 x0 x1 ∧ (∃ x2 : α2, ∃ x3 : α3, P1 x0 x1 x2 x3 ∧ P2 x0 x1 x2 x3) ∧ P3 x0 x1) (f : ∀ (x0 : α0) (x1 : α1) (x2 : α2) (x3 : α3), P0 x0 x1 → P1 x0 x1 x2 x3 → P2 x0 x1 x2 x3 → P3 x0 x1 → G) : G := h.elim fun y0 q0 => q0.elim fun y1 q1 => q1.2.1.elim fun y2 q2 => q2.elim fun y3 q3 => f y0 y1 y2 y3 q1.1 q3.1 q3.2 q1.2.2
theorem el_EEAAbEERe {α0 : Sort u0} {α1 : Sort u1} {α2 : Sort u2} {α3 : Sort u3} {P0 : α0 → α1 → Prop} {P1 : α0 → α1 → α2 → α3 → Prop} {P2 : α0 → α1 → α2 → α3 → Prop} {P3 : α0 → α1 → Prop} {G : Prop} (h : ∃ x0 : α0, ∃ x1 : α1, P0 x0 x1 ∧ (∃ x2 : α2, ∃ x3 : α3, P1 x0 x1 x2 x3 ∧ P2 x0 x1 x2 x3) ∧ P3 x0 x1) (f : ∀ (x0 : α0) (x1 : α1) (x2 : α2) (x3 : α3), P1 x0 x1 x2 x3 → P0 x0 x1 → P2 x0 x1 x2 x3 → P3 x0 x1 → G) : G := h.elim fun y0 q0 => q0.elim fun y1 q1 => q1.2.1.elim fun y2 q2 => q2.elim fun y3 q3 => f y0 y1 y2 y3 q3.1 q1.1 q3.2 q1.2.2
theorem el_EEAAbERe {α0 : Sort u0} {α1 : Sort u1} {α2 : Sort u2} {P0 : α0 → α1 → Prop} {P1 : α0 → α1 → α2 → Prop} {P2 : α0 → α1 → α2 → Prop} {P3 : α0 → α1 → Prop} {G : Prop} (h : ∃ x0 : α0, ∃ x1 : α1, P0 x0 x1 ∧ (∃ x2 : α2, P1 x0 x1 x2 ∧ P2 x0 x1 x2) ∧ P3 x0 x1) (f : ∀ (x0 : α0) (x1 : α1) (x2 : α2), P1 x0 x1 x2 → P0 x0 x1 → P2 x0 x1 x2 → P3 x0 x1 → G) : G := h.elim fun y0 q0 => q0.elim fun y1 q1 => q1.2.1.elim fun y2 q2 => f y0 y1 y2 q2.1 q1.1 q2.2 q1.2.2
theorem el_EEAAbREre {α0 : Sort u0} {α1 : Sort u1} {α2 : Sort u2} {P0 : α0 → α1 → Prop} {P1 : α0 → α1 → Prop} {P2 : α0 → α1 → α2 → Prop} {P3 : α0 → α1 → Prop} {G : Prop} (h : ∃ x0 : α0, ∃ x1 : α1, P0 x0 x1 ∧ (P1 x0 x1 ∧ ∃ x2 : α2, P2 x0 x1 x2) ∧ P3 x0 x1) (f : ∀ (x0 : α0) (x1 : α1) (x2 : α2), P1 x0 x1 → P2 x0 x1 x2 → P0 x0 x1 → P3 x0 x1 → G) : G := h.elim fun y0 q0 => q0.elim fun y1 q1 => q1.2.1.2.elim fun y2 q2 => f y0 y1 y2 q1.2.1.1 q2 q1.1 q1.2.2
theorem el_EEAAbRREEAe {α0 : Sort u0} {α1 : Sort u1} {α2 : Sort u2} {α3 : Sort u3} {P0 : α0 → α1 → Prop} {P1 : α0 → α1 → Prop} {P2 : α0 → α1 → Prop} {P3 : α0 → α1 → α2 → α3 → Prop} {P4 : α0 → α1 → α2 → α3 → Prop} {P5 : α0 → α1 → Prop} {G : Prop} (h : ∃ x0 : α0, ∃ x1 : α1, P0 x0 x1 ∧ (P1 x0 x1 ∧ P2 x0 x1 ∧ ∃ x2 : α2, ∃ x3 : α3, P3 x0 x1 x2 x3 ∧ P4 x0 x1 x2 x3) ∧ P5 x0 x1) (f : ∀ (x0 : α0) (x1 : α1) (x2 : α2) (x3 : α3), P1 x0 x1 → P2 x0 x1 → P0 x0 x1 → P3 x0 x1 x2 x3 → P4 x0 x1 x2 x3 → P5 x0 x1 → G) : G := h.elim fun y0 q0 => q0.elim fun y1 q1 => q1.2.1.2.2.elim fun y2 q2 => q2.elim fun y3 q3 => f y0 y1 y2 y3 q1.2.1.1 q1.2.1.2.1 q1.1 q3.1 q3.2 q1.2.2
theorem el_EEAAbRRe {α0 : Sort u0} {α1 : Sort u1} {P0 : α0 → α1 → Prop} {P1 : α0 → α1 → Prop} {P2 : α0 → α1 → Prop} {P3 : α0 → α1 → Prop} {P4 : α0 → α1 → Prop} {G : Prop} (h : ∃ x0 : α0, ∃ x1 : α1, P0 x0 x1 ∧ (P1 x0 x1 ∧ P2 x0 x1 ∧ P3 x0 x1) ∧ P4 x0 x1) (f : ∀ (x0 : α0) (x1 : α1), P1 x0 x1 → P2 x0 x1 → P0 x0 x1 → P3 x0 x1 → P4 x0 x1 → G) : G := h.elim fun y0 q0 => q0.elim fun y1 q1 => f y0 y1 q1.2.1.1 q1.2.1.2.1 q1.1 q1.2.1.2.2 q1.2.2
theorem el_EEAAbRe {α0 : Sort u0} {α1 : Sort u1} {P0 : α0 → α1 → Prop} {P1 : α0 → α1 → Prop} {P2 : α0 → α1 → Prop} {P3 : α0 → α1 → Prop} {G : Prop} (h : ∃ x0 : α0, ∃ x1 : α1, P0 x0 x1 ∧ (P1 x0 x1 ∧ P2 x0 x1) ∧ P3 x0 x1) (f : ∀ (x0 : α0) (x1 : α1), P1 x0 x1 → P0 x0 x1 → P2 x0 x1 → P3 x0 x1 → G) : G := h.elim fun y0 q0 => q0.elim fun y1 q1 => f y0 y1 q1.2.1.1 q1.1 q1.2.1.2 q1.2.2
theorem el_EEAAbRre {α0 : Sort u0} {α1 : Sort u1} {P0 : α0 → α1 → Prop} {P1 : α0 → α1 → Prop} {P2 : α0 → α1 → Prop} {P3 : α0 → α1 → Prop} {G : Prop} (h : ∃ x0 : α0, ∃ x1 : α1, P0 x0 x1 ∧ (P1 x0 x1 ∧ P2 x0 x1) ∧ P3 x0 x1) (f : ∀ (x0 : α0) (x1 : α1), P1 x0 x1 → P2 x0 x1 → P0 x0 x1 → P3 x0 x1 → G) : G := h.elim fun y0 q0 => q0.elim fun y1 q1 => f y0 y1 q1.2.1.1 q1.2.1.2 q1.1 q1.2.2
theorem el_EEAr {α0 : Sort u0} {α1 : Sort u1} {P0 : α0 → α1 → Prop} {P1 : α0 → α1 → Prop} {G : Prop} (h : ∃ x0 : α0, ∃ x1 : α1, P0 x0 x1 ∧ P1 x0 x1) (f : ∀ (x0 : α0) (x1 : α1), P1 x0 x1 → P0 x0 x1 → G) : G := h.elim fun y0 q0 => q0.elim fun y1 q1 => f y0 y1 q1.2 q1.1
theorem el_EEE {α0 : Sort u0} {α1 : Sort u1} {α2 : Sort u2} {P0 : α0 → α1 → α2 → Prop} {G : Prop} (h : ∃ x0 : α0, ∃ x1 : α1, ∃ x2 : α2, P0 x0 x1 x2) (f : ∀ (x0 : α0) (x1 : α1) (x2 : α2), P0 x0 x1 x2 → G) : G := h.elim fun y0 q0 => q0.elim fun y1 q1 => q1.elim fun y2 q2 => f y0 y1 y2 q2
theorem el_EEEA {α0 : Sort u0} {α1 : Sort u1} {α2 : Sort u2} {P0 : α0 → α1 → α2 → Prop} {P1 : α0 → α1 → α2 → Prop} {G : Prop} (h : ∃ x0 : α0, ∃ x1 : α1, ∃ x2 : α2, P0 x0 x1 x2 ∧ P1 x0 x1 x2) (f : ∀ (x0 : α0) (x1 : α1) (x2 : α2), P0 x0 x1 x2 → P1 x0 x1 x2 → G) : G := h.elim fun y0 q0 => q0.elim fun y1 q1 => q1.elim fun y2 q2 => f y0 y1 y2 q2.1 q2.2
theorem el_EEEAA {α0 : Sort u0} {α1 : Sort u1} {α2 : Sort u2} {P0 : α0 → α1 → α2 → Prop} {P1 : α0 → α1 → α2 → Prop} {P2 : α0 → α1 → α2 → Prop} {G : Prop} (h : ∃ x0 : α0, ∃ x1 : α1, ∃ x2 : α2, P0 x0 x1 x2 ∧ P1 x0 x1 x2 ∧ P2 x0 x1 x2) (f : ∀ (x0 : α0) (x1 : α1) (x2 : α2), P0 x0 x1 x2 → P1 x0 x1 x2 → P2 x0 x1 x2 → G) : G := h.elim fun y0 q0 => q0.elim fun y1 q1 => q1.elim fun y2 q2 => f y0 y1 y2 q2.1 q2.2.1 q2.2.2
theorem el_EEEAAA {α0 : Sort u0} {α1 : Sort u1} {α2 : Sort u2} {P0 : α0 → α1 → α2 → Prop} {P1 : α0 → α1 → α2 → Prop} {P2 : α0 → α1 → α2 → Prop} {P3 : α0 → α1 → α2 → Prop} {G : Prop} (h : ∃ x0 : α0, ∃ x1 : α1, ∃ x2 : α2, P0 x0 x1 x2 ∧ P1 x0 x1 x2 ∧ P2 x0 x1 x2 ∧ P3 x0 x1 x2) (f : ∀ (x0 : α0) (x1 : α1) (x2 : α2), P0 x0 x1 x2 → P1 x0 x1 x2 → P2 x0 x1 x2 → P3 x0 x1 x2 → G) : G := h.elim fun y0 q0 => q0.elim fun y1 q1 => q1.elim fun y2 q2 => f y0 y1 y2 q2.1 q2.2.1 q2.2.2.1 q2.2.2.2
theorem el_EEEAAAA {α0 : Sort u0} {α1 : Sort u1} {α2 : Sort u2} {P0 : α0 → α1 → α2 → Prop} {P1 : α0 → α1 → α2 → Prop} {P2 : α0 → α1 → α2 → Prop} {P3 : α0 → α1 → α2 → Prop} {P4 : α0 → α1 → α2 → Prop} {G : Prop} (h : ∃ x0 : α0, ∃ x1 : α1, ∃ x2 : α2, P0 x0 x1 x2 ∧ P1 x0 x1 x2 ∧ P2 x0 x1 x2 ∧ P3 x0 x1 x2 ∧ P4 x0 x1 x2) (f : ∀ (x0 : α0) (x1 : α1) (x2 : α2), P0 x0 x1 x2 → P1 x0 x1 x2 → P2 x0 x1 x2 → P3 x0 x1 x2 → P4 x0 x1 x2 → G) : G := h.elim fun y0 q0 => q0.elim fun y1 q1 => q1.elim fun y2 q2 => f y0 y1 y2 q2.1 q2.2.1 q2.2.2.1 q2.2.2.2.1 q2.2.2.2.2
theorem el_EEEAAAAA {α0 : Sort u0} {α1 : Sort u1} {α2 : Sort u2} {P0 : α0 → α1 → α2 → Prop} {P1 : α0 → α1 → α2 → Prop} {P2 : α0 → α1 → α2 → Prop} {P3 : α0 → α1 → α2 → Prop} {P4 : α0 → α1 → α2 → Prop} {P5 : α0 → α1 → α2 → Prop} {G : Prop} (h : ∃ x0 : α0, ∃ x1 : α1, ∃ x2 : α2, P0 x0 x1 x2 ∧ P1 x0 x1 x2 ∧ P2 x0 x1 x2 ∧ P3 x0 x1 x2 ∧ P4 x0 x1 x2 ∧ P5 x0 x1 x2) (f : ∀ (x0 : α0) (x1 : α1) (x2 : α2), P0 x0 x1 x2 → P1 x0 x1 x2 → P2 x0 x1 x2 → P3 x0 x1 x2 → P4 x0 x1 x2 → P5 x0 x1 x2 → G) : G := h.elim fun y0 q0 => q0.elim fun y1 q1 => q1.elim fun y2 q2 => f y0 y1 y2 q2.1 q2.2.1 q2.2.2.1 q2.2.2.2.1 q2.2.2.2.2.1 q2.2.2.2.2.2
theorem el_EEEAAAbAEReA {α0 : Sort u0} {α1 : Sort u1} {α2 : Sort u2} {α3 : Sort u3} {P0 : α0 → α1 → α2 → Prop} {P1 : α0 → α1 → α2 → Prop} {P2 : α0 → α1 → α2 → Prop} {P3 : α0 → α1 → α2 → α3 → Prop} {P4 : α0 → α1 → α2 → α3 → Prop} {P5 : α0 → α1 → α2 → Prop} {P6 : α0 → α1 → α2 → Prop} {G : Prop} (h : ∃ x0 : α0, ∃ x1 : α1, ∃ x2 : α2, P0 x0 x1 x2 ∧ P1 x0 x1 x2 ∧ (P2 x0 x1 x2 ∧ ∃ x3 : α3, P3 x0 x1 x2 x3 ∧ P4 x0 x1 x2 x3) ∧ P5 x0 x1 x2 ∧ P6 x0 x1 x2) (f : ∀ (x0 : α0) (x1 : α1) (x2 : α2) (x3 : α3), P3 x0 x1 x2 x3 → P0 x0 x1 x2 → P1 x0 x1 x2 → P2 x0 x1 x2 → P4 x0 x1 x2 x3 → P5 x0 x1 x2 → P6 x0 x1 x2 → G) : G := h.elim fun y0 q0 => q0.elim fun y1 q1 => q1.elim fun y2 q2 => q2.2.2.1.2.elim fun y3 q3 => f y0 y1 y2 y3 q3.1 q2.1 q2.2.1 q2.2.2.1.1 q3.2 q2.2.2.2.1 q2.2.2.2.2
theorem el_EEEE {α0 : Sort u0} {α1 : Sort u1} {α2 : Sort u2} {α3 : Sort u3} {P0 : α0 → α1 → α2 → α3 → Prop} {G : Prop} (h : ∃ x0 : α0, ∃ x1 : α1, ∃ x2 : α2, ∃ x3 : α3, P0 x0 x1 x2 x3) (f : ∀ (x0 : α0) (x1 : α1) (x2 : α2) (x3 : α3), P0 x0 x1 x2 x3 → G) : G := h.elim fun y0 q0 => q0.elim fun y1 q1 => q1.elim fun y2 q2 => q2.elim fun y3 q3 => f y0 y1 y2 y3 q3
theorem el_EEEEA {α0 : Sort u0} {α1 : Sort u1} {α2 : Sort u2} {α3 : Sort u3} {P0 : α0 → α1 → α2 → α3 → Prop} {P1 : α0 → α1 → α2 → α3 → Prop} {G : Prop} (h : ∃ x0 : α0, ∃ x1 : α1, ∃ x2 : α2, ∃ x3 : α3, P0 x0 x1 x2 x3 ∧ P1 x0 x1 x2 x3) (f : ∀ (x0 : α0) (x1 : α1) (x2 : α2) (x3 : α3), P0 x0 x1 x2 x3 → P1 x0 x1 x2 x3 → G) : G := h.elim fun y0 q0 => q0.elim fun y1 q1 => q1.elim fun y2 q2 => q2.elim fun y3 q3 => f y0 y1 y2 y3 q3.1 q3.2
theorem el_EEEEAA {α0 : Sort u0} {α1 : Sort u1} {α2 : Sort u2} {α3 : Sort u3} {P0 : α0 → α1 → α2 → α3 → Prop} {P1 : α0 → α1 → α2 → α3 → Prop} {P2 : α0 → α1 → α2 → α3 → Prop} {G : Prop} (h : ∃ x0 : α0, ∃ x1 : α1, ∃ x2 : α2, ∃ x3 : α3, P0 x0 x1 x2 x3 ∧ P1 x0 x1 x2 x3 ∧ P2 x0 x1 x2 x3) (f : ∀ (x0 : α0) (x1 : α1) (x2 : α2) (x3 : α3), P0 x0 x1 x2 x3 → P1 x0 x1 x2 x3 → P2 x0 x1 x2 x3 → G) : G := h.elim fun y0 q0 => q0.elim fun y1 q1 => q1.elim fun y2 q2 => q2.elim fun y3 q3 => f y0 y1 y2 y3 q3.1 q3.2.1 q3.2.2
theorem el_EEEEAAA {α0 : Sort u0} {α1 : Sort u1} {α2 : Sort u2} {α3 : Sort u3} {P0 : α0 → α1 → α2 → α3 → Prop} {P1 : α0 → α1 → α2 → α3 → Prop} {P2 : α0 → α1 → α2 → α3 → Prop} {P3 : α0 → α1 → α2 → α3 → Prop} {G : Prop} (h : ∃ x0 : α0, ∃ x1 : α1, ∃ x2 : α2, ∃ x3 : α3, P0 x0 x1 x2 x3 ∧ P1 x0 x1 x2 x3 ∧ P2 x0 x1 x2 x3 ∧ P3 x0 x1 x2 x3) (f : ∀ (x0 : α0) (x1 : α1) (x2 : α2) (x3 : α3), P0 x0 x1 x2 x3 → P1 x0 x1 x2 x3 → P2 x0 x1 x2 x3 → P3 x0 x1 x2 x3 → G) : G := h.elim fun y0 q0 => q0.elim fun y1 q1 => q1.elim fun y2 q2 => q2.elim fun y3 q3 => f y0 y1 y2 y3 q3.1 q3.2.1 q3.2.2.1 q3.2.2.2
theorem el_EEEEAAAA {α0 : Sort u0} {α1 : Sort u1} {α2 : Sort u2} {α3 : Sort u3} {P0 : α0 → α1 → α2 → α3 → Prop} {P1 : α0 → α1 → α2 → α3 → Prop} {P2 : α0 → α1 → α2 → α3 → Prop} {P3 : α0 → α1 → α2 → α3 → Prop} {P4 : α0 → α1 → α2 → α3 → Prop} {G : Prop} (h : ∃ x0 : α0, ∃ x1 : α1, ∃ x2 : α2, ∃ x3 : α3, P0 x0 x1 x2 x3 ∧ P1 x0 x1 x2 x3 ∧ P2 x0 x1 x2 x3 ∧ P3 x0 x1 x2 x3 ∧ P4 x0 x1 x2 x3) (f : ∀ (x0 : α0) (x1 : α1) (x2 : α2) (x3 : α3), P0 x0 x1 x2 x3 → P1 x0 x1 x2 x3 → P2 x0 x1 x2 x3 → P3 x0 x1 x2 x3 → P4 x0 x1 x2 x3 → G) : G := h.elim fun y0 q0 => q0.elim fun y1 q1 => q1.elim fun y2 q2 => q2.elim fun y3 q3 => f y0 y1 y2 y3 q3.1 q3.2.1 q3.2.2.1 q3.2.2.2.1 q3.2.2.2.2
theorem el_EEEEEA {α0 : Sort u0} {α1 : Sort u1} {α2 : Sort u2} {α3 : Sort u3} {α4 : Sort u4} {P0 : α0 → α1 → α2 → α3 → α4 → Prop} {P1 : α0 → α1 → α2 → α3 → α4 → Prop} {G : Prop} (h : ∃ x0 : α0, ∃ x1 : α1, ∃ x2 : α2, ∃ x3 : α3, ∃ x4 : α4, P0 x0 x1 x2 x3 x4 ∧ P1 x0 x1 x2 x3 x4) (f : ∀ (x0 : α0) (x1 : α1) (x2 : α2) (x3 : α3) (x4 : α4), P0 x0 x1 x2 x3 x4 → P1 x0 x1 x2 x3 x4 → G) : G := h.elim fun y0 q0 => q0.elim fun y1 q1 => q1.elim fun y2 q2 => q2.elim fun y3 q3 => q3.elim fun y4 q4 => f y0 y1 y2 y3 y4 q4.1 q4.2
theorem el_EEEEEAA {α0 : Sort u0} {α1 : Sort u1} {α2 : Sort u2} {α3 : Sort u3} {α4 : Sort u4} {P0 : α0 → α1 → α2 → α3 → α4 → Prop} {P1 : α0 → α1 → α2 → α3 → α4 → Prop} {P2 : α0 → α1 → α2 → α3 → α4 → Prop} {G : Prop} (h : ∃ x0 : α0, ∃ x1 : α1, ∃ x2 : α2, ∃ x3 : α3, ∃ x4 : α4, P0 x0 x1 x2 x3 x4 ∧ P1 x0 x1 x2 x3 x4 ∧ P2 x0 x1 x2 x3 x4) (f : ∀ (x0 : α0) (x1 : α1) (x2 : α2) (x3 : α3) (x4 : α4), P0 x0 x1 x2 x3 x4 → P1 x0 x1 x2 x3 x4 → P2 x0 x1 x2 x3 x4 → G) : G := h.elim fun y0 q0 => q0.elim fun y1 q1 => q1.elim fun y2 q2 => q2.elim fun y3 q3 => q3.elim fun y4 q4 => f y0 y1 y2 y3 y4 q4.1 q4.2.1 q4.2.2
theorem el_EEEEEAAA {α0 : Sort u0} {α1 : Sort u1} {α2 : Sort u2} {α3 : Sort u3} {α4 : Sort u4} {P0 : α0 → α1 → α2 → α3 → α4 → Prop} {P1 : α0 → α1 → α2 → α3 → α4 → Prop} {P2 : α0 → α1 → α2 → α3 → α4 → Prop} {P3 : α0 → α1 → α2 → α3 → α4 → Prop} {G : Prop} (h : ∃ x0 : α0, ∃ x1 : α1, ∃ x2 : α2, ∃ x3 : α3, ∃ x4 : α4, P0 x0 x1 x2 x3 x4 ∧ P1 x0 x1 x2 x3 x4 ∧ P2 x0 x1 x2 x3 x4 ∧ P3 x0 x1 x2 x3 x4) (f : ∀ (x0 : α0) (x1 : α1) (x2 : α2) (x3 : α3) (x4 : α4), P0 x0 x1 x2 x3 x4 → P1 x0 x1 x2 x3 x4 → P2 x0 x1 x2 x3 x4 → P3 x0 x1 x2 x3 x4 → G) : G := h.elim fun y0 q0 => q0.elim fun y1 q1 => q1.elim fun y2 q2 => q2.elim fun y3 q3 => q3.elim fun y4 q4 => f y0 y1 y2 y3 y4 q4.1 q4.2.1 q4.2.2.1 q4.2.2.2
theorem el_EEEEEAAAR {α0 : Sort u0} {α1 : Sort u1} {α2 : Sort u2} {α3 : Sort u3} {α4 : Sort u4} {P0 : α0 → α1 → α2 → α3 → α4 → Prop} {P1 : α0 → α1 → α2 → α3 → α4 → Prop} {P2 : α0 → α1 → α2 → α3 → α4 → Prop} {P3 : α0 → α1 → α2 → α3 → α4 → Prop} {P4 : α0 → α1 → α2 → α3 → α4 → Prop} {G : Prop} (h : ∃ x0 : α0, ∃ x1 : α1, ∃ x2 : α2, ∃ x3 : α3, ∃ x4 : α4, P0 x0 x1 x2 x3 x4 ∧ P1 x0 x1 x2 x3 x4 ∧ P2 x0 x1 x2 x3 x4 ∧ P3 x0 x1 x2 x3 x4 ∧ P4 x0 x1 x2 x3 x4) (f : ∀ (x0 : α0) (x1 : α1) (x2 : α2) (x3 : α3) (x4 : α4), P3 x0 x1 x2 x3 x4 → P0 x0 x1 x2 x3 x4 → P1 x0 x1 x2 x3 x4 → P2 x0 x1 x2 x3 x4 → P4 x0 x1 x2 x3 x4 → G) : G := h.elim fun y0 q0 => q0.elim fun y1 q1 => q1.elim fun y2 q2 => q2.elim fun y3 q3 => q3.elim fun y4 q4 => f y0 y1 y2 y3 y4 q4.2.2.2.1 q4.1 q4.2.1 q4.2.2.1 q4.2.2.2.2
theorem el_EEEEEAbEEreAA {α0 : Sort u0} {α1 : Sort u1} {α2 : Sort u2} {α3 : Sort u3} {α4 : Sort u4} {α5 : Sort u5} {α6 : Sort u6} {P0 : α0 → α1 → α2 → α3 → α4 → α5 → α6 → Prop} {P1 : α0 → α1 → α2 → α3 → α4 → Prop} {P2 : α0 → α1 → α2 → α3 → α4 → Prop} {P3 : α0 → α1 → α2 → α3 → α4 → Prop} {G : Prop} (h : ∃ x0 : α0, ∃ x1 : α1, ∃ x2 : α2, ∃ x3 : α3, ∃ x4 : α4, (∃ x5 : α5, ∃ x6 : α6, P0 x0 x1 x2 x3 x4 x5 x6) ∧ P1 x0 x1 x2 x3 x4 ∧ P2 x0 x1 x2 x3 x4 ∧ P3 x0 x1 x2 x3 x4) (f : ∀ (x0 : α0) (x1 : α1) (x2 : α2) (x3 : α3) (x4 : α4) (x5 : α5) (x6 : α6), P0 x0 x1 x2 x3 x4 x5 x6 → P1 x0 x1 x2 x3 x4 → P2 x0 x1 x2 x3 x4 → P3 x0 x1 x2 x3 x4 → G) : G := h.elim fun y0 q0 => q0.elim fun y1 q1 => q1.elim fun y2 q2 => q2.elim fun y3 q3 => q3.elim fun y4 q4 => q4.1.elim fun y5 q5 => q5.elim fun y6 q6 => f y0 y1 y2 y3 y4 y5 y6 q6 q4.2.1 q4.2.2.1 q4.2.2.2
theorem el_EEEEEEAAAAAAA {α0 : Sort u0} {α1 : Sort u1} {α2 : Sort u2} {α3 : Sort u3} {α4 : Sort u4} {α5 : Sort u5} {P0 : α0 → α1 → α2 → α3 → α4 → α5 → Prop} {P1 : α0 → α1 → α2 → α3 → α4 → α5 → Prop} {P2 : α0 → α1 → α2 → α3 → α4 → α5 → Prop} {P3 : α0 → α1 → α2 → α3 → α4 → α5 → Prop} {P4 : α0 → α1 → α2 → α3 → α4 → α5 → Prop} {P5 : α0 → α1 → α2 → α3 → α4 → α5 → Prop} {P6 : α0 → α1 → α2 → α3 → α4 → α5 → Prop} {P7 : α0 → α1 → α2 → α3 → α4 → α5 → Prop} {G : Prop} (h : ∃ x0 : α0, ∃ x1 : α1, ∃ x2 : α2, ∃ x3 : α3, ∃ x4 : α4, ∃ x5 : α5, P0 x0 x1 x2 x3 x4 x5 ∧ P1 x0 x1 x2 x3 x4 x5 ∧ P2 x0 x1 x2 x3 x4 x5 ∧ P3 x0 x1 x2 x3 x4 x5 ∧ P4 x0 x1 x2 x3 x4 x5 ∧ P5 x0 x1 x2 x3 x4 x5 ∧ P6 x0 x1 x2 x3 x4 x5 ∧ P7 x0 x1 x2 x3 x4 x5) (f : ∀ (x0 : α0) (x1 : α1) (x2 : α2) (x3 : α3) (x4 : α4) (x5 : α5), P0 x0 x1 x2 x3 x4 x5 → P1 x0 x1 x2 x3 x4 x5 → P2 x0 x1 x2 x3 x4 x5 → P3 x0 x1 x2 x3 x4 x5 → P4 x0 x1 x2 x3 x4 x5 → P5 x0 x1 x2 x3 x4 x5 → P6 x0 x1 x2 x3 x4 x5 → P7 x0 x1 x2 x3 x4 x5 → G) : G := h.elim fun y0 q0 => q0.elim fun y1 q1 => q1.elim fun y2 q2 => q2.elim fun y3 q3 => q3.elim fun y4 q4 => q4.elim fun y5 q5 => f y0 y1 y2 y3 y4 y5 q5.1 q5.2.1 q5.2.2.1 q5.2.2.2.1 q5.2.2.2.2.1 q5.2.2.2.2.2.1 q5.2.2.2.2.2.2.1 q5.2.2.2.2.2.2.2
theorem el_EEEEEERAA {α0 : Sort u0} {α1 : Sort u1} {α2 : Sort u2} {α3 : Sort u3} {α4 : Sort u4} {α5 : Sort u5} {P0 : α0 → α1 → α2 → α3 → α4 → α5 → Prop} {P1 : α0 → α1 → α2 → α3 → α4 → α5 → Prop} {P2 : α0 → α1 → α2 → α3 → α4 → α5 → Prop} {P3 : α0 → α1 → α2 → α3 → α4 → α5 → Prop} {G : Prop} (h : ∃ x0 : α0, ∃ x1 : α1, ∃ x2 : α2, ∃ x3 : α3, ∃ x4 : α4, ∃ x5 : α5, P0 x0 x1 x2 x3 x4 x5 ∧ P1 x0 x1 x2 x3 x4 x5 ∧ P2 x0 x1 x2 x3 x4 x5 ∧ P3 x0 x1 x2 x3 x4 x5) (f : ∀ (x0 : α0) (x1 : α1) (x2 : α2) (x3 : α3) (x4 : α4) (x5 : α5), P0 x0 x1 x2 x3 x4 x5 → P1 x0 x1 x2 x3 x4 x5 → P2 x0 x1 x2 x3 x4 x5 → P3 x0 x1 x2 x3 x4 x5 → G) : G := h.elim fun y0 q0 => q0.elim fun y1 q1 => q1.elim fun y2 q2 => q2.elim fun y3 q3 => q3.elim fun y4 q4 => q4.elim fun y5 q5 => f y0 y1 y2 y3 y4 y5 q5.1 q5.2.1 q5.2.2.1 q5.2.2.2
theorem el_EEEEEERAAAAAbEEReA {α0 : Sort u0} {α1 : Sort u1} {α2 : Sort u2} {α3 : Sort u3} {α4 : Sort u4} {α5 : Sort u5} {α6 : Sort u6} {α7 : Sort u7} {P0 : α0 → α1 → α2 → α3 → α4 → α5 → Prop} {P1 : α0 → α1 → α2 → α3 → α4 → α5 → Prop} {P2 : α0 → α1 → α2 → α3 → α4 → α5 → Prop} {P3 : α0 → α1 → α2 → α3 → α4 → α5 → Prop} {P4 : α0 → α1 → α2 → α3 → α4 → α5 → Prop} {P5 : α0 → α1 → α2 → α3 → α4 → α5 → α6 → α7 → Prop} {P6 : α0 → α1 → α2 → α3 → α4 → α5 → α6 → α7 → Prop} {P7 : α0 → α1 → α2 → α3 → α4 → α5 → Prop} {P8 : α0 → α1 → α2 → α3 → α4 → α5 → Prop} {G : Prop} (h : ∃ x0 : α0, ∃ x1 : α1, ∃ x2 : α2, ∃ x3 : α3, ∃ x4 : α4, ∃ x5 : α5, P0 x0 x1 x2 x3 x4 x5 ∧ P1 x0 x1 x2 x3 x4 x5 ∧ P2 x0 x1 x2 x3 x4 x5 ∧ P3 x0 x1 x2 x3 x4 x5 ∧ P4 x0 x1 x2 x3 x4 x5 ∧ (∃ x6 : α6, ∃ x7 : α7, P5 x0 x1 x2 x3 x4 x5 x6 x7 ∧ P6 x0 x1 x2 x3 x4 x5 x6 x7) ∧ P7 x0 x1 x2 x3 x4 x5 ∧ P8 x0 x1 x2 x3 x4 x5) (f : ∀ (x0 : α0) (x1 : α1) (x2 : α2) (x3 : α3) (x4 : α4) (x5 : α5) (x6 : α6) (x7 : α7), P0 x0 x1 x2 x3 x4 x5 → P5 x0 x1 x2 x3 x4 x5 x6 x7 → P1 x0 x1 x2 x3 x4 x5 → P2 x0 x1 x2 x3 x4 x5 → P3 x0 x1 x2 x3 x4 x5 → P4 x0 x1 x2 x3 x4 x5 → P6 x0 x1 x2 x3 x4 x5 x6 x7 → P7 x0 x1 x2 x3 x4 x5 → P8 x0 x1 x2 x3 x4 x5 → G) : G := h.elim fun y0 q0 => q0.elim fun y1 q1 => q1.elim fun y2 q2 => q2.elim fun y3 q3 => q3.elim fun y4 q4 => q4.elim fun y5 q5 => q5.2.2.2.2.2.1.elim fun y6 q6 => q6.elim fun y7 q7 => f y0 y1 y2 y3 y4 y5 y6 y7 q5.1 q7.1 q5.2.1 q5.2.2.1 q5.2.2.2.1 q5.2.2.2.2.1 q7.2 q5.2.2.2.2.2.2.1 q5.2.2.2.2.2.2.2
theorem el_EEEEER {α0 : Sort u0} {α1 : Sort u1} {α2 : Sort u2} {α3 : Sort u3} {α4 : Sort u4} {P0 : α0 → α1 → α2 → α3 → α4 → Prop} {P1 : α0 → α1 → α2 → α3 → α4 → Prop} {G : Prop} (h : ∃ x0 : α0, ∃ x1 : α1, ∃ x2 : α2, ∃ x3 : α3, ∃ x4 : α4, P0 x0 x1 x2 x3 x4 ∧ P1 x0 x1 x2 x3 x4) (f : ∀ (x0 : α0) (x1 : α1) (x2 : α2) (x3 : α3) (x4 : α4), P0 x0 x1 x2 x3 x4 → P1 x0 x1 x2 x3 x4 → G) : G := h.elim fun y0 q0 => q0.elim fun y1 q1 => q1.elim fun y2 q2 => q2.elim fun y3 q3 => q3.elim fun y4 q4 => f y0 y1 y2 y3 y4 q4.1 q4.2
theorem el_EEEEERA {α0 : Sort u0} {α1 : Sort u1} {α2 : Sort u2} {α3 : Sort u3} {α4 : Sort u4} {P0 : α0 → α1 → α2 → α3 → α4 → Prop} {P1 : α0 → α1 → α2 → α3 → α4 → Prop} {P2 : α0 → α1 → α2 → α3 → α4 → Prop} {G : Prop} (h : ∃ x0 : α0, ∃ x1 : α1, ∃ x2 : α2, ∃ x3 : α3, ∃ x4 : α4, P0 x0 x1 x2 x3 x4 ∧ P1 x0 x1 x2 x3 x4 ∧ P2 x0 x1 x2 x3 x4) (f : ∀ (x0 : α0) (x1 : α1) (x2 : α2) (x3 : α3) (x4 : α4), P0 x0 x1 x2 x3 x4 → P1 x0 x1 x2 x3 x4 → P2 x0 x1 x2 x3 x4 → G) : G := h.elim fun y0 q0 => q0.elim fun y1 q1 => q1.elim fun y2 q2 => q2.elim fun y3 q3 => q3.elim fun y4 q4 => f y0 y1 y2 y3 y4 q4.1 q4.2.1 q4.2.2
theorem el_EEEEERAAAAAAr {α0 : Sort u0} {α1 : Sort u1} {α2 : Sort u2} {α3 : Sort u3} {α4 : Sort u4} {P0 : α0 → α1 → α2 → α3 → α4 → Prop} {P1 : α0 → α1 → α2 → α3 → α4 → Prop} {P2 : α0 → α1 → α2 → α3 → α4 → Prop} {P3 : α0 → α1 → α2 → α3 → α4 → Prop} {P4 : α0 → α1 → α2 → α3 → α4 → Prop} {P5 : α0 → α1 → α2 → α3 → α4 → Prop} {P6 : α0 → α1 → α2 → α3 → α4 → Prop} {P7 : α0 → α1 → α2 → α3 → α4 → Prop} {G : Prop} (h : ∃ x0 : α0, ∃ x1 : α1, ∃ x2 : α2, ∃ x3 : α3, ∃ x4 : α4, P0 x0 x1 x2 x3 x4 ∧ P1 x0 x1 x2 x3 x4 ∧ P2 x0 x1 x2 x3 x4 ∧ P3 x0 x1 x2 x3 x4 ∧ P4 x0 x1 x2 x3 x4 ∧ P5 x0 x1 x2 x3 x4 ∧ P6 x0 x1 x2 x3 x4 ∧ P7 x0 x1 x2 x3 x4) (f : ∀ (x0 : α0) (x1 : α1) (x2 : α2) (x3 : α3) (x4 : α4), P0 x0 x1 x2 x3 x4 → P7 x0 x1 x2 x3 x4 → P1 x0 x1 x2 x3 x4 → P2 x0 x1 x2 x3 x4 → P3 x0 x1 x2 x3 x4 → P4 x0 x1 x2 x3 x4 → P5 x0 x1 x2 x3 x4 → P6 x0 x1 x2 x3 x4 → G) : G := h.elim fun y0 q0 => q0.elim fun y1 q1 => q1.elim fun y2 q2 => q2.elim fun y3 q3 => q3.elim fun y4 q4 => f y0 y1 y2 y3 y4 q4.1 q4.2.2.2.2.2.2.2 q4.2.1 q4.2.2.1 q4.2.2.2.1 q4.2.2.2.2.1 q4.2.2.2.2.2.1 q4.2.2.2.2.2.2.1
theorem el_EEEEERRA {α0 : Sort u0} {α1 : Sort u1} {α2 : Sort u2} {α3 : Sort u3} {α4 : Sort u4} {P0 : α0 → α1 → α2 → α3 → α4 → Prop} {P1 : α0 → α1 → α2 → α3 → α4 → Prop} {P2 : α0 → α1 → α2 → α3 → α4 → Prop} {P3 : α0 → α1 → α2 → α3 → α4 → Prop} {G : Prop} (h : ∃ x0 : α0, ∃ x1 : α1, ∃ x2 : α2, ∃ x3 : α3, ∃ x4 : α4, P0 x0 x1 x2 x3 x4 ∧ P1 x0 x1 x2 x3 x4 ∧ P2 x0 x1 x2 x3 x4 ∧ P3 x0 x1 x2 x3 x4) (f : ∀ (x0 : α0) (x1 : α1) (x2 : α2) (x3 : α3) (x4 : α4), P0 x0 x1 x2 x3 x4 → P1 x0 x1 x2 x3 x4 → P2 x0 x1 x2 x3 x4 → P3 x0 x1 x2 x3 x4 → G) : G := h.elim fun y0 q0 => q0.elim fun y1 q1 => q1.elim fun y2 q2 => q2.elim fun y3 q3 => q3.elim fun y4 q4 => f y0 y1 y2 y3 y4 q4.1 q4.2.1 q4.2.2.1 q4.2.2.2
theorem el_EEEERAA {α0 : Sort u0} {α1 : Sort u1} {α2 : Sort u2} {α3 : Sort u3} {P0 : α0 → α1 → α2 → α3 → Prop} {P1 : α0 → α1 → α2 → α3 → Prop} {P2 : α0 → α1 → α2 → α3 → Prop} {P3 : α0 → α1 → α2 → α3 → Prop} {G : Prop} (h : ∃ x0 : α0, ∃ x1 : α1, ∃ x2 : α2, ∃ x3 : α3, P0 x0 x1 x2 x3 ∧ P1 x0 x1 x2 x3 ∧ P2 x0 x1 x2 x3 ∧ P3 x0 x1 x2 x3) (f : ∀ (x0 : α0) (x1 : α1) (x2 : α2) (x3 : α3), P0 x0 x1 x2 x3 → P1 x0 x1 x2 x3 → P2 x0 x1 x2 x3 → P3 x0 x1 x2 x3 → G) : G := h.elim fun y0 q0 => q0.elim fun y1 q1 => q1.elim fun y2 q2 => q2.elim fun y3 q3 => f y0 y1 y2 y3 q3.1 q3.2.1 q3.2.2.1 q3.2.2.2
theorem el_EEEERAAA {α0 : Sort u0} {α1 : Sort u1} {α2 : Sort u2} {α3 : Sort u3} {P0 : α0 → α1 → α2 → α3 → Prop} {P1 : α0 → α1 → α2 → α3 → Prop} {P2 : α0 → α1 → α2 → α3 → Prop} {P3 : α0 → α1 → α2 → α3 → Prop} {P4 : α0 → α1 → α2 → α3 → Prop} {G : Prop} (h : ∃ x0 : α0, ∃ x1 : α1, ∃ x2 : α2, ∃ x3 : α3, P0 x0 x1 x2 x3 ∧ P1 x0 x1 x2 x3 ∧ P2 x0 x1 x2 x3 ∧ P3 x0 x1 x2 x3 ∧ P4 x0 x1 x2 x3) (f : ∀ (x0 : α0) (x1 : α1) (x2 : α2) (x3 : α3), P0 x0 x1 x2 x3 → P1 x0 x1 x2 x3 → P2 x0 x1 x2 x3 → P3 x0 x1 x2 x3 → P4 x0 x1 x2 x3 → G) : G := h.elim fun y0 q0 => q0.elim fun y1 q1 => q1.elim fun y2 q2 => q2.elim fun y3 q3 => f y0 y1 y2 y3 q3.1 q3.2.1 q3.2.2.1 q3.2.2.2.1 q3.2.2.2.2
theorem el_EEEERR {α0 : Sort u0} {α1 : Sort u1} {α2 : Sort u2} {α3 : Sort u3} {P0 : α0 → α1 → α2 → α3 → Prop} {P1 : α0 → α1 → α2 → α3 → Prop} {P2 : α0 → α1 → α2 → α3 → Prop} {G : Prop} (h : ∃ x0 : α0, ∃ x1 : α1, ∃ x2 : α2, ∃ x3 : α3, P0 x0 x1 x2 x3 ∧ P1 x0 x1 x2 x3 ∧ P2 x0 x1 x2 x3) (f : ∀ (x0 : α0) (x1 : α1) (x2 : α2) (x3 : α3), P0 x0 x1 x2 x3 → P1 x0 x1 x2 x3 → P2 x0 x1 x2 x3 → G) : G := h.elim fun y0 q0 => q0.elim fun y1 q1 => q1.elim fun y2 q2 => q2.elim fun y3 q3 => f y0 y1 y2 y3 q3.1 q3.2.1 q3.2.2
theorem el_EEER {α0 : Sort u0} {α1 : Sort u1} {α2 : Sort u2} {P0 : α0 → α1 → α2 → Prop} {P1 : α0 → α1 → α2 → Prop} {G : Prop} (h : ∃ x0 : α0, ∃ x1 : α1, ∃ x2 : α2, P0 x0 x1 x2 ∧ P1 x0 x1 x2) (f : ∀ (x0 : α0) (x1 : α1) (x2 : α2), P0 x0 x1 x2 → P1 x0 x1 x2 → G) : G := h.elim fun y0 q0 => q0.elim fun y1 q1 => q1.elim fun y2 q2 => f y0 y1 y2 q2.1 q2.2
theorem el_EEERA {α0 : Sort u0} {α1 : Sort u1} {α2 : Sort u2} {P0 : α0 → α1 → α2 → Prop} {P1 : α0 → α1 → α2 → Prop} {P2 : α0 → α1 → α2 → Prop} {G : Prop} (h : ∃ x0 : α0, ∃ x1 : α1, ∃ x2 : α2, P0 x0 x1 x2 ∧ P1 x0 x1 x2 ∧ P2 x0 x1 x2) (f : ∀ (x0 : α0) (x1 : α1) (x2 : α2), P0 x0 x1 x2 → P1 x0 x1 x2 → P2 x0 x1 x2 → G) : G := h.elim fun y0 q0 => q0.elim fun y1 q1 => q1.elim fun y2 q2 => f y0 y1 y2 q2.1 q2.2.1 q2.2.2
theorem el_EEERAA {α0 : Sort u0} {α1 : Sort u1} {α2 : Sort u2} {P0 : α0 → α1 → α2 → Prop} {P1 : α0 → α1 → α2 → Prop} {P2 : α0 → α1 → α2 → Prop} {P3 : α0 → α1 → α2 → Prop} {G : Prop} (h : ∃ x0 : α0, ∃ x1 : α1, ∃ x2 : α2, P0 x0 x1 x2 ∧ P1 x0 x1 x2 ∧ P2 x0 x1 x2 ∧ P3 x0 x1 x2) (f : ∀ (x0 : α0) (x1 : α1) (x2 : α2), P0 x0 x1 x2 → P1 x0 x1 x2 → P2 x0 x1 x2 → P3 x0 x1 x2 → G) : G := h.elim fun y0 q0 => q0.elim fun y1 q1 => q1.elim fun y2 q2 => f y0 y1 y2 q2.1 q2.2.1 q2.2.2.1 q2.2.2.2
theorem el_EEERAAbEERe {α0 : Sort u0} {α1 : Sort u1} {α2 : Sort u2} {α3 : Sort u3} {α4 : Sort u4} {P0 : α0 → α1 → α2 → Prop} {P1 : α0 → α1 → α2 → Prop} {P2 : α0 → α1 → α2 → α3 → α4 → Prop} {P3 : α0 → α1 → α2 → α3 → α4 → Prop} {P4 : α0 → α1 → α2 → Prop} {G : Prop} (h : ∃ x0 : α0, ∃ x1 : α1, ∃ x2 : α2, P0 x0 x1 x2 ∧ P1 x0 x1 x2 ∧ (∃ x3 : α3, ∃ x4 : α4, P2 x0 x1 x2 x3 x4 ∧ P3 x0 x1 x2 x3 x4) ∧ P4 x0 x1 x2) (f : ∀ (x0 : α0) (x1 : α1) (x2 : α2) (x3 : α3) (x4 : α4), P0 x0 x1 x2 → P2 x0 x1 x2 x3 x4 → P1 x0 x1 x2 → P3 x0 x1 x2 x3 x4 → P4 x0 x1 x2 → G) : G := h.elim fun y0 q0 => q0.elim fun y1 q1 => q1.elim fun y2 q2 => q2.2.2.1.elim fun y3 q3 => q3.elim fun y4 q4 => f y0 y1 y2 y3 y4 q2.1 q4.1 q2.2.1 q4.2 q2.2.2.2
theorem el_EEERAAbERe {α0 : Sort u0} {α1 : Sort u1} {α2 : Sort u2} {α3 : Sort u3} {P0 : α0 → α1 → α2 → Prop} {P1 : α0 → α1 → α2 → Prop} {P2 : α0 → α1 → α2 → α3 → Prop} {P3 : α0 → α1 → α2 → α3 → Prop} {P4 : α0 → α1 → α2 → Prop} {G : Prop} (h : ∃ x0 : α0, ∃ x1 : α1, ∃ x2 : α2, P0 x0 x1 x2 ∧ P1 x0 x1 x2 ∧ (∃ x3 : α3, P2 x0 x1 x2 x3 ∧ P3 x0 x1 x2 x3) ∧ P4 x0 x1 x2) (f : ∀ (x0 : α0) (x1 : α1) (x2 : α2) (x3 : α3), P0 x0 x1 x2 → P2 x0 x1 x2 x3 → P1 x0 x1 x2 → P3 x0 x1 x2 x3 → P4 x0 x1 x2 → G) : G := h.elim fun y0 q0 => q0.elim fun y1 q1 => q1.elim fun y2 q2 => q2.2.2.1.elim fun y3 q3 => f y0 y1 y2 y3 q2.1 q3.1 q2.2.1 q3.2 q2.2.2.2
theorem el_EEERR {α0 : Sort u0} {α1 : Sort u1} {α2 : Sort u2} {P0 : α0 → α1 → α2 → Prop} {P1 : α0 → α1 → α2 → Prop} {P2 : α0 → α1 → α2 → Prop} {G : Prop} (h : ∃ x0 : α0, ∃ x1 : α1, ∃ x2 : α2, P0 x0 x1 x2 ∧ P1 x0 x1 x2 ∧ P2 x0 x1 x2) (f : ∀ (x0 : α0) (x1 : α1) (x2 : α2), P0 x0 x1 x2 → P1 x0 x1 x2 → P2 x0 x1 x2 → G) : G := h.elim fun y0 q0 => q0.elim fun y1 q1 => q1.elim fun y2 q2 => f y0 y1 y2 q2.1 q2.2.1 q2.2.2
theorem el_EEEr {α0 : Sort u0} {α1 : Sort u1} {α2 : Sort u2} {P0 : α0 → α1 → α2 → Prop} {G : Prop} (h : ∃ x0 : α0, ∃ x1 : α1, ∃ x2 : α2, P0 x0 x1 x2) (f : ∀ (x0 : α0) (x1 : α1) (x2 : α2), P0 x0 x1 x2 → G) : G := h.elim fun y0 q0 => q0.elim fun y1 q1 => q1.elim fun y2 q2 => f y0 y1 y2 q2
theorem el_EER {α0 : Sort u0} {α1 : Sort u1} {P0 : α0 → α1 → Prop} {P1 : α0 → α1 → Prop} {G : Prop} (h : ∃ x0 : α0, ∃ x1 : α1, P0 x0 x1 ∧ P1 x0 x1) (f : ∀ (x0 : α0) (x1 : α1), P0 x0 x1 → P1 x0 x1 → G) : G := h.elim fun y0 q0 => q0.elim fun y1 q1 => f y0 y1 q1.1 q1.2
theorem el_EERA {α0 : Sort u0} {α1 : Sort u1} {P0 : α0 → α1 → Prop} {P1 : α0 → α1 → Prop} {P2 : α0 → α1 → Prop} {G : Prop} (h : ∃ x0 : α0, ∃ x1 : α1, P0 x0 x1 ∧ P1 x0 x1 ∧ P2 x0 x1) (f : ∀ (x0 : α0) (x1 : α1), P0 x0 x1 → P1 x0 x1 → P2 x0 x1 → G) : G := h.elim fun y0 q0 => q0.elim fun y1 q1 => f y0 y1 q1.1 q1.2.1 q1.2.2
theorem el_EERAA {α0 : Sort u0} {α1 : Sort u1} {P0 : α0 → α1 → Prop} {P1 : α0 → α1 → Prop} {P2 : α0 → α1 → Prop} {P3 : α0 → α1 → Prop} {G : Prop} (h : ∃ x0 : α0, ∃ x1 : α1, P0 x0 x1 ∧ P1 x0 x1 ∧ P2 x0 x1 ∧ P3 x0 x1) (f : ∀ (x0 : α0) (x1 : α1), P0 x0 x1 → P1 x0 x1 → P2 x0 x1 → P3 x0 x1 → G) : G := h.elim fun y0 q0 => q0.elim fun y1 q1 => f y0 y1 q1.1 q1.2.1 q1.2.2.1 q1.2.2.2
theorem el_EERAAA {α0 : Sort u0} {α1 : Sort u1} {P0 : α0 → α1 → Prop} {P1 : α0 → α1 → Prop} {P2 : α0 → α1 → Prop} {P3 : α0 → α1 → Prop} {P4 : α0 → α1 → Prop} {G : Prop} (h : ∃ x0 : α0, ∃ x1 : α1, P0 x0 x1 ∧ P1 x0 x1 ∧ P2 x0 x1 ∧ P3 x0 x1 ∧ P4 x0 x1) (f : ∀ (x0 : α0) (x1 : α1), P0 x0 x1 → P1 x0 x1 → P2 x0 x1 → P3 x0 x1 → P4 x0 x1 → G) : G := h.elim fun y0 q0 => q0.elim fun y1 q1 => f y0 y1 q1.1 q1.2.1 q1.2.2.1 q1.2.2.2.1 q1.2.2.2.2
theorem el_EERAAEEAAA {α0 : Sort u0} {α1 : Sort u1} {α2 : Sort u2} {α3 : Sort u3} {P0 : α0 → α1 → Prop} {P1 : α0 → α1 → Prop} {P2 : α0 → α1 → Prop} {P3 : α0 → α1 → α2 → α3 → Prop} {P4 : α0 → α1 → α2 → α3 → Prop} {P5 : α0 → α1 → α2 → α3 → Prop} {P6 : α0 → α1 → α2 → α3 → Prop} {G : Prop} (h : ∃ x0 : α0, ∃ x1 : α1, P0 x0 x1 ∧ P1 x0 x1 ∧ P2 x0 x1 ∧ ∃ x2 : α2, ∃ x3 : α3, P3 x0 x1 x2 x3 ∧ P4 x0 x1 x2 x3 ∧ P5 x0 x1 x2 x3 ∧ P6 x0 x1 x2 x3) (f : ∀ (x0 : α0) (x1 : α1) (x2 : α2) (x3 : α3), P0 x0 x1 → P1 x0 x1 → P2 x0 x1 → P3 x0 x1 x2 x3 → P4 x0 x1 x2 x3 → P5 x0 x1 x2 x3 → P6 x0 x1 x2 x3 → G) : G := h.elim fun y0 q0 => q0.elim fun y1 q1 => q1.2.2.2.elim fun y2 q2 => q2.elim fun y3 q3 => f y0 y1 y2 y3 q1.1 q1.2.1 q1.2.2.1 q3.1 q3.2.1 q3.2.2.1 q3.2.2.2
theorem el_EERAEEEERR {α0 : Sort u0} {α1 : Sort u1} {α2 : Sort u2} {α3 : Sort u3} {α4 : Sort u4} {α5 : Sort u5} {P0 : α0 → α1 → Prop} {P1 : α0 → α1 → Prop} {P2 : α0 → α1 → α2 → α3 → α4 → α5 → Prop} {P3 : α0 → α1 → α2 → α3 → α4 → α5 → Prop} {P4 : α0 → α1 → α2 → α3 → α4 → α5 → Prop} {G : Prop} (h : ∃ x0 : α0, ∃ x1 : α1, P0 x0 x1 ∧ P1 x0 x1 ∧ ∃ x2 : α2, ∃ x3 : α3, ∃ x4 : α4, ∃ x5 : α5, P2 x0 x1 x2 x3 x4 x5 ∧ P3 x0 x1 x2 x3 x4 x5 ∧ P4 x0 x1 x2 x3 x4 x5) (f : ∀ (x0 : α0) (x1 : α1) (x2 : α2) (x3 : α3) (x4 : α4) (x5 : α5), P0 x0 x1 → P2 x0 x1 x2 x3 x4 x5 → P3 x0 x1 x2 x3 x4 x5 → P1 x0 x1 → P4 x0 x1 x2 x3 x4 x5 → G) : G := h.elim fun y0 q0 => q0.elim fun y1 q1 => q1.2.2.elim fun y2 q2 => q2.elim fun y3 q3 => q3.elim fun y4 q4 => q4.elim fun y5 q5 => f y0 y1 y2 y3 y4 y5 q1.1 q5.1 q5.2.1 q1.2.1 q5.2.2
theorem el_EERAEEERA {α0 : Sort u0} {α1 : Sort u1} {α2 : Sort u2} {α3 : Sort u3} {α4 : Sort u4} {P0 : α0 → α1 → Prop} {P1 : α0 → α1 → Prop} {P2 : α0 → α1 → α2 → α3 → α4 → Prop} {P3 : α0 → α1 → α2 → α3 → α4 → Prop} {P4 : α0 → α1 → α2 → α3 → α4 → Prop} {G : Prop} (h : ∃ x0 : α0, ∃ x1 : α1, P0 x0 x1 ∧ P1 x0 x1 ∧ ∃ x2 : α2, ∃ x3 : α3, ∃ x4 : α4, P2 x0 x1 x2 x3 x4 ∧ P3 x0 x1 x2 x3 x4 ∧ P4 x0 x1 x2 x3 x4) (f : ∀ (x0 : α0) (x1 : α1) (x2 : α2) (x3 : α3) (x4 : α4), P0 x0 x1 → P2 x0 x1 x2 x3 x4 → P1 x0 x1 → P3 x0 x1 x2 x3 x4 → P4 x0 x1 x2 x3 x4 → G) : G := h.elim fun y0 q0 => q0.elim fun y1 q1 => q1.2.2.elim fun y2 q2 => q2.elim fun y3 q3 => q3.elim fun y4 q4 => f y0 y1 y2 y3 y4 q1.1 q4.1 q1.2.1 q4.2.1 q4.2.2
theorem el_EERAEERAr {α0 : Sort u0} {α1 : Sort u1} {α2 : Sort u2} {α3 : Sort u3} {P0 : α0 → α1 → Prop} {P1 : α0 → α1 → Prop} {P2 : α0 → α1 → α2 → α3 → Prop} {P3 : α0 → α1 → α2 → α3 → Prop} {P4 : α0 → α1 → α2 → α3 → Prop} {G : Prop} (h : ∃ x0 : α0, ∃ x1 : α1, P0 x0 x1 ∧ P1 x0 x1 ∧ ∃ x2 : α2, ∃ x3 : α3, P2 x0 x1 x2 x3 ∧ P3 x0 x1 x2 x3 ∧ P4 x0 x1 x2 x3) (f : ∀ (x0 : α0) (x1 : α1) (x2 : α2) (x3 : α3), P0 x0 x1 → P2 x0 x1 x2 x3 → P4 x0 x1 x2 x3 → P1 x0 x1 → P3 x0 x1 x2 x3 → G) : G := h.elim fun y0 q0 => q0.elim fun y1 q1 => q1.2.2.elim fun y2 q2 => q2.elim fun y3 q3 => f y0 y1 y2 y3 q1.1 q3.1 q3.2.2 q1.2.1 q3.2.1
theorem el_EERARA {α0 : Sort u0} {α1 : Sort u1} {P0 : α0 → α1 → Prop} {P1 : α0 → α1 → Prop} {P2 : α0 → α1 → Prop} {P3 : α0 → α1 → Prop} {P4 : α0 → α1 → Prop} {G : Prop} (h : ∃ x0 : α0, ∃ x1 : α1, P0 x0 x1 ∧ P1 x0 x1 ∧ P2 x0 x1 ∧ P3 x0 x1 ∧ P4 x0 x1) (f : ∀ (x0 : α0) (x1 : α1), P0 x0 x1 → P2 x0 x1 → P1 x0 x1 → P3 x0 x1 → P4 x0 x1 → G) : G := h.elim fun y0 q0 => q0.elim fun y1 q1 => f y0 y1 q1.1 q1.2.2.1 q1.2.1 q1.2.2.2.1 q1.2.2.2.2
theorem el_EERAbEArer {α0 : Sort u0} {α1 : Sort u1} {α2 : Sort u2} {P0 : α0 → α1 → Prop} {P1 : α0 → α1 → α2 → Prop} {P2 : α0 → α1 → α2 → Prop} {P3 : α0 → α1 → Prop} {G : Prop} (h : ∃ x0 : α0, ∃ x1 : α1, P0 x0 x1 ∧ (∃ x2 : α2, P1 x0 x1 x2 ∧ P2 x0 x1 x2) ∧ P3 x0 x1) (f : ∀ (x0 : α0) (x1 : α1) (x2 : α2), P0 x0 x1 → P2 x0 x1 x2 → P3 x0 x1 → P1 x0 x1 x2 → G) : G := h.elim fun y0 q0 => q0.elim fun y1 q1 => q1.2.1.elim fun y2 q2 => f y0 y1 y2 q1.1 q2.2 q1.2.2 q2.1
theorem el_EERAbEreEERAbErer {α0 : Sort u0} {α1 : Sort u1} {α2 : Sort u2} {α3 : Sort u3} {α4 : Sort u4} {α5 : Sort u5} {P0 : α0 → α1 → Prop} {P1 : α0 → α1 → α2 → Prop} {P2 : α0 → α1 → α3 → α4 → Prop} {P3 : α0 → α1 → α3 → α4 → α5 → Prop} {P4 : α0 → α1 → α3 → α4 → Prop} {G : Prop} (h : ∃ x0 : α0, ∃ x1 : α1, P0 x0 x1 ∧ (∃ x2 : α2, P1 x0 x1 x2) ∧ ∃ x3 : α3, ∃ x4 : α4, P2 x0 x1 x3 x4 ∧ (∃ x5 : α5, P3 x0 x1 x3 x4 x5) ∧ P4 x0 x1 x3 x4) (f : ∀ (x0 : α0) (x1 : α1) (x2 : α2) (x3 : α3) (x4 : α4) (x5 : α5), P0 x0 x1 → P1 x0 x1 x2 → P2 x0 x1 x3 x4 → P3 x0 x1 x3 x4 x5 → P4 x0 x1 x3 x4 → G) : G := h.elim fun y0 q0 => q0.elim fun y1 q1 => q1.2.1.elim fun y2 q2 => q1.2.2.elim fun y3 q3 => q3.elim fun y4 q4 => q4.2.1.elim fun y5 q5 => f y0 y1 y2 y3 y4 y5 q1.1 q2 q4.1 q5 q4.2.2
theorem el_EERAbErer {α0 : Sort u0} {α1 : Sort u1} {α2 : Sort u2} {P0 : α0 → α1 → Prop} {P1 : α0 → α1 → α2 → Prop} {P2 : α0 → α1 → Prop} {G : Prop} (h : ∃ x0 : α0, ∃ x1 : α1, P0 x0 x1 ∧ (∃ x2 : α2, P1 x0 x1 x2) ∧ P2 x0 x1) (f : ∀ (x0 : α0) (x1 : α1) (x2 : α2), P0 x0 x1 → P1 x0 x1 x2 → P2 x0 x1 → G) : G := h.elim fun y0 q0 => q0.elim fun y1 q1 => q1.2.1.elim fun y2 q2 => f y0 y1 y2 q1.1 q2 q1.2.2
theorem el_EEREERr {α0 : Sort u0} {α1 : Sort u1} {α2 : Sort u2} {α3 : Sort u3} {P0 : α0 → α1 → Prop} {P1 : α0 → α1 → α2 → α3 → Prop} {P2 : α0 → α1 → α2 → α3 → Prop} {G : Prop} (h : ∃ x0 : α0, ∃ x1 : α1, P0 x0 x1 ∧ ∃ x2 : α2, ∃ x3 : α3, P1 x0 x1 x2 x3 ∧ P2 x0 x1 x2 x3) (f : ∀ (x0 : α0) (x1 : α1) (x2 : α2) (x3 : α3), P0 x0 x1 → P1 x0 x1 x2 x3 → P2 x0 x1 x2 x3 → G) : G := h.elim fun y0 q0 => q0.elim fun y1 q1 => q1.2.elim fun y2 q2 => q2.elim fun y3 q3 => f y0 y1 y2 y3 q1.1 q3.1 q3.2
theorem el_EERR {α0 : Sort u0} {α1 : Sort u1} {P0 : α0 → α1 → Prop} {P1 : α0 → α1 → Prop} {P2 : α0 → α1 → Prop} {G : Prop} (h : ∃ x0 : α0, ∃ x1 : α1, P0 x0 x1 ∧ P1 x0 x1 ∧ P2 x0 x1) (f : ∀ (x0 : α0) (x1 : α1), P0 x0 x1 → P1 x0 x1 → P2 x0 x1 → G) : G := h.elim fun y0 q0 => q0.elim fun y1 q1 => f y0 y1 q1.1 q1.2.1 q1.2.2
theorem el_EERRA {α0 : Sort u0} {α1 : Sort u1} {P0 : α0 → α1 → Prop} {P1 : α0 → α1 → Prop} {P2 : α0 → α1 → Prop} {P3 : α0 → α1 → Prop} {G : Prop} (h : ∃ x0 : α0, ∃ x1 : α1, P0 x0 x1 ∧ P1 x0 x1 ∧ P2 x0 x1 ∧ P3 x0 x1) (f : ∀ (x0 : α0) (x1 : α1), P0 x0 x1 → P1 x0 x1 → P2 x0 x1 → P3 x0 x1 → G) : G := h.elim fun y0 q0 => q0.elim fun y1 q1 => f y0 y1 q1.1 q1.2.1 q1.2.2.1 q1.2.2.2
theorem el_EERr {α0 : Sort u0} {α1 : Sort u1} {P0 : α0 → α1 → Prop} {P1 : α0 → α1 → Prop} {G : Prop} (h : ∃ x0 : α0, ∃ x1 : α1, P0 x0 x1 ∧ P1 x0 x1) (f : ∀ (x0 : α0) (x1 : α1), P0 x0 x1 → P1 x0 x1 → G) : G := h.elim fun y0 q0 => q0.elim fun y1 q1 => f y0 y1 q1.1 q1.2
theorem el_EEr {α0 : Sort u0} {α1 : Sort u1} {P0 : α0 → α1 → Prop} {G : Prop} (h : ∃ x0 : α0, ∃ x1 : α1, P0 x0 x1) (f : ∀ (x0 : α0) (x1 : α1), P0 x0 x1 → G) : G := h.elim fun y0 q0 => q0.elim fun y1 q1 => f y0 y1 q1
theorem el_ER {α0 : Sort u0} {P0 : α0 → Prop} {P1 : α0 → Prop} {G : Prop} (h : ∃ x0 : α0, P0 x0 ∧ P1 x0) (f : ∀ (x0 : α0), P0 x0 → P1 x0 → G) : G := h.elim fun y0 q0 => f y0 q0.1 q0.2
theorem el_ERA {α0 : Sort u0} {P0 : α0 → Prop} {P1 : α0 → Prop} {P2 : α0 → Prop} {G : Prop} (h : ∃ x0 : α0, P0 x0 ∧ P1 x0 ∧ P2 x0) (f : ∀ (x0 : α0), P0 x0 → P1 x0 → P2 x0 → G) : G := h.elim fun y0 q0 => f y0 q0.1 q0.2.1 q0.2.2
theorem el_ERAAA {α0 : Sort u0} {P0 : α0 → Prop} {P1 : α0 → Prop} {P2 : α0 → Prop} {P3 : α0 → Prop} {P4 : α0 → Prop} {G : Prop} (h : ∃ x0 : α0, P0 x0 ∧ P1 x0 ∧ P2 x0 ∧ P3 x0 ∧ P4 x0) (f : ∀ (x0 : α0), P0 x0 → P1 x0 → P2 x0 → P3 x0 → P4 x0 → G) : G := h.elim fun y0 q0 => f y0 q0.1 q0.2.1 q0.2.2.1 q0.2.2.2.1 q0.2.2.2.2
theorem el_ERAAAA {α0 : Sort u0} {P0 : α0 → Prop} {P1 : α0 → Prop} {P2 : α0 → Prop} {P3 : α0 → Prop} {P4 : α0 → Prop} {P5 : α0 → Prop} {G : Prop} (h : ∃ x0 : α0, P0 x0 ∧ P1 x0 ∧ P2 x0 ∧ P3 x0 ∧ P4 x0 ∧ P5 x0) (f : ∀ (x0 : α0), P0 x0 → P1 x0 → P2 x0 → P3 x0 → P4 x0 → P5 x0 → G) : G := h.elim fun y0 q0 => f y0 q0.1 q0.2.1 q0.2.2.1 q0.2.2.2.1 q0.2.2.2.2.1 q0.2.2.2.2.2
theorem el_ERAAEA {α0 : Sort u0} {α1 : Sort u1} {P0 : α0 → Prop} {P1 : α0 → Prop} {P2 : α0 → Prop} {P3 : α0 → α1 → Prop} {P4 : α0 → α1 → Prop} {G : Prop} (h : ∃ x0 : α0, P0 x0 ∧ P1 x0 ∧ P2 x0 ∧ ∃ x1 : α1, P3 x0 x1 ∧ P4 x0 x1) (f : ∀ (x0 : α0) (x1 : α1), P0 x0 → P1 x0 → P2 x0 → P3 x0 x1 → P4 x0 x1 → G) : G := h.elim fun y0 q0 => q0.2.2.2.elim fun y1 q1 => f y0 y1 q0.1 q0.2.1 q0.2.2.1 q1.1 q1.2
theorem el_ERAAbAAAAe {α0 : Sort u0} {P0 : α0 → Prop} {P1 : α0 → Prop} {P2 : α0 → Prop} {P3 : α0 → Prop} {P4 : α0 → Prop} {P5 : α0 → Prop} {P6 : α0 → Prop} {P7 : α0 → Prop} {G : Prop} (h : ∃ x0 : α0, P0 x0 ∧ P1 x0 ∧ (P2 x0 ∧ P3 x0 ∧ P4 x0 ∧ P5 x0 ∧ P6 x0) ∧ P7 x0) (f : ∀ (x0 : α0), P0 x0 → P1 x0 → P2 x0 → P3 x0 → P4 x0 → P5 x0 → P6 x0 → P7 x0 → G) : G := h.elim fun y0 q0 => f y0 q0.1 q0.2.1 q0.2.2.1.1 q0.2.2.1.2.1 q0.2.2.1.2.2.1 q0.2.2.1.2.2.2.1 q0.2.2.1.2.2.2.2 q0.2.2.2
theorem el_ERAbAAe {α0 : Sort u0} {P0 : α0 → Prop} {P1 : α0 → Prop} {P2 : α0 → Prop} {P3 : α0 → Prop} {P4 : α0 → Prop} {G : Prop} (h : ∃ x0 : α0, P0 x0 ∧ (P1 x0 ∧ P2 x0 ∧ P3 x0) ∧ P4 x0) (f : ∀ (x0 : α0), P0 x0 → P1 x0 → P2 x0 → P3 x0 → P4 x0 → G) : G := h.elim fun y0 q0 => f y0 q0.1 q0.2.1.1 q0.2.1.2.1 q0.2.1.2.2 q0.2.2
theorem el_EREA {α0 : Sort u0} {α1 : Sort u1} {P0 : α0 → Prop} {P1 : α0 → α1 → Prop} {P2 : α0 → α1 → Prop} {G : Prop} (h : ∃ x0 : α0, P0 x0 ∧ ∃ x1 : α1, P1 x0 x1 ∧ P2 x0 x1) (f : ∀ (x0 : α0) (x1 : α1), P0 x0 → P1 x0 x1 → P2 x0 x1 → G) : G := h.elim fun y0 q0 => q0.2.elim fun y1 q1 => f y0 y1 q0.1 q1.1 q1.2
theorem el_EREAbAAre {α0 : Sort u0} {α1 : Sort u1} {P0 : α0 → Prop} {P1 : α0 → α1 → Prop} {P2 : α0 → α1 → Prop} {P3 : α0 → α1 → Prop} {P4 : α0 → α1 → Prop} {G : Prop} (h : ∃ x0 : α0, P0 x0 ∧ ∃ x1 : α1, (P1 x0 x1 ∧ P2 x0 x1 ∧ P3 x0 x1) ∧ P4 x0 x1) (f : ∀ (x0 : α0) (x1 : α1), P0 x0 → P3 x0 x1 → P1 x0 x1 → P2 x0 x1 → P4 x0 x1 → G) : G := h.elim fun y0 q0 => q0.2.elim fun y1 q1 => f y0 y1 q0.1 q1.1.2.2 q1.1.1 q1.1.2.1 q1.2
theorem el_EREEAAA {α0 : Sort u0} {α1 : Sort u1} {α2 : Sort u2} {P0 : α0 → Prop} {P1 : α0 → α1 → α2 → Prop} {P2 : α0 → α1 → α2 → Prop} {P3 : α0 → α1 → α2 → Prop} {P4 : α0 → α1 → α2 → Prop} {G : Prop} (h : ∃ x0 : α0, P0 x0 ∧ ∃ x1 : α1, ∃ x2 : α2, P1 x0 x1 x2 ∧ P2 x0 x1 x2 ∧ P3 x0 x1 x2 ∧ P4 x0 x1 x2) (f : ∀ (x0 : α0) (x1 : α1) (x2 : α2), P0 x0 → P1 x0 x1 x2 → P2 x0 x1 x2 → P3 x0 x1 x2 → P4 x0 x1 x2 → G) : G := h.elim fun y0 q0 => q0.2.elim fun y1 q1 => q1.elim fun y2 q2 => f y0 y1 y2 q0.1 q2.1 q2.2.1 q2.2.2.1 q2.2.2.2
theorem el_ERR {α0 : Sort u0} {P0 : α0 → Prop} {P1 : α0 → Prop} {P2 : α0 → Prop} {G : Prop} (h : ∃ x0 : α0, P0 x0 ∧ P1 x0 ∧ P2 x0) (f : ∀ (x0 : α0), P0 x0 → P1 x0 → P2 x0 → G) : G := h.elim fun y0 q0 => f y0 q0.1 q0.2.1 q0.2.2
theorem el_ERREA {α0 : Sort u0} {α1 : Sort u1} {P0 : α0 → Prop} {P1 : α0 → Prop} {P2 : α0 → α1 → Prop} {P3 : α0 → α1 → Prop} {G : Prop} (h : ∃ x0 : α0, P0 x0 ∧ P1 x0 ∧ ∃ x1 : α1, P2 x0 x1 ∧ P3 x0 x1) (f : ∀ (x0 : α0) (x1 : α1), P0 x0 → P1 x0 → P2 x0 x1 → P3 x0 x1 → G) : G := h.elim fun y0 q0 => q0.2.2.elim fun y1 q1 => f y0 y1 q0.1 q0.2.1 q1.1 q1.2
theorem el_RA {P0 : Prop} {P1 : Prop} {P2 : Prop} {G : Prop} (h : P0 ∧ P1 ∧ P2) (f : P0 → P1 → P2 → G) : G := f h.1 h.2.1 h.2.2
theorem el_RAAAA {P0 : Prop} {P1 : Prop} {P2 : Prop} {P3 : Prop} {P4 : Prop} {P5 : Prop} {G : Prop} (h : P0 ∧ P1 ∧ P2 ∧ P3 ∧ P4 ∧ P5) (f : P0 → P1 → P2 → P3 → P4 → P5 → G) : G := f h.1 h.2.1 h.2.2.1 h.2.2.2.1 h.2.2.2.2.1 h.2.2.2.2.2
theorem el_REAA {α0 : Sort u0} {P0 : Prop} {P1 : α0 → Prop} {P2 : α0 → Prop} {P3 : α0 → Prop} {G : Prop} (h : P0 ∧ ∃ x0 : α0, P1 x0 ∧ P2 x0 ∧ P3 x0) (f : ∀ (x0 : α0), P0 → P1 x0 → P2 x0 → P3 x0 → G) : G := h.2.elim fun y0 q0 => f y0 h.1 q0.1 q0.2.1 q0.2.2
theorem el_REEEERA {α0 : Sort u0} {α1 : Sort u1} {α2 : Sort u2} {α3 : Sort u3} {P0 : Prop} {P1 : α0 → α1 → α2 → α3 → Prop} {P2 : α0 → α1 → α2 → α3 → Prop} {P3 : α0 → α1 → α2 → α3 → Prop} {G : Prop} (h : P0 ∧ ∃ x0 : α0, ∃ x1 : α1, ∃ x2 : α2, ∃ x3 : α3, P1 x0 x1 x2 x3 ∧ P2 x0 x1 x2 x3 ∧ P3 x0 x1 x2 x3) (f : ∀ (x0 : α0) (x1 : α1) (x2 : α2) (x3 : α3), P0 → P1 x0 x1 x2 x3 → P2 x0 x1 x2 x3 → P3 x0 x1 x2 x3 → G) : G := h.2.elim fun y0 q0 => q0.elim fun y1 q1 => q1.elim fun y2 q2 => q2.elim fun y3 q3 => f y0 y1 y2 y3 h.1 q3.1 q3.2.1 q3.2.2
theorem el_RRRr {P0 : Prop} {P1 : Prop} {P2 : Prop} {P3 : Prop} {G : Prop} (h : P0 ∧ P1 ∧ P2 ∧ P3) (f : P0 → P1 → P2 → P3 → G) : G := f h.1 h.2.1 h.2.2.1 h.2.2.2
end Mine
end
section
namespace Mine
open PySem PySem.W PySem.Calls PySem.Spec PyProof.Rows
theorem div_lt' {x z : Int} (h : 1 ≤ x) (hz : 2 ≤ z) : x / z < x := Int.ediv_lt_of_lt_mul (Int.lt_of_lt_of_le (by decide) hz) (by have := Int.mul_lt_mul_of_pos_left (show (1:Int) < z from hz) h; rwa [Int.mul_one] at this)
theorem tn_div {x z : Int} (h : 1 ≤ x) (hz : 2 ≤ z) : (x / z).toNat < x.toNat := (Int.toNat_lt_toNat h).2 (div_lt' h hz)
theorem tn_le {x z : Int} {n : Nat} (h : x.toNat ≤ n + 1) (hx : 1 ≤ x) (hz : 2 ≤ z) : (x / z).toNat ≤ n := Nat.le_of_lt_succ (Nat.lt_of_lt_of_le (tn_div hx hz) h)
theorem p9 {p : Int} (h1 : 1 ≤ p) (h9 : p ≤ 9) : (p - 1).toNat < 9 ∧ (((p - 1).toNat : Nat) : Int) + 1 = p := ⟨(Int.toNat_lt' (by decide)).2 (Int.sub_one_lt_of_le h9), by rw [Int.toNat_of_nonneg (Int.sub_nonneg_of_le h1), Int.sub_add_cancel]⟩
theorem gr {n : Nat} {m : Int} (h : (n : Int) ≤ m) : ((n + (m - n).toNat : Nat) : Int) = m := by rw [Int.natCast_add, Int.toNat_of_nonneg (Int.sub_nonneg_of_le h), Int.add_comm, Int.sub_add_cancel]
theorem gr_le {n b : Nat} {m : Int} (h : n ≤ b) (k : m ≤ b) : n + (m - n).toNat ≤ b := (Int.le_total n m).elim (fun q => Int.ofNat_le.1 ((gr q).symm ▸ k)) fun q => by rw [Int.toNat_eq_zero.2 (Int.sub_nonpos_of_le q)]; exact h
theorem gr_lt {n : Nat} {m p : Int} (h : p < m) : p < (n + (m - n).toNat : Nat) := Int.lt_of_lt_of_le h (by rw [Int.natCast_add, Int.add_comm]; exact Int.le_add_of_sub_right_le (Int.self_le_toNat _))
theorem gr_e (b n : Int) : b - n + 1 = b + 1 - n := by lia
theorem lea_e {a f : Int} {s r : Nat} (h1 : s ≤ 10 * r) (ha : a ≤ 9) (hf : 0 ≤ f) : (a - f).toNat + 1 + s ≤ 10 * (r + 1) := by
 rw [Nat.add_comm]
 exact Nat.add_le_add h1 (Nat.succ_le_succ (Int.toNat_le.2 (Int.le_trans (Int.sub_le_self a hf) ha)))
theorem tn_split {lo mid hi : Int} (h1 : lo < mid) (h2 : mid < hi) : (hi - lo).toNat = (mid - lo).toNat + (hi - mid).toNat := by
 rw [← Int.toNat_add (Int.sub_nonneg_of_le (Int.le_of_lt h1)) (Int.sub_nonneg_of_le (Int.le_of_lt h2))]
 exact congrArg _ (by lia)
theorem rep_ok' {y : Int} (h : -10000 ≤ y) (k : y ≤ 10000) : -2 ^ 63 ≤ y ∧ y < 2 ^ 63 ∧ 1 * y.toNat ≤ 2 ^ 24 := ⟨Int.le_trans (by decide) h, Int.lt_of_le_of_lt k (by decide), (Nat.one_mul _).symm ▸ Int.toNat_le.2 (Int.le_trans k (by decide))⟩
theorem r62 {y : Int} (h : -10001 ≤ y) (k : y ≤ 10001) : -2 ^ 62 ≤ y ∧ y < 2 ^ 62 := ⟨Int.le_trans (by decide) h, Int.lt_of_le_of_lt k (by decide)⟩
theorem r62n {n : Nat} (k : n ≤ 10001) : -2 ^ 62 ≤ (n : Int) ∧ (n : Int) < 2 ^ 62 := r62 (Int.le_trans (by decide) (Int.natCast_nonneg n)) (Int.ofNat_le.2 k)
theorem sub_bk {a b c : Nat} (h : b + c ≤ a) : a - (b + c) + c ≤ a - b := by rw [Nat.sub_add_eq]; exact Nat.le_of_eq (Nat.sub_add_cancel (Nat.le_sub_of_add_le (Nat.add_comm c b ▸ h)))
noncomputable def figs (x : Int) (fs : List Int) : List Int := if 64 ≤ x then figs (x / 64) (fs ++ [x / 64 % 64 + 64]) else fs
termination_by x.toNat
decreasing_by rename_i h; exact tn_div (Int.le_trans (show (1 : Int) ≤ 64 by decide) h) (by decide)
noncomputable def octC (out : List Int) : List Int := List.map (fun k' => out.getD k'.toNat 0 + 128 * k'.fmod 2) (rangeKs 0 ((out.length : Int) - 0).toNat)
noncomputable def octF (ns : List Int) : List Int := octC (List.flatMap (fun x => (figs x [x % 64]).reverse) ns)
noncomputable def red (z : Int) (p c : Int) : Int × Int := if 2 ≤ z ∧ 1 ≤ p ∧ p % z = 0 then red z (p / z) (c * z) else (p, c)
termination_by p.toNat
decreasing_by
 rename_i h
 exact tn_div h.2.1 h.1
noncomputable def wStep (z : Int) (gs : List Int) (x : Int) : List Int := gs.set (red z x 1).1.toNat (gs.getD (red z x 1).1.toNat 0 + (red z x 1).2)
noncomputable def trim (gs : List Int) : List Int := if gs.getLast? = some 0 then trim gs.dropLast else gs
termination_by gs.length
decreasing_by
 rename_i h
 cases gs with
 | nil => cases h
 | cons a r => simp
noncomputable def weiF (z : Int) (ns : List Int) : List Int := trim (ns.foldl (wStep z) (List.replicate 10 0))
noncomputable def ilF (ts : Int) (cnt : List Int) : Int := (rangeKs ts ((cnt.length : Int) - ts).toNat).foldl (fun il i => il + i / ts * cnt.getD i.toNat 0) 0
noncomputable def lvl (ts b nt : Int) (cnt : List Int) : Int := b + ts * (ilF ts cnt + nt)
noncomputable def runF (b : Int) (cnt : List Int) : Int := if b > (cnt.length : Int) - 1 then b else (cnt.length : Int) - 1
noncomputable def lessF (n1 b1 nt1 : Int) (c1 : List Int) (n2 b2 nt2 : Int) (c2 : List Int) : Bool :=
 if n2 ≤ n1 then false else (rangeKs 2 ((if runF b2 c2 > runF b1 c1 then runF b2 c2 else runF b1 c1) + 1 + 1 - 2).toNat).all fun ts => decide (lvl ts b1 nt1 c1 < lvl ts b2 nt2 c2)
noncomputable def figW (z part left : Int) (due : List Int) : List Int := if 0 < left ∧ 2 ≤ z then figW z (part * z) (left / z) (due ++ List.replicate (left % z).toNat part) else due
termination_by left.toNat
decreasing_by
 rename_i h
 exact tn_div h.1 h.2
noncomputable def figF (z : Int) (ns : List Int) (k : Nat) : List Int := (rangeKs 0 k).foldl (fun due i => figW z i (ns.getD i.toNat 0) due) []
noncomputable def inc (counts : List Int) (p : Int) : List Int :=
 let c := counts ++ List.replicate (p + 1 - counts.length).toNat 0
 c.set p.toNat (c.getD p.toNat 0 + 1)
noncomputable def jIn (z : Nat) (part : Int) (j : Nat) (counts stay : List Int) : List Int × List Int :=
 if 0 < z ∧ z ≤ j then jIn z part (j - z) (inc counts (part * z)) stay else if 0 < j then jIn z part (j - 1) counts (stay ++ [part]) else (counts, stay)
termination_by j
decreasing_by
 ·rename_i h; exact Nat.sub_lt (Nat.lt_of_lt_of_le h.1 h.2) h.1
 ·exact Nat.sub_lt (by assumption) Nat.one_pos
noncomputable def jGo (z : Nat) : Nat → Int → List Int → List Int → Option (List Int)
 | 0, part, counts, stay => if part < counts.length then none else some stay
 | n + 1, part, counts, stay => if part < counts.length then
   if 0 ≤ counts.getD part.toNat 0 ∧ counts.getD part.toNat 0 ≤ 1000 ∧ (z ≤ counts.getD part.toNat 0 → part * z ≤ 1000) ∧ stay.length ≤ 2000 then
    jGo z n (part + 1) (jIn z part (counts.getD part.toNat 0).toNat counts stay).1 (jIn z part (counts.getD part.toNat 0).toNat counts stay).2
   else none
  else some stay
noncomputable def cnt0 (ns : List Int) (M : Int) : List Int := (rangeKs 0 (M + 1 - 0).toNat).map fun k => ((ns.count k : Nat) : Int)
noncomputable def leadCodes (f : Int) (ns : List Int) : List Nat := ns.flatMap fun k => List.replicate (k - f).toNat 32 ++ [9]
noncomputable def bump (cnt : List Int) (b : Int) : List Int :=
 let c := if (cnt.length : Int) ≤ b then cnt ++ List.replicate (b - cnt.length + 1).toNat 0 else cnt
 c.set b.toNat (c.getD b.toNat 0 + 1)
noncomputable def wsRun : List Nat → Int → Int → Int → List Int → Int × Int × Int × List Int
 | [], n, b, nt, cnt => (n, b, nt, cnt)
 | c :: r, n, b, nt, cnt => if c = 32 then wsRun r (n + 1) (b + 1) nt cnt else if c = 9 then wsRun r (n + 1) 0 (nt + 1) (bump cnt b) else (n, b, nt, cnt)
theorem z23 {z : Int} {P : Int → Prop} (hz : z = 2 ∨ z = 3) (h2 : P 2) (h3 : P 3) : P z := hz.elim (fun e => e ▸ h2) fun e => e ▸ h3
theorem fin9 {p : Int} {P : Int → Prop} (h1 : 1 ≤ p) (h9 : p ≤ 9) (h : ∀ k : Fin 9, P ((k.val : Int) + 1)) : P p := by
 have := h ⟨(p - 1).toNat, (p9 h1 h9).1⟩
 rwa [(p9 h1 h9).2] at this
theorem modN (W : Int) {k : Nat} (hk : 0 < k) : ∃ u : Nat, u < k ∧ W % k = u := (Int.eq_ofNat_of_zero_le (Int.emod_nonneg W (Int.ne_of_gt (Int.ofNat_lt.mpr hk)))).elim fun u e => ⟨u, Int.ofNat_lt.mp (e ▸ Int.emod_lt_of_pos W (Int.ofNat_lt.mpr hk)), e⟩
theorem cast_min (k n : Nat) : ((min k n : Nat) : Int) = min (k : Int) n := (Nat.le_total k n).elim (fun h => by rw [Nat.min_eq_left h, Int.min_eq_left (Int.ofNat_le.mpr h)]) fun h => by rw [Nat.min_eq_right h, Int.min_eq_right (Int.ofNat_le.mpr h)]
theorem rep_ok {y : Int} (h0 : 0 ≤ y) (h1 : y ≤ 10000) : -2 ^ 63 ≤ y ∧ y < 2 ^ 63 ∧ 1 * y.toNat ≤ 2 ^ 24 := rep_ok' (Int.le_trans (by decide) h0) h1
theorem zM {z : Int} (hz : z = 2 ∨ z = 3) (y : Int) : IntMulOk z y ∧ IntMulOk y z := z23 (P := fun z => IntMulOk z y ∧ IntMulOk y z) hz ⟨IntMulOk.of_left (intBits_le_64 (by decide) (by decide)), IntMulOk.of_right (intBits_le_64 (by decide) (by decide))⟩ ⟨IntMulOk.of_left (intBits_le_64 (by decide) (by decide)), IntMulOk.of_right (intBits_le_64 (by decide) (by decide))⟩
theorem rangeKs_succ (a : Int) (n : Nat) : rangeKs a (n + 1) = rangeKs a n ++ [a + (n : Int)] := by
 unfold rangeKs
 rw [List.range_succ, List.map_append]; rfl
noncomputable def digV (n : Nat) : List Int → Int
 | [] => 0
 | d :: r => d + 2 ^ n * digV n r
noncomputable def nameT : List Str := [⟨#[79, 80, 84, 73, 77, 73, 90, 69, 68]⟩, ⟨#[78, 69, 87, 76, 79, 67, 65, 76, 83]⟩, ⟨#[86, 65, 82, 65, 82, 71, 83]⟩, ⟨#[86, 65, 82, 75, 69, 89, 87, 79, 82, 68, 83]⟩, ⟨#[78, 69, 83, 84, 69, 68]⟩, ⟨#[71, 69, 78, 69, 82, 65, 84, 79, 82]⟩, ⟨#[78, 79, 70, 82, 69, 69]⟩, ⟨#[67, 79, 82, 79, 85, 84, 73, 78, 69]⟩, ⟨#[73, 84, 69, 82, 65, 66, 76, 69, 95, 67, 79, 82, 79, 85, 84, 73, 78, 69]⟩, ⟨#[65, 83, 89, 78, 67, 95, 71, 69, 78, 69, 82, 65, 84, 79, 82]⟩]
noncomputable def nameP (i : Nat) : Str := nameT[i]?.getD (PySem.baseText "0x" 16 (2 ^ i))
noncomputable def lowW (F : Int) (n : Nat) : List Str := ((List.range n).filter fun i => F / 2 ^ i % 2 = 1).map nameP
noncomputable def flagW (F : Int) : List Str := lowW F 32 ++ if F / 2 ^ 32 ≠ 0 ∨ F = 0 then [PySem.baseText "0x" 16 (F / 2 ^ 32 * 2 ^ 32)] else []
noncomputable def addK (ways : List Int) (off : Int) (longer : List Int) (k : Int) : List Int := longer.set (k + off).toNat (longer.getD (k + off).toNat 0 + ways.getD k.toNat 0)
noncomputable def addC (ways : List Int) (part : Int) (longer : List Int) (c : Int) : List Int := (rangeKs 0 ways.length).foldl (addK ways (part * c)) longer
noncomputable def stepW (z : Int) (ways : List Int) (part : Int) : List Int := (rangeKs 0 z.toNat).foldl (addC ways part) (List.replicate (ways.length + part * (z - 1)).toNat 0)
noncomputable def waysF (most z : Int) : List Int := (rangeKs 1 most.toNat).foldl (stepW z) [1]
noncomputable def partsF : Nat → Int → Int → List (List Int)
 | 0, _, _ => [[]]
 | k + 1, total, most => if total = 0 then [[]] else ((List.range (min total most).toNat).map fun (i : Nat) => min total most - (i : Int)).flatMap fun part => (partsF k (total - part) part).map (part :: ·)
end Mine
end
section
set_option tactic.hygienic true
namespace Mine
open PySem PySem.W PySem.Calls PySem.Spec PyProof.Rows
noncomputable abbrev AR (D U : Nat) (fr : Option (List Env)) (gd : Option (List Code)) : Around :=
 { handled := none, depth := D, frames := fr, guards := gd, units := U }
theorem wp_le {α : Type} {M : Model} {D U d u : Nat} {fr : Option (List Env)} {gd : Option (List Code)} {t : Sem α} {Q : α → Shared → Prop} {E : Value → Shared → Prop} {s : Shared}
  (hd : d ≤ D) (hu : u ≤ U) (h : wpAny M (AR D U fr gd) t Q E s) : wpAny M (AR d u fr gd) t Q E s :=
 fun Γ p hΓ => h Γ p ⟨hΓ.1, Nat.le_trans hΓ.2.1 hd, hΓ.2.2.1, hΓ.2.2.2.1, Nat.le_trans hΓ.2.2.2.2 hu⟩
section
variable {w : World} {D U : Nat} {fr : Option (List Env)} {gd : Option (List Code)} {s : Shared} {mg mb : Str → Option Value} {p : Program} {loose : List Str} {mean : ExcName → Option Value}
 {Q : Value → Shared → Prop} {E : Value → Shared → Prop} {name qual : Str} {params : Arguments} {body : List Stmt} {scope : Scope} {dV kV doc pm cdv ct oc : Value} {an od : Option Addr} {osl : Array (Option Value)} {f : Addr} {pos : List Value} {binds : List (Str × Value)}
end
noncomputable def TurnP (h₀ : Heap) (L : Addr) (J : (Str → Option Value) → List (Addr × Obj) → Prop) (own : Addr × Obj) (s : Shared) (Q : Flow → Shared → Prop) (f : Flow) (s₂ : Shared) : Prop :=
 match f with
 | .ret v => Q (.ret v) s₂
 | .brk => Q .next s₂
 | _ => ∃ h' tk m' nx, s₂ = { s with heap := h', toks := tk } ∧ Fr h₀ L h' m' ∧ News h₀ L h' (own :: nx) ∧ (∀ p ∈ nx, p.1 ≠ own.1) ∧ J m' nx
section
variable {prog : Program} {w : World} {A : Around} {E : Value → Shared → Prop} {s : Shared} {env : Env} {h₀ : Heap} {x : Str} {body : List Stmt} {Q : Flow → Shared → Prop} {m₀ : Str → Option Value} {news : List (Addr × Obj)}
end
section
variable {prog : Program} {w : World} {A : Around} {E : Value → Shared → Prop} {s : Shared} {h₀ h : Heap} {L D b : Addr} {m : Str → Option Value} {news news' : List (Addr × Obj)} {vs ws : List Value} {n n2 : Nat}
theorem my_extend {Q : Value → Shared → Prop} (F : Fr h₀ L s.heap m) (N : News h₀ L s.heap news) (hb : (b, listOf ws.toArray n2) ∈ news)
  (U : Upd D (listOf vs.toArray n) (listOf (vs ++ ws).toArray (if ws.length = 0 then n else n + 1)) news news') (hz : vs.length + ws.length ≤ 16000000)
  (h : ∀ h', Fr h₀ L h' m → News h₀ L h' news' → Q .none { s with heap := h' }) : wpAny (model prog w) A (call (.builtin "list.extend") [.ref D, .ref b]) Q E s := by
 have hd : ¬(!vs.toArray.isEmpty && Builtin.List.listTooLong (vs.toArray.size + ws.toArray.size)) = true := by
  have : Builtin.List.listTooLong (vs.toArray.size + ws.toArray.size) = false := by
   simp only [List.size_toArray]
   exact decide_eq_false (by rw [sizeLine_eq]; lia)
  rw [this, Bool.and_false]; exact Bool.false_ne_true
 have hz1 : vs.toArray.toList.length ≤ sizeLine := by rw [sizeLine_eq]; show vs.length ≤ _; lia
 have hz2 : vs.toArray.size + ws.toArray.size ≤ sizeLine + 1 := by rw [sizeLine_eq]; simp only [List.size_toArray]; exact Nat.le_trans (by assumption) (by decide)
 by_cases hw : ws.length = 0
 ·have : ws = [] := List.eq_nil_of_length_eq_zero hw
  subst this
  rw [List.append_nil, if_pos (show ([] : List Value).length = 0 from rfl)] at U
  exact kxn_extend F N hb rfl U hd hz1 hz2 h
 ·rw [if_neg hw] at U
  exact kl_extend (its := vs.toArray) (its2 := ws.toArray) F N hb rfl hw U hd hz1 hz2 h
end
theorem kl_last_snoc (y : Value) : ∀ vs : List Value, kl_last (vs ++ [y]) = some (vs, y)
 | [] => rfl
 | [a] => rfl
 | a :: b :: r => by
  have ih := kl_last_snoc y (b :: r)
  show kl_last (a :: ((b :: r) ++ [y])) = _
  simp only [List.cons_append] at ih ⊢
  rw [kl_last, ih]
theorem IntsAre.snoc_inv {vs : List Value} {gs : List Int} (h : IntsAre vs gs) (hn : gs ≠ []) : ∃ vs0 gs0 g t, vs = vs0 ++ [.int g t] ∧ gs = gs0 ++ [g] ∧ IntsAre vs0 gs0 := by
 induction h with
 | nil => exact absurd rfl hn
 | cons n t h ih =>
  rename_i vs ns
  by_cases hq : ns = []
  ·subst hq; cases h; exact ⟨[], [], n, t, rfl, rfl, .nil⟩
  ·(refine el_EEEERR (ih hq) fun vs0 gs0 g t' z09 z19 => ?_; subst z09; subst z19; intro hi)
   exact ⟨.int n t :: vs0, n :: gs0, g, t', rfl, rfl, .cons n t hi⟩
section
variable {prog : Program} {w : World} {A : Around} {E : Value → Shared → Prop} {s : Shared} {h₀ h : Heap} {L D : Addr} {m : Str → Option Value} {news news' : List (Addr × Obj)} {vs : List Value} {n : Nat} {value slice : Expr} {u : Tok} {y : Value} {Q : Value → Shared → Prop}
theorem my_back (N : News h₀ L s.heap news) (hm : (D, listOf (vs ++ [y]).toArray n) ∈ news) (h : Q y s)
  (hs : subscripted slice false (.ref D) (.int (-1) u) = operate [.ref D, .int (-1) u] (getItem (.ref D) (.int (-1) u))) (hg : ∀ r, letTemporaryGo value (.ref D) r = pure ()) :
  wpAny (model prog w) A (subscriptTail value slice (.ref D) (.int (-1) u)) Q E s :=
 kim_back N hm rfl rfl (by decide) (by rw [List.length_append, List.length_cons, List.length_nil]; lia) (by decide)
  (by rw [List.length_append, List.length_cons, List.length_nil, show (-1 + ((vs.length + (0 + 1) : Nat) : Int)).toNat = vs.length by lia]; simp) h hs hg
theorem my_pop (F : Fr h₀ L s.heap m) (N : News h₀ L s.heap news) (U : Upd D (listOf (vs ++ [y]).toArray n) (listOf vs.toArray (n + 1)) news news') (hz : vs.length ≤ 16000000)
  (h : ∀ h', Fr h₀ L h' m → News h₀ L h' news' → Q y { s with heap := h' }) : wpAny (model prog w) A (call (.builtin "list.pop") [.ref D]) Q E s :=
 kl_pop (its := (vs ++ [y]).toArray) F N (kl_last_snoc y vs) U (by rw [sizeLine_eq]; show (vs ++ [y]).length ≤ _; rw [List.length_append]; simp only [List.length_cons, List.length_nil]; exact Nat.lt_of_le_of_lt (by assumption) (by decide)) h
end
section
variable {prog : Program} {w : World} {A : Around} {h₀ : Heap} {L : Addr} {m : Str → Option Value} {env : Env} {elt : Expr} {x : Str} {scope : Scope} {cl : List (Str × Addr)} {s : Shared} {S : List (Addr × Obj) → Prop} {P : Nat → Value → Prop} {Fin : List Value → List (Addr × Obj) → Prop} {news : List (Addr × Obj)}
theorem compG (J : Nat → List Value → List (Addr × Obj) → Prop) (n : Nat) (h0 : J 0 [] news)
  (turn : ∀ i v ys news₁ I oI C oC D m₂ h tk (E' : Value → Shared → Prop), i < n → P i v → J i ys news₁ → LCg.NsObj oC m₂ → m₂ x = some v → Fr h₀ L h m → News h₀ L h ((I, oI) :: (C, oC) :: (D, LCg.lst ys) :: news₁) → LCg.Off3 I C D news₁ → ((@Ne Nat I C) ∧ (@Ne Nat I D) ∧ (@Ne Nat C D)) →
   wpAny (model prog w) A (eval elt (compEnvC scope cl C env)) (LCg.CompEnd h₀ L m { s with heap := h, toks := tk } I oI C oC D (LCg.lst ys) S (fun y news' => J (i + 1) (ys ++ [y]) news')) E' { s with heap := h, toks := tk })
  (fin : ∀ ys news₁, J n ys news₁ → Fin ys news₁) : LCg.CompRest prog w A h₀ L m env elt x scope cl s S P Fin n 0 [] news := by
 have key : ∀ (j i : Nat) (ys : List Value) news₁, i + j = n → J i ys news₁ → LCg.CompRest prog w A h₀ L m env elt x scope cl s S P Fin j i ys news₁ := by
  intro j
  induction j with
  | zero =>
   intro i ys news₁ hi hJ
   have e : i = n := by assumption
   subst e
   exact LCg.CompRest.zero (fin ys news₁ hJ)
  | succ j ih =>
   intro i ys news₁ hi hJ
   refine LCg.CompRest.succ ?_
   intro v I oI C oC D m₂ h tk E' hv hC hx F N off ne
   refine wpAny_mono (turn i v ys news₁ I oI C oC D m₂ h tk E' (by lia) hv hJ hC hx F N off ne) (fun y s₂ hq => ?_) fun _ _ e => e
   (refine el_EEEAAAAA hq fun h' tk' nw => ?_; try clear hq; intro e F' N' off' hS hJ')
   exact ⟨h', tk', nw, e, F', N', off', hS, ih (i + 1) _ nw (by grind only) hJ'⟩
 exact key n 0 [] news (by exact Nat.add_comm _ _) h0
end
section
variable {prog : Program} {w : World} {A : Around} {E : Value → Shared → Prop} {s : Shared} {env : Env} {h₀ : Heap} {x : Str} {body : List Stmt} {Q : Flow → Shared → Prop} {m₀ : Str → Option Value} {news : List (Addr × Obj)}
end
theorem code_le {M : Model} {D U d u : Nat} {fr : Option (List Env)} {gd : Option (List Code)} {c : Code} {R : Result → Shared → Prop} {s : Shared}
  (hd : d ≤ D) (hu : u ≤ U) (h : codeAny M (AR D U fr gd) c R s) : codeAny M (AR d u fr gd) c R s :=
 fun Γ p hc hΓ => h Γ p hc ⟨hΓ.1, Nat.le_trans hΓ.2.1 hd, hΓ.2.2.1, hΓ.2.2.2.1, Nat.le_trans hΓ.2.2.2.2 hu⟩
section
variable {prog : Program} {w : World} {A : Around} {E : Value → Shared → Prop} {s : Shared} {h₀ h : Heap} {L D : Addr} {m : Str → Option Value} {news news' : List (Addr × Obj)} {vs : List Value} {ns : List Int} {n : Nat} {value slice : Expr} {u : Tok} {k : Int} {Q : Value → Shared → Prop}
end
theorem at_call {α : Type} {M : Model} {D U d u : Nat} {fr : Option (List Env)} {gd : Option (List Code)} {env : Env} {t : Sem α} {Q : α → Shared → Prop} {E : Value → Shared → Prop} {s : Shared}
  (hd : D + 1 ≤ d) (hu : U + 3 ≤ u) (h : wpAny M (AR d u (fr.map (env :: ·)) gd) t Q E s) : wpAny M ((AR D U fr gd).deeper env) t Q E s := wp_le hd hu h
section
variable {M : Model} {A : Around} {st : Stmt} {rest : List Stmt} {env : Env} {Q K : Flow → Shared → Prop} {E : Value → Shared → Prop} {s : Shared} {v : Value}
end
end Mine
end
section
namespace Mine
open PySem PySem.W PySem.Calls PySem.Spec PyProof.Rows
theorem cps_append (a b : Str) : (a ++ b).cps.toList = a.cps.toList ++ b.cps.toList := by
 show (a.cps ++ b.cps).toList = _
 exact Array.toList_append
theorem foldl_cps (xs : Array Nat) : ∀ (n : Nat) (acc : Array Nat), ((List.replicate n xs).foldl (· ++ ·) acc).toList = acc.toList ++ (List.replicate n xs.toList).flatten
 | 0, acc => by simp
 | n + 1, acc => by
  rw [List.replicate_succ, List.foldl_cons, foldl_cps xs n, Array.toList_append, List.replicate_succ, List.flatten_cons, List.append_assoc]
theorem mul_codes (x : Str) (n : Int) : (Txt.mul x n).cps.toList = (List.replicate n.toNat x.cps.toList).flatten := by
 unfold Txt.mul
 by_cases h : n < 1
 ·rw [if_pos h, show n.toNat = 0 by lia]; rfl
 ·rw [if_neg h]
  by_cases h2 : (n == 1 || x.length == 0) = true
  ·rw [if_pos h2]
   rcases Bool.or_eq_true_iff.mp h2 with h3 | h3
   ·have : n = 1 := beq_iff_eq.mp h3
    subst this
    simp
   ·have h4 : x.cps.size = 0 := beq_iff_eq.mp h3
    have h5 : x.cps.toList = [] := List.eq_nil_of_length_eq_zero (by rw [Array.length_toList]; exact h4)
    rw [h5]
    simp
  ·rw [if_neg h2]
   show ((List.replicate n.toNat x.cps).foldl (· ++ ·) #[]).toList = _
   rw [foldl_cps]; rfl
theorem glued_nil_codes : ∀ (ts : List Str) (acc : Array Nat), (ts.foldl (fun acc p => acc ++ (Str.ofString "").cps ++ p.cps) acc).toList = acc.toList ++ ts.flatMap (fun t => t.cps.toList)
 | [], acc => by simp
 | t :: r, acc => by
  rw [List.foldl_cons, glued_nil_codes r, Array.toList_append, Array.toList_append]
  have : (Str.ofString "").cps.toList = [] := by decide
  rw [this, List.append_nil, List.flatMap_cons, List.append_assoc]
theorem join_codes (ts : List Str) : (Txt.join (Str.ofString "") ts).cps.toList = ts.flatMap (fun t => t.cps.toList) := by
 show (Builtin.Str.glued (Str.ofString "") ts).cps.toList = _
 unfold Builtin.Str.glued
 cases ts with
 | nil => rfl
 | cons t r =>
  show (List.foldl _ t.cps r).toList = _
  rw [glued_nil_codes, List.flatMap_cons]
theorem rep_one (n : Nat) (a : Nat) : (List.replicate n [a]).flatten = List.replicate n a := by
 induction n with
 | zero => rfl
 | succ n ih => rw [List.replicate_succ, List.flatten_cons, ih, List.replicate_succ]; rfl
theorem mul_one_codes (c : String) (a : Nat) (n : Int) (h : (Str.ofString c).cps.toList = [a]) : (Txt.mul (Str.ofString c) n).cps.toList = List.replicate n.toNat a := by
 rw [mul_codes, h, rep_one]
noncomputable def leadEl (f k : Int) : Str := Txt.mul (Str.ofString " ") (k - f) ++ Str.ofString "\t"
theorem leadEl_codes (f k : Int) : (leadEl f k).cps.toList = List.replicate (k - f).toNat 32 ++ [9] := by
 unfold leadEl
 rw [cps_append, mul_one_codes " " 32 _ (by decide)]
 congr 1
theorem lead_codes (f : Int) (ns : List Int) : (Txt.join (Str.ofString "") (ns.map (leadEl f))).cps.toList = leadCodes f ns := by
 rw [join_codes, List.flatMap_map]
 unfold leadCodes
 congr 1
 funext k
 exact leadEl_codes f k
theorem leadEl_length (f k : Int) : (leadEl f k).length = (k - f).toNat + 1 := by
 show (leadEl f k).cps.size = _
 rw [← Array.length_toList, leadEl_codes]; simp
theorem rep_one_int (n : Nat) (a : Int) : (List.replicate n [a]).flatten = List.replicate n a := by
 induction n with
 | zero => rfl
 | succ n ih => rw [List.replicate_succ, List.flatten_cons, ih, List.replicate_succ]; rfl
noncomputable def wsO (w : World) (x1 d1 D1 D2 : Addr) (k1 k2 k3 k4 k5 t1 t2 t3 t4 : Tok) (z : Str) (cs : List Value) (n b nt : Int) (cnt : List Int) : List (Addr × Obj) :=
 [(x1, instObj 164 d1), (d1, dictOf [⟨PyData.keyHash w.params (Str.ofString "raw"), .str (Str.ofString "raw") k1, .str z t1⟩, ⟨PyData.keyHash w.params (Str.ofString "n"), .str (Str.ofString "n") k2, .int n t2⟩,
   ⟨PyData.keyHash w.params (Str.ofString "nt"), .str (Str.ofString "nt") k3, .int nt t3⟩, ⟨PyData.keyHash w.params (Str.ofString "norm"), .str (Str.ofString "norm") k4, .ref D2⟩,
   ⟨PyData.keyHash w.params (Str.ofString "is_simple"), .str (Str.ofString "is_simple") k5, .bool (decide ((cnt.length : Int) ≤ 1))⟩] 5),
   (D2, { cls := .type "tuple", data := .seq #[.ref D1, .int b t4] }), (D1, { cls := .type "tuple", data := .seq cs.toArray })]
noncomputable def WsObjs (w : World) (objs : List (Addr × Obj)) (x1 : Addr) (n b nt : Int) (cnt : List Int) : Prop :=
 ∃ (d1 D1 D2 : Addr) (k1 k2 k3 k4 k5 t1 t2 t3 t4 : Tok) (z : Str) (cs : List Value), objs = wsO w x1 d1 D1 D2 k1 k2 k3 k4 k5 t1 t2 t3 t4 z cs n b nt cnt ∧ IntsAre cs cnt ∧ cnt.length ≤ 10001
end Mine
end
section
namespace Mine
open PySem PySem.W PySem.Calls PySem.Spec PyProof.Rows
theorem ssi_take (k n : Nat) : Builtin.Str.strSliceIndices none (some (k : Int)) 1 n = Builtin.Str.strSliceIndices (some ((0 : Nat) : Int)) (some ((min k n : Nat) : Int)) 1 n := by
 have h1 : ¬ ((k : Int) < 0) := by lia
 have h2 : ¬ (((min k n : Nat) : Int) < 0) := by lia
 have h3 : ¬ (((0 : Nat) : Int) < 0) := by decide
 simp only [Builtin.Str.strSliceIndices, h1, h2, h3, if_false, show ((1 : Int) > 0) = True from by simp, if_true]
 have e1 : max (0 : Int) (min ((0 : Nat) : Int) (n : Int)) = 0 := by rfl
 have e2 : max (0 : Int) (min (k : Int) (n : Int)) = max (0 : Int) (min ((min k n : Nat) : Int) (n : Int)) := by rw [cast_min, Int.min_assoc, Int.min_self]
 rw [e1, e2]
theorem ssi_drop (k n : Nat) : Builtin.Str.strSliceIndices (some (k : Int)) none 1 n = Builtin.Str.strSliceIndices (some ((min k n : Nat) : Int)) (some ((n : Nat) : Int)) 1 n := by
 have h1 : ¬ ((k : Int) < 0) := by lia
 have h2 : ¬ (((min k n : Nat) : Int) < 0) := by lia
 have h3 : ¬ (((n : Nat) : Int) < 0) := by lia
 simp only [Builtin.Str.strSliceIndices, h1, h2, h3, if_false, show ((1 : Int) > 0) = True from by simp, if_true]
 have e1 : max (0 : Int) (min (n : Int) (n : Int)) = n := by rw [Int.min_self]; exact Int.max_eq_right (Int.natCast_nonneg n)
 have e2 : max (0 : Int) (min (k : Int) (n : Int)) = max (0 : Int) (min ((min k n : Nat) : Int) (n : Int)) := by rw [cast_min, Int.min_assoc, Int.min_self]
 rw [e1, e2]
theorem slice_codes (x : Str) {a b : Nat} (hab : a ≤ b) (hb : b ≤ x.length) (l u : Option Int) (h : Builtin.Str.strSliceIndices l u 1 x.length = Builtin.Str.strSliceIndices (some (a : Int)) (some (b : Int)) 1 x.length) :
  (Txt.slice x l u).cps.toList = (x.cps.toList.drop a).take (b - a) := by
 unfold Txt.slice
 rw [h, StrLaws.sliced_plain x hab hb]
 have hl : x.cps.toList.length = x.length := by rw [Array.length_toList]; rfl
 split
 ·rename_i hq
  rw [Bool.and_eq_true] at hq
  have := beq_iff_eq.mp hq.2
  rw [StrLaws.strSliceIndices_plain hab hb, List.length_map, List.length_range] at this
  have ha : a = 0 := by grind only
  subst ha
  rw [List.drop_zero, Nat.sub_zero, List.take_of_length_le (by lia)]
 ·rfl
theorem slice_take (x : Str) (k : Nat) : (Txt.slice x none (some (k : Int))).cps.toList = x.cps.toList.take k := by
 rw [slice_codes x (Nat.zero_le _) (Nat.min_le_right k x.length) _ _ (ssi_take k x.length), List.drop_zero, Nat.sub_zero]
 have hl : x.cps.toList.length = x.length := by rw [Array.length_toList]; rfl
 by_cases h : k ≤ x.length
 ·rw [Nat.min_eq_left h]
 ·rw [Nat.min_eq_right (by lia), List.take_of_length_le (by exact Nat.le_refl _), List.take_of_length_le (by lia)]
theorem slice_drop (x : Str) (k : Nat) : (Txt.slice x (some (k : Int)) none).cps.toList = x.cps.toList.drop k := by
 rw [slice_codes x (Nat.min_le_right k x.length) (Nat.le_refl _) _ _ (ssi_drop k x.length)]
 have hl : x.cps.toList.length = x.length := by rw [Array.length_toList]; rfl
 by_cases h : k ≤ x.length
 ·rw [Nat.min_eq_left h, List.take_of_length_le (by rw [List.length_drop]; exact Nat.le_refl _)]
 ·rw [Nat.min_eq_right (by lia), Nat.sub_self, List.take_zero, List.drop_eq_nil_of_le (by lia)]
section
variable {prog : Program} {w : World} {A : Around} {E : Value → Shared → Prop} {s : Shared} {h₀ h : Heap} {L : Addr} {m : Str → Option Value} {news : List (Addr × Obj)} {value slice : Expr} {x y : Str} {t : Tok} {Q : Value → Shared → Prop}
theorem slice_ns_to {j : Int} {uj : Tok} (hF : Fr h₀ L s.heap m) (hN : News h₀ L s.heap news) (e : Txt.slice x none (some j) = y) (hsz : x.length ≤ 16000000) (h : ∀ h' t' k, Fr h₀ L h' m → News h₀ L h' news → Q (.str y t') { s with heap := h', toks := k })
  (hs : subscripted slice false (.str x t) (.ref s.heap.objs.size) = operate [.ref s.heap.objs.size, .str x t] (getItem (.str x t) (.ref s.heap.objs.size)))
  (ht : ∀ r, letTemporaryGo value (.str x t) r = pure ()) :
  wpAny (model prog w) A (subscriptTail value slice (.str x t) (.ref s.heap.objs.size)) Q E { s with heap := s.heap.push { cls := .type "slice", data := .fields #[.none, .int j uj, .none] } } :=
 slice_strN_ns hF hN (fun h' t' k F N => by rw [e]; exact h h' t' k F N) hs ht (by rw [sizeLine_eq]; exact Nat.le_trans (by assumption) (by decide))
theorem slice_sn_to {j : Int} {uj : Tok} (hF : Fr h₀ L s.heap m) (hN : News h₀ L s.heap news) (e : Txt.slice x (some j) none = y) (hsz : x.length ≤ 16000000) (h : ∀ h' t' k, Fr h₀ L h' m → News h₀ L h' news → Q (.str y t') { s with heap := h', toks := k })
  (hs : subscripted slice false (.str x t) (.ref s.heap.objs.size) = operate [.ref s.heap.objs.size, .str x t] (getItem (.str x t) (.ref s.heap.objs.size)))
  (ht : ∀ r, letTemporaryGo value (.str x t) r = pure ()) :
  wpAny (model prog w) A (subscriptTail value slice (.str x t) (.ref s.heap.objs.size)) Q E { s with heap := s.heap.push { cls := .type "slice", data := .fields #[.int j uj, .none, .none] } } :=
 slice_strN_sn hF hN (fun h' t' k F N => by rw [e]; exact h h' t' k F N) hs ht (by rw [sizeLine_eq]; exact Nat.le_trans (by assumption) (by decide))
end
end Mine
end
section
namespace Mine
open PySem PySem.W PySem.Calls PySem.Spec PyProof.Rows
theorem inc_length (counts : List Int) (p : Int) (h : counts.length ≤ 2000) (hp : p ≤ 1000) : (inc counts p).length ≤ 2000 := by
 unfold inc
 simp only [List.length_set, List.length_append, List.length_replicate]
 exact gr_le h (Int.le_trans (Int.add_le_add_right hp 1) (by decide))
theorem text_ne (x : Str) (j c : Nat) (h : x.cps.toList = List.replicate j c) : (x == Str.ofString "") = true ↔ j = 0 := by
 rw [beq_iff_eq]
 constructor
 ·intro e
  rw [e] at h
  have := congrArg List.length h
  rw [List.length_replicate] at this
  exact this.symm
 ·rintro rfl
  apply PySem.Str.ext'
  apply Array.toList_inj.mp
  rw [h]; rfl
end Mine
end
section
namespace Mine
open PySem PySem.W PySem.Calls PySem.Spec PyProof.Rows
theorem digV_append (n : Nat) : ∀ (a b : List Int), digV n (a ++ b) = digV n a + 2 ^ (n * a.length) * digV n b
 | [], b => by simp [digV]
 | d :: r, b => by
  show d + 2 ^ n * digV n (r ++ b) = (d + 2 ^ n * digV n r) + 2 ^ (n * (r.length + 1)) * digV n b
  rw [digV_append n r b, Nat.mul_succ, Int.pow_add, Int.mul_add, Int.mul_comm (2 ^ (n * r.length)) (2 ^ n), Int.mul_assoc]
  lia
theorem digV_bounds (n : Nat) : ∀ (ds : List Int), (∀ x ∈ ds, 0 ≤ x ∧ x < 2 ^ n) → 0 ≤ digV n ds ∧ digV n ds < 2 ^ (n * ds.length)
 | [], _ => by simp [digV]
 | d :: r, h => by
  have h1 := h d List.mem_cons_self
  have h2 := digV_bounds n r (fun x hx => h x (List.mem_cons_of_mem _ hx))
  have hp : (0 : Int) < 2 ^ n := Int.pow_pos (by decide)
  have e : (2 : Int) ^ (n * (d :: r).length) = 2 ^ n * 2 ^ (n * r.length) := by
   rw [List.length_cons, Nat.mul_succ, Int.pow_add, Int.mul_comm]
  rw [e]
  show 0 ≤ d + 2 ^ n * digV n r ∧ d + 2 ^ n * digV n r < 2 ^ n * 2 ^ (n * r.length)
  have h3 : 0 ≤ 2 ^ n * digV n r := Int.mul_nonneg (Int.le_of_lt hp) h2.1
  have h4 : 2 ^ n * (digV n r + 1) ≤ 2 ^ n * 2 ^ (n * r.length) := Int.mul_le_mul_of_nonneg_left (by exact And.right (by assumption)) (Int.le_of_lt hp)
  rw [Int.mul_add, Int.mul_one] at h4
  exact ⟨Int.add_nonneg h1.1 h3, Int.lt_of_lt_of_le (Int.add_lt_add_right h1.2 _) (by rw [Int.add_comm]; exact h4)⟩
noncomputable def cut (ns : List Int) (lo hi : Int) : List Int := (ns.drop lo.toNat).take (hi - lo).toNat
theorem cut_one (ns : List Int) (lo : Int) (h0 : 0 ≤ lo) (h1 : lo < ns.length) : cut ns lo (lo + 1) = [ns.getD lo.toNat 0] := by
 unfold cut
 have e : (lo + 1 - lo).toNat = 1 := by lia
 have hl : lo.toNat < ns.length := by lia
 rw [e, List.drop_eq_getElem_cons hl, List.take_succ_cons, List.take_zero, List.getD_eq_getElem?_getD, List.getElem?_eq_getElem hl]; rfl
theorem cut_split (ns : List Int) (lo mid hi : Int) (h0 : 0 ≤ lo) (h1 : lo ≤ mid) (h2 : mid ≤ hi) : cut ns lo hi = cut ns lo mid ++ cut ns mid hi := by
 obtain ⟨a, rfl⟩ := Int.eq_ofNat_of_zero_le h0
 obtain ⟨d, rfl⟩ := Int.le.dest h1
 obtain ⟨e, rfl⟩ := Int.le.dest h2
 have q : ∀ (x : Int) (y : Nat), (x + y - x).toNat = y := fun x y => by rw [Int.add_comm, Int.add_sub_cancel]; rfl
 have r : ((a : Int) + d + e - a).toNat = d + e := by rw [Int.add_assoc]; exact q _ (d + e)
 show List.take _ _ = List.take _ _ ++ List.take _ _
 rw [r, q, q, List.take_add, List.drop_drop]; rfl
theorem cut_length (ns : List Int) (lo hi : Int) (h0 : 0 ≤ lo) (h2 : hi ≤ ns.length) : (cut ns lo hi).length = (hi - lo).toNat := by
 obtain ⟨a, rfl⟩ := Int.eq_ofNat_of_zero_le h0
 show (List.take _ _).length = _
 rw [List.length_take, List.length_drop, Int.toNat_natCast]
 exact Nat.min_eq_left (Int.toNat_sub ns.length a ▸ Int.toNat_le_toNat (Int.sub_le_sub_right h2 _))
theorem cut_mem {ns : List Int} {lo hi x : Int} (h : x ∈ cut ns lo hi) : x ∈ ns := List.mem_of_mem_drop (List.mem_of_mem_take h)
theorem cut_all (ns : List Int) : cut ns 0 ns.length = ns := by
 unfold cut
 rw [show (0 : Int).toNat = 0 from rfl, List.drop_zero, List.take_of_length_le (by exact Nat.le_refl _)]
theorem bits_le {x : Int} {m : Nat} (h0 : 0 ≤ x) (h : x < 2 ^ m) : Builtin.Int.intBits x ≤ m := intBits_le_iff.mpr (by
 have e : ((2 ^ m : Nat) : Int) = 2 ^ m := by simp
 grind only)
theorem bits_lt {x : Int} {m : Nat} (h0 : 0 ≤ x) (h : Builtin.Int.intBits x ≤ m) : x < 2 ^ m := by
 have := intBits_le_iff.mp h
 have e : ((2 ^ m : Nat) : Int) = 2 ^ m := by simp
 lia
theorem and_self (x : Int) : Builtin.bitAnd x x = x := by
 have := bitXor_and x x
 rw [bitXor_self] at this
 lia
theorem and_high : ∀ (s : Nat) (x : Int), Builtin.bitAnd x (x / 2 ^ s * 2 ^ s) = x / 2 ^ s * 2 ^ s
 | 0, x => by simp [and_self]
 | s + 1, x => by
  have e1 : x / 2 ^ (s + 1) = x / 2 / 2 ^ s := by rw [Int.pow_succ', ← Int.ediv_ediv_of_nonneg (by decide)]
  have e2 : x / 2 ^ (s + 1) * 2 ^ (s + 1) = 2 * (x / 2 / 2 ^ s * 2 ^ s) := by rw [e1, Int.pow_succ, ← Int.mul_assoc, Int.mul_comm]
  have ih := and_high s (x / 2)
  rw [kbt_halves, e2]
  generalize x / 2 / 2 ^ s * 2 ^ s = v at *
  rw [Int.mul_ediv_cancel_left _ (by decide), ih, if_neg (by lia)]
  exact Int.add_zero _
theorem xor_low (x : Int) (s : Nat) : Builtin.bitXor x (x.fdiv (2 ^ s) * 2 ^ s) = x % 2 ^ s := by
 have hp : (0 : Int) < 2 ^ s := Int.pow_pos (by decide)
 rw [Int.fdiv_eq_ediv_of_nonneg _ (Int.le_of_lt hp), bitXor_and, and_high]
 have := Int.mul_ediv_add_emod x (2 ^ s)
 rw [Int.mul_comm] at this
 lia
noncomputable def put (ns : List Int) (lo : Int) (ds : List Int) : List Int := ns.take lo.toNat ++ ds ++ ns.drop (lo.toNat + ds.length)
theorem put_one (ns : List Int) (lo x : Int) (h0 : 0 ≤ lo) (h1 : lo < ns.length) : put ns lo [x] = ns.set lo.toNat x := by
 unfold put
 rw [List.set_eq_take_append_cons_drop, if_pos (by lia)]
 simp
theorem put_length (ns : List Int) (lo : Int) (ds : List Int) (h0 : 0 ≤ lo) (h1 : lo + ds.length ≤ ns.length) : (put ns lo ds).length = ns.length := by
 unfold put
 rw [List.length_append, List.length_append, List.length_take, List.length_drop, Nat.min_eq_left (by lia)]
 exact Nat.add_sub_cancel' (by lia)
theorem put_put (ns : List Int) (lo mid : Int) (d1 d2 : List Int) (h0 : 0 ≤ lo) (h1 : mid = lo + d1.length) (h2 : mid + d2.length ≤ ns.length) : put (put ns lo d1) mid d2 = put ns lo (d1 ++ d2) := by
 unfold put
 have e1 : (ns.take lo.toNat ++ d1).length = mid.toNat := by rw [List.length_append, List.length_take, Nat.min_eq_left (Int.toNat_le.2 (Int.le_trans (h1 ▸ Int.le_add_of_nonneg_right (Int.natCast_nonneg d1.length)) (Int.le_trans (Int.le_add_of_nonneg_right (Int.natCast_nonneg d2.length)) h2))), h1, Int.toNat_add h0 (Int.natCast_nonneg _)]; rfl
 have e2 : (ns.take lo.toNat ++ d1 ++ ns.drop (lo.toNat + d1.length)).take mid.toNat = ns.take lo.toNat ++ d1 := by
  rw [← e1, List.take_left]
 have e3 : (ns.take lo.toNat ++ d1 ++ ns.drop (lo.toNat + d1.length)).drop (mid.toNat + d2.length) = ns.drop (lo.toNat + (d1 ++ d2).length) := by
  rw [← List.drop_drop, ← e1, List.drop_left, List.drop_drop, List.length_append]
  congr 1
  lia
 rw [e2, e3, List.append_assoc (ns.take lo.toNat) d1 d2]
theorem put_all (ns ds : List Int) (h : ds.length = ns.length) : put ns 0 ds = ds := by
 unfold put
 rw [show (0 : Int).toNat = 0 from rfl, List.take_zero, Nat.zero_add, h, List.drop_length]; simp
theorem split_bounds {x : Int} {n : Nat} {a b : Nat} (h0 : 0 ≤ x) (h : x < 2 ^ (n * (a + b))) : 0 ≤ x.fdiv (2 ^ (n * a)) ∧ x.fdiv (2 ^ (n * a)) < 2 ^ (n * b) ∧ 0 ≤ x % 2 ^ (n * a) ∧ x % 2 ^ (n * a) < 2 ^ (n * a) ∧ x % 2 ^ (n * a) + 2 ^ (n * a) * x.fdiv (2 ^ (n * a)) = x := by
 have hp : (0 : Int) < 2 ^ (n * a) := Int.pow_pos (by decide)
 rw [Int.fdiv_eq_ediv_of_nonneg _ (Int.le_of_lt hp)]
 refine ⟨Int.ediv_nonneg h0 (Int.le_of_lt hp), ?_, Int.emod_nonneg _ (Int.ne_of_gt hp), Int.emod_lt_of_pos _ hp, ?_⟩
 ·refine Int.ediv_lt_of_lt_mul hp ?_
  rw [Nat.mul_add, Int.pow_add, Int.mul_comm] at h
  exact h
 ·have := Int.mul_ediv_add_emod x (2 ^ (n * a))
  lia
end Mine
end
section
namespace Mine
open PySem PySem.W PySem.Calls PySem.Spec PyProof.Rows
end Mine
end
section
namespace Mine
open PySem PySem.W PySem.Calls PySem.Spec PyProof.Rows
section
variable {prog : Program} {w : World} {A : Around} {s : Shared} {env : Env} {h₀ : Heap} {x : Str} {px : Pos} {body orelse : List Stmt} {m₀ : Str → Option Value} {news : List (Addr × Obj)}
theorem compGT {L : Addr} {m : Str → Option Value} {ct elt : Expr} {scope : Scope} {cl : List (Str × Addr)} {S : List (Addr × Obj) → Prop} {P : Nat → Value → Prop} {Fin : List Value → List (Addr × Obj) → Prop} (J : Nat → List Value → List (Addr × Obj) → Prop) (n : Nat) (h0 : J 0 [] news)
  (turn : ∀ i v ys news₁ I oI C oC D m₂ h tk (E' : Value → Shared → Prop), i < n → P i v → J i ys news₁ → LCg.NsObj oC m₂ → m₂ x = some v → Fr h₀ L h m → News h₀ L h ((I, oI) :: (C, oC) :: (D, LCg.lst ys) :: news₁) → LCg.Off3 I C D news₁ → ((@Ne Nat I C) ∧ (@Ne Nat I D) ∧ (@Ne Nat C D)) →
   wpAny (model prog w) A (isTrue ct (compEnvC scope cl C env) (eval ct (compEnvC scope cl C env))) (fun b s' => if b = true then
    wpAny (model prog w) A (eval elt (compEnvC scope cl C env)) (LCg.CompEnd h₀ L m { s with heap := h, toks := tk } I oI C oC D (LCg.lst ys) S (fun y news' => J (i + 1) (ys ++ [y]) news')) E' s'
    else LCg.CompEnd h₀ L m { s with heap := h, toks := tk } I oI C oC D (LCg.lst ys) S (fun _ news' => J (i + 1) ys news') Value.none s') E' { s with heap := h, toks := tk })
  (fin : ∀ ys news₁, J n ys news₁ → Fin ys news₁) : LCt.CompRestT prog w A h₀ L m env ct elt x scope cl s S P Fin n 0 [] news := by
 have key : ∀ (j i : Nat) (ys : List Value) news₁, i + j = n → J i ys news₁ → LCt.CompRestT prog w A h₀ L m env ct elt x scope cl s S P Fin j i ys news₁ := by
  intro j
  induction j with
  | zero =>
   intro i ys news₁ hi hJ
   obtain rfl : i = n := by assumption
   exact LCt.CompRestT.zero (fin ys news₁ hJ)
  | succ j ih =>
   intro i ys news₁ hi hJ
   refine LCt.CompRestT.succ ?_
   intro v I oI C oC D m₂ h tk E' hv hC hx F N off ne
   refine wpAny_mono (turn i v ys news₁ I oI C oC D m₂ h tk E' (by lia) hv hJ hC hx F N off ne) (fun b s₂ hq => ?_) fun _ _ e => e
   cases b with
   | true =>
    simp only [if_true] at hq ⊢
    refine wpAny_mono hq (fun y s₃ hr => ?_) fun _ _ e => e
    (refine el_EEEAAAAA hr fun h' tk' nw => ?_; try clear hr; intro e F' N' off' hS hJ')
    exact ⟨h', tk', nw, e, F', N', off', hS, ih (i + 1) _ nw (by grind only) hJ'⟩
   | false =>
    simp only [Bool.false_eq_true, if_false] at hq ⊢
    (refine el_EEEAAAAA hq fun h' tk' nw => ?_; try clear hq; intro e F' N' off' hS hJ')
    exact ⟨h', tk', nw, e, F', N', off', hS, ih (i + 1) _ nw (by lia) hJ'⟩
 exact key n 0 [] news (by exact Nat.add_comm _ _) h0
end
end Mine
end
section
namespace Mine
open PySem PySem.W PySem.Calls PySem.Spec PyProof.Rows
section
variable {prog : Program} {w : World} {A : Around} {s : Shared} {env : Env} {h₀ : Heap} {x : Str} {px : Pos} {body orelse : List Stmt} {m₀ : Str → Option Value} {news : List (Addr × Obj)}
end
end Mine
end
section
namespace Mine
open PySem PySem.W PySem.Calls PySem.Spec PyProof.Rows
noncomputable abbrev itO (l : Addr) (i : Nat) : Obj := { cls := .type "list_iterator", data := .fields #[.ref l, .int i 0] }
noncomputable abbrev itE (i : Nat) : Obj := { cls := .type "list_iterator", data := .fields #[.none, .int i 0] }
section
variable {prog : Program} {w : World} {A : Around} {E : Value → Shared → Prop} {s : Shared} {h₀ : Heap} {L D I : Addr} {m : Str → Option Value} {news news' : List (Addr × Obj)} {vs : List Value} {n i : Nat} {x : Value}
theorem my_iter {Q : Value → Shared → Prop} (F : Fr h₀ L s.heap m) (N : News h₀ L s.heap news) (hl : s.heap.IsList D vs.toArray)
  (h : ∀ (I : Addr) h', Fr h₀ L h' m → News h₀ L h' ((I, itO D 0) :: news) → (∀ p ∈ news, p.1 < I) → Q (.ref I) { s with heap := h' }) :
  wpAny (model prog w) A (call (.builtin "iter") [.ref D]) Q E s := by
 refine call_function_entry (by decide +kernel) (by decide +kernel) kdk_entry_iter (kdk_args_iter _) ?_
 unfold Builtin.«iter»
 refine wpAny_bind (m := someArgs "iter" 1 2 _) (wpAny_of_eq (a := [Value.ref D]) (by first | rfl | kernel_rfl!) ?_)
 show wpAny _ _ (pyIter (.ref D) >>= _) _ _ _
 refine wpAny_bind (wpAny_pyIter_list hl ?_)
 exact wpAny_pure ⟨_, rfl, h _ _ (F.push _) (News.push F N _ rfl) (fun q hq => Heap.lt_size (N q hq).1)⟩
theorem my_next {Q : Value → Shared → Prop} (F : Fr h₀ L s.heap m) (N : News h₀ L s.heap news) (U : Upd I (itO D i) (itO D (i + 1)) news news') (hl : s.heap.IsList D vs.toArray) (hx : vs[i]? = some x)
  (h : ∀ h', Fr h₀ L h' m → News h₀ L h' news' → Q x { s with heap := h' }) :
  wpAny (model prog w) A (call (.builtin "next") [.ref I]) Q E s := by
 (refine el_EERRA (U.split) fun pre post z09 z19 => ?_; subst z09; subst z19; intro a b)
 have hm := N (I, itO D i) (List.mem_append_right _ (.head _))
 (refine el_EAAE hl fun ol nl => ?_; try clear hl; intro hol _ hdl)
 have hit : s.heap.IsListIter I D i := ⟨_, hm.1, rfl, rfl⟩
 refine call_function_entry (by decide +kernel) (by decide +kernel) kdk_entry_next (kdk_args_next _) ?_
 unfold Builtin.«next»
 refine wpAny_bind (m := someArgs "next" 1 2 _) (wpAny_of_eq (a := [Value.ref I]) (by first | rfl | kernel_rfl!) ?_)
 dsimp only
 refine wpAny_bind (wpAny_specialOf (name := Str.ofString "__next__") hit.typeIs slot_listiter_next.lookup ?_)
 refine wpAny_ite_split (fun hab => absurd hab (by decide)) (fun _ => ?_)
 refine wpAny_bind ?_
 refine wpAny_callSpecial?_slot (name := Str.ofString "__next__") hit.typeIs slot_listiter_next
  (wpAny_call_entry slot_listiter_next hit.typeIs entry_listiter_next ?_ (args_listiter_next _))
 show wpAny _ _ (field (.ref I) 0 >>= _) _ _ s
 refine wpAny_bind (wpAny_field hm.1 rfl (x := .ref D) rfl ?_)
 show wpAny _ _ (if (Value.ref D == Value.none) = true then _ else _) _ _ s
 rw [if_neg (show ¬ ((Value.ref D == Value.none) = true) from Bool.false_ne_true)]
 show wpAny _ _ (field (.ref I) 1 >>= _) _ _ s
 refine wpAny_bind (wpAny_field hm.1 rfl (x := .int i 0) rfl ?_)
 show wpAny _ _ (seqItems? (.ref D) >>= _) _ _ s
 refine wpAny_bind (wpAny_seqItems hol hdl ?_)
 have hx' : vs.toArray[i]? = some x := by simpa using hx
 simp only [Int.toNat_natCast, hx']
 refine wpAny_bind (wpAny_setField hm.1 rfl (by simp) (wpAny_pure ⟨x, rfl, ?_⟩))
 refine wpAny_pure ⟨_, rfl, h _ (F.change (Heap.SameBut.update ..) hm.2.1 hm.2.2) (N.setIn a b (Heap.SameBut.update ..) ?_)⟩
 rw [Heap.get?_update_self _ hm.1 rfl]
 rfl
theorem my_next_end {Q : Value → Shared → Prop} (hA : A.handled = none) (F : Fr h₀ L s.heap m) (N : News h₀ L s.heap news) (U : Upd I (itO D i) (itE i) news news') (hl : s.heap.IsList D vs.toArray) (hx : vs[i]? = none)
  (h : ∀ h₁ h' tk e, Fr h₀ L h₁ m → News h₀ L h₁ news' → Heap.NewExc h₁ h' e "StopIteration" → E (.ref e) { s with heap := h', toks := tk }) :
  wpAny (model prog w) A (call (.builtin "next") [.ref I]) Q E s := by
 (refine el_EERRA (U.split) fun pre post z09 z19 => ?_; subst z09; subst z19; intro a b)
 have hm := N (I, itO D i) (List.mem_append_right _ (.head _))
 (refine el_EAAE hl fun ol nl => ?_; try clear hl; intro hol _ hdl)
 have hit : s.heap.IsListIter I D i := ⟨_, hm.1, rfl, rfl⟩
 refine call_function_entry (by decide +kernel) (by decide +kernel) kdk_entry_next (kdk_args_next _) ?_
 unfold Builtin.«next»
 refine wpAny_bind (m := someArgs "next" 1 2 _) (wpAny_of_eq (a := [Value.ref I]) (by first | rfl | kernel_rfl!) ?_)
 dsimp only
 refine wpAny_bind (wpAny_specialOf (name := Str.ofString "__next__") hit.typeIs slot_listiter_next.lookup ?_)
 refine wpAny_ite_split (fun hab => absurd hab (by decide)) (fun _ => ?_)
 refine wpAny_bind ?_
 refine wpAny_callSpecial?_slot (name := Str.ofString "__next__") hit.typeIs slot_listiter_next
  (wpAny_call_entry slot_listiter_next hit.typeIs entry_listiter_next ?_ (args_listiter_next _))
 show wpAny _ _ (field (.ref I) 0 >>= _) _ _ s
 refine wpAny_bind (wpAny_field hm.1 rfl (x := .ref D) rfl ?_)
 show wpAny _ _ (if (Value.ref D == Value.none) = true then _ else _) _ _ s
 rw [if_neg (show ¬ ((Value.ref D == Value.none) = true) from Bool.false_ne_true)]
 show wpAny _ _ (field (.ref I) 1 >>= _) _ _ s
 refine wpAny_bind (wpAny_field hm.1 rfl (x := .int i 0) rfl ?_)
 show wpAny _ _ (seqItems? (.ref D) >>= _) _ _ s
 refine wpAny_bind (wpAny_seqItems hol hdl ?_)
 have hx' : vs.toArray[i]? = none := by simpa using hx
 simp only [Int.toNat_natCast, hx']
 refine wpAny_bind (wpAny_rule (wpAny_bind (wpAny_setField hm.1 rfl (by simp) ?_)))
 show wpAny _ _ (newExc (.type "StopIteration") [] >>= _) _ _ _
 refine wpAny_bind ?_
 simp only [newExc, newTuple]
 refine wpAny_bind (wpAny_newObj_type ?_ (by size_fits))
 refine wpAny_bind (m := firstArgMember _ _) (wpAny_of_eq (a := Value.none) (by first | rfl | (simp only [firstArgMember]; rfl)) ?_)
 refine wpAny_newObj_type ?_ (by size_fits)
 simp only [raiseNew]
 refine wpAny_bind (wpAny_handled ?_)
 rw [show A.handled = none from hA]
 refine wpAny_bind (wpAny_pure (wpAny_throw ?_))
 refine h _ _ _ _ (F.change (Heap.SameBut.update ..) hm.2.1 hm.2.2) (N.setIn a b (Heap.SameBut.update ..) ?_) ⟨fun b o e => Heap.get?_push_of_some _ (Heap.get?_push_of_some _ e), ?_, ?_⟩
 ·rw [Heap.get?_update_self _ hm.1 rfl]; rfl
 ·exact Heap.get?_none_of_le (by simp)
 ·exact ⟨_, _, Heap.get?_push_size _ rfl, rfl, rfl⟩
end
end Mine
end
section
namespace Mine
open PySem PySem.W PySem.Calls PySem.Spec PyProof.Rows
noncomputable def toldOf (z : Int) (x : Int) : List Int := List.replicate (red z x 1).2.toNat (red z x 1).1
noncomputable def toldF (z : Int) (parts : List Int) : List Int := parts.reverse.flatMap (toldOf z)
theorem red_tab {z x : Int} (hz : z = 2 ∨ z = 3) (h1 : 1 ≤ x) (h9 : x ≤ 9) :
  red z x 1 = if z = 2 then (if x = 2 then (1, 2) else if x = 4 then (1, 4) else if x = 8 then (1, 8) else if x = 6 then (3, 2) else (x, 1))
   else (if x = 3 then (1, 3) else if x = 9 then (1, 9) else if x = 6 then (2, 3) else (x, 1)) := by
 have h : x = 1 ∨ x = 2 ∨ x = 3 ∨ x = 4 ∨ x = 5 ∨ x = 6 ∨ x = 7 ∨ x = 8 ∨ x = 9 := by lia
 rcases hz with rfl | rfl <;> rcases h with rfl | rfl | rfl | rfl | rfl | rfl | rfl | rfl | rfl <;>
  (repeat (rw [red]; simp (config := { decide := true }) only [and_self, if_true, if_false, Int.reduceMod, Int.reduceDiv, Int.reduceMul]; try rfl))
theorem red_facts {z x : Int} (hz : z = 2 ∨ z = 3) (h1 : 1 ≤ x) (h9 : x ≤ 9) : 1 ≤ (red z x 1).1 ∧ (red z x 1).1 ≤ x ∧ 1 ≤ (red z x 1).2 ∧ (red z x 1).2 ≤ x ∧ (red z x 1).1 * (red z x 1).2 = x ∧ (red z x 1).1 % z ≠ 0 := by
 rw [red_tab hz h1 h9]
 have h : x = 1 ∨ x = 2 ∨ x = 3 ∨ x = 4 ∨ x = 5 ∨ x = 6 ∨ x = 7 ∨ x = 8 ∨ x = 9 := by lia
 rcases hz with rfl | rfl <;> rcases h with rfl | rfl | rfl | rfl | rfl | rfl | rfl | rfl | rfl <;> decide
noncomputable def wsum (f : Int → Int) (k : Int) : List Int → Int
 | [] => 0
 | c :: r => f k * c + wsum f (k + 1) r
theorem wsum_append (f : Int → Int) : ∀ (a b : List Int) (k : Int), wsum f k (a ++ b) = wsum f k a + wsum f (k + a.length) b
 | [], b, k => by simp [wsum]
 | c :: r, b, k => by
  simp only [List.cons_append, wsum, List.length_cons, wsum_append f r b]
  rw [show k + 1 + (r.length : Int) = k + ((r.length + 1 : Nat) : Int) by lia, Int.add_assoc]
theorem wsum_zeros (f : Int → Int) : ∀ (n : Nat) (k : Int), wsum f k (List.replicate n 0) = 0
 | 0, k => rfl
 | n + 1, k => by rw [List.replicate_succ, wsum, wsum_zeros f n]; lia
theorem wsum_set (f : Int → Int) : ∀ (a : List Int) (i : Nat) (d k : Int), i < a.length → wsum f k (a.set i (a.getD i 0 + d)) = wsum f k a + f (k + i) * d
 | [], i, d, k, h => by simp at h
 | c :: r, 0, d, k, h => by simp only [List.set_cons_zero, wsum, List.getD_cons_zero, Int.mul_add]; simp; lia
 | c :: r, i + 1, d, k, h => by
  simp only [List.set_cons_succ, wsum, List.getD_cons_succ]
  rw [wsum_set f r i d (k + 1) (by simpa using h)]
  rw [show k + 1 + (i : Int) = k + ((i + 1 : Nat) : Int) by lia, Int.add_assoc]
theorem wsum_bump (f : Int → Int) (cnt : List Int) (b : Int) (hb : 0 ≤ b) : wsum f 0 (bump cnt b) = wsum f 0 cnt + f b := by
 unfold bump
 dsimp only
 rw [wsum_set f _ _ _ _ ((Int.toNat_lt hb).2 (by split <;> first | (rw [List.length_append, List.length_replicate, gr_e]; exact gr_lt (Int.lt_add_one_of_le (Int.le_refl b))) | exact Int.not_le.1 (by assumption)))]
 rw [show (0 : Int) + (b.toNat : Int) = b by lia, Int.mul_one]
 split
 ·rw [wsum_append, wsum_zeros, Int.add_zero]
 ·rfl
theorem bump_getD (cnt : List Int) (b : Int) (hb : 0 ≤ b) (i : Nat) : (bump cnt b).getD i 0 = cnt.getD i 0 + if i = b.toNat then 1 else 0 := by
 unfold bump
 dsimp only
 have key : ∀ c : List Int, b < c.length → (c.set b.toNat (c.getD b.toNat 0 + 1)).getD i 0 = c.getD i 0 + if i = b.toNat then 1 else 0 := by
  intro c hc
  simp only [List.getD_eq_getElem?_getD, List.getElem?_set]
  by_cases h : b.toNat = i
  ·subst h
   rw [if_pos rfl, if_pos (by lia), if_pos rfl]; rfl
  ·rw [if_neg h, if_neg (fun e => h e.symm), Int.add_zero]
 split
 ·rw [key _ (by rw [List.length_append, List.length_replicate, gr_e]; exact gr_lt (Int.lt_add_one_of_le (Int.le_refl b)))]
  congr 1
  simp only [List.getD_eq_getElem?_getD, List.getElem?_append]
  split
  ·rfl
  ·rw [List.getElem?_replicate]
   rw [List.getElem?_eq_none (by exact Nat.le_of_not_lt (by assumption))]
   split <;> rfl
 ·exact key _ (by exact Int.not_le.mp (by assumption))
theorem bump_length (cnt : List Int) (b : Int) (hb : 0 ≤ b) : ((bump cnt b).length : Int) = if (cnt.length : Int) ≤ b then b + 1 else cnt.length := by
 unfold bump
 dsimp only
 rw [List.length_set]
 split
 ·rw [List.length_append, List.length_replicate, gr_e]; exact gr (Int.le_add_one (by assumption))
 ·rfl
noncomputable def cntF (f : Int) (ns : List Int) (c : List Int) : List Int := ns.foldl (fun c k => bump c (k - f)) c
theorem run_spaces : ∀ (k : Nat) (r : List Nat) (n b nt : Int) (cnt : List Int), wsRun (List.replicate k 32 ++ 9 :: r) n b nt cnt = wsRun r (n + k + 1) 0 (nt + 1) (bump cnt (b + k))
 | 0, r, n, b, nt, cnt => by simp [wsRun]
 | k + 1, r, n, b, nt, cnt => by
  rw [List.replicate_succ, List.cons_append, wsRun, if_pos rfl, run_spaces k]
  rw [show n + 1 + (k : Int) + 1 = n + ((k + 1 : Nat) : Int) + 1 by lia, show b + 1 + (k : Int) = b + ((k + 1 : Nat) : Int) by lia]
theorem run_codes (f : Int) : ∀ (ns : List Int) (r : List Nat) (n nt : Int) (cnt : List Int), (∀ x ∈ ns, f ≤ x) →
  wsRun (leadCodes f ns ++ r) n 0 nt cnt = wsRun r (n + (ns.map fun k => k - f + 1).sum) 0 (nt + ns.length) (cntF f ns cnt)
 | [], r, n, nt, cnt, h => by simp [leadCodes, cntF]
 | k :: ns, r, n, nt, cnt, h => by
  have hk := h k List.mem_cons_self
  have e : leadCodes f (k :: ns) ++ r = List.replicate (k - f).toNat 32 ++ 9 :: (leadCodes f ns ++ r) := by
   simp [leadCodes]
  rw [e, run_spaces, run_codes f ns r _ _ _ (fun x hx => h x (List.mem_cons_of_mem _ hx))]
  rw [Int.toNat_of_nonneg (Int.sub_nonneg_of_le hk), List.map_cons, List.sum_cons, List.length_cons, Int.zero_add]
  rw [show n + (k - f) + 1 + (List.map (fun k => k - f + 1) ns).sum = n + (k - f + 1 + (List.map (fun k => k - f + 1) ns).sum) by lia, show nt + 1 + (ns.length : Int) = nt + ((ns.length + 1 : Nat) : Int) by lia]
  rfl
theorem wsum_cntF (g : Int → Int) (f : Int) : ∀ (ns cnt : List Int), (∀ x ∈ ns, f ≤ x) → wsum g 0 (cntF f ns cnt) = wsum g 0 cnt + (ns.map fun k => g (k - f)).sum
 | [], cnt, h => by simp [cntF]
 | k :: ns, cnt, h => by
  show wsum g 0 (cntF f ns (bump cnt (k - f))) = _
  rw [wsum_cntF g f ns _ (fun x hx => h x (List.mem_cons_of_mem _ hx)), wsum_bump g cnt _ (by have := h k List.mem_cons_self; lia), List.map_cons, List.sum_cons, Int.add_assoc]
theorem cntF_getD (f : Int) (i : Nat) : ∀ (ns cnt : List Int), (∀ x ∈ ns, f ≤ x) → (cntF f ns cnt).getD i 0 = cnt.getD i 0 + (ns.map fun k => if i = (k - f).toNat then (1 : Int) else 0).sum
 | [], cnt, h => by simp [cntF]
 | k :: ns, cnt, h => by
  show (cntF f ns (bump cnt (k - f))).getD i 0 = _
  rw [cntF_getD f i ns _ (fun x hx => h x (List.mem_cons_of_mem _ hx)), bump_getD cnt _ (by have := h k List.mem_cons_self; lia), List.map_cons, List.sum_cons, Int.add_assoc]
theorem ilF_wsum (ts : Int) (h : 1 ≤ ts) (cnt : List Int) : ilF ts cnt = wsum (fun k => k / ts) 0 cnt := by
 have key : ∀ (r pre : List Int) (acc : Int), cnt = pre ++ r → ts ≤ pre.length → (rangeKs pre.length r.length).foldl (fun il i => il + i / ts * cnt.getD i.toNat 0) acc = acc + wsum (fun k => k / ts) pre.length r := by
  intro r
  induction r with
  | nil => intro pre acc h1 h2; simp [rangeKs, wsum]
  | cons c r ih =>
   intro pre acc h1 h2
   have e : rangeKs (pre.length : Int) (c :: r).length = (pre.length : Int) :: rangeKs ((pre ++ [c]).length : Int) r.length := by
    unfold rangeKs
    rw [List.length_cons, List.range_succ_eq_map, List.map_cons, List.map_map]
    rw [show (pre.length : Int) + ((0 : Nat) : Int) = pre.length by exact Int.add_zero _]
    congr 1
    apply List.map_congr_left
    intro a ha
    simp only [Function.comp, List.length_append, List.length_cons, List.length_nil]; lia
   rw [e, List.foldl_cons, ih (pre ++ [c]) _ (by rw [h1]; simp) (by rw [List.length_append]; exact Int.le_add_one (by assumption))]
   rw [wsum]
   have hc : cnt.getD (pre.length : Int).toNat 0 = c := by
    rw [h1, Int.toNat_natCast, List.getD_eq_getElem?_getD]; simp
   rw [hc, Int.add_assoc]
   congr 2
   rw [List.length_append]; rfl
 have low : ∀ (a : List Int) (k : Int), 0 ≤ k → k + a.length ≤ ts → wsum (fun k => k / ts) k a = 0 := by
  intro a
  induction a with
  | nil => intros; rfl
  | cons c r ih =>
   intro k h0 h1
   rw [List.length_cons] at h1
   rw [wsum, ih (k + 1) (by exact Int.le_add_one (by assumption)) (by lia)]
   show k / ts * c + 0 = 0
   rw [Int.ediv_eq_zero_of_lt h0 (by lia)]; lia
 unfold ilF
 by_cases hl : ts ≤ cnt.length
 ·have a := Nat.min_eq_left (Int.toNat_le.2 hl)
  have b := Int.toNat_of_nonneg (Int.le_trans (by decide) h)
  have := key (cnt.drop ts.toNat) (cnt.take ts.toNat) 0 (List.take_append_drop _ _).symm (by rw [List.length_take, a, b]; exact Int.le_refl _)
  rw [List.length_take, List.length_drop, a] at this
  rw [b, ← Int.toNat_sub, b] at this
  rw [this, Int.zero_add]
  conv => rhs; rw [← List.take_append_drop ts.toNat cnt]
  rw [wsum_append, low _ 0 (by exact Int.natCast_nonneg _) (by rw [List.length_take, a, b, Int.zero_add]; exact Int.le_refl _), List.length_take, a, Int.zero_add, Int.zero_add, b]
 ·rw [show ((cnt.length : Int) - ts).toNat = 0 by lia, low cnt 0 (by exact Int.natCast_nonneg _) (by lia)]; rfl
theorem lvl_run (ts : Int) (h : 1 ≤ ts) (f b : Int) (ns : List Int) (hf : ∀ x ∈ ns, f ≤ x) : lvl ts b ns.length (cntF f ns []) = b + (ns.map fun k => ts * ((k - f) / ts + 1)).sum := by
 unfold lvl
 rw [ilF_wsum ts h, wsum_cntF _ f ns [] hf]
 congr 1
 show ts * (0 + _ + _) = _
 rw [Int.zero_add]
 clear hf
 induction ns with
 | nil => simp
 | cons k r ih =>
  simp only [List.map_cons, List.sum_cons, List.length_cons] at *
  rw [← ih, ← Int.mul_add]
  congr 1
  lia
end Mine
end
section
namespace Mine
open PySem PySem.W PySem.Calls PySem.Spec PyProof.Rows
theorem trim_getD (i : Nat) : ∀ (n : Nat) (gs : List Int), gs.length ≤ n → (trim gs).getD i 0 = gs.getD i 0 := by
 intro n
 induction n with
 | zero => intro gs h; have : gs = [] := List.eq_nil_of_length_eq_zero (by lia); subst this; rw [trim]; rfl
 | succ n ih =>
  intro gs h
  rw [trim]
  split
  ·rename_i hl
   rw [ih _ (by rw [List.length_dropLast]; exact Nat.sub_le_of_le_add h)]
   have hne : gs ≠ [] := fun e => by subst e; cases hl
   obtain ⟨a, b, rfl⟩ : ∃ a b, gs = a ++ [b] := ⟨_, _, (List.dropLast_concat_getLast hne).symm⟩
   have hb : b = 0 := by simpa using hl
   subst hb
   rw [List.dropLast_concat]
   simp only [List.getD_eq_getElem?_getD, List.getElem?_append]
   split
   ·rfl
   ·rename_i hi
    rw [List.getElem?_eq_none (by exact Nat.le_of_not_lt (by assumption))]
    by_cases h0 : i - a.length = 0
    ·rw [h0]; rfl
    ·rw [List.getElem?_eq_none (by simp; exact Nat.pos_of_ne_zero (by assumption))]
  ·rfl
theorem trim_last : ∀ (n : Nat) (gs : List Int), gs.length ≤ n → (trim gs).getLast? ≠ some 0 := by
 intro n
 induction n with
 | zero => intro gs h; have : gs = [] := List.eq_nil_of_length_eq_zero (by lia); subst this; rw [trim]; simp
 | succ n ih =>
  intro gs h
  rw [trim]
  split
  ·rename_i hl
   have hne : gs ≠ [] := fun e => by subst e; cases hl
   exact ih _ (by rw [List.length_dropLast]; exact Nat.sub_le_of_le_add h)
  ·assumption
theorem trimmed_ext {a b : List Int} (ha : a.getLast? ≠ some 0) (hb : b.getLast? ≠ some 0) (h : ∀ i, a.getD i 0 = b.getD i 0) : a = b := by
 have key : ∀ a b : List Int, a.getLast? ≠ some 0 → (∀ i, a.getD i 0 = b.getD i 0) → a.length ≤ b.length := by
  intro a b ha h
  by_cases hne : a = []
  ·subst hne; simp
  ·obtain ⟨a, c, rfl⟩ : ∃ a' b', a = a' ++ [b'] := ⟨_, _, (List.dropLast_concat_getLast hne).symm⟩
   have hc : c ≠ 0 := by simpa using ha
   have := h a.length
   simp only [List.getD_eq_getElem?_getD] at this
   rw [List.getElem?_append_right (Nat.le_refl _), Nat.sub_self] at this
   by_cases hb : b.length ≤ a.length
   ·rw [List.getElem?_eq_none hb] at this
    exact absurd this hc
   ·rw [List.length_append]; simp; exact Nat.lt_of_not_le (by assumption)
 have hl : a.length = b.length := Nat.le_antisymm (key a b ha h) (key b a hb fun i => (h i).symm)
 apply List.ext_getElem hl
 intro i h1 h2
 have := h i
 simp only [List.getD_eq_getElem?_getD, List.getElem?_eq_getElem h1, List.getElem?_eq_getElem h2] at this
 exact this
theorem nonneg_bump {cnt : List Int} (b : Int) (hb : 0 ≤ b) (h : ∀ i, 0 ≤ cnt.getD i 0) : ∀ i, 0 ≤ (bump cnt b).getD i 0 := by
 intro i; rw [bump_getD _ _ hb]; have := h i; split <;> lia
theorem last_getD {a : List Int} {x : Int} (h : a.getLast? = some x) : a.getD (a.length - 1) 0 = x := by
 rw [List.getLast?_eq_getElem?] at h
 rw [List.getD_eq_getElem?_getD, h]; rfl
theorem bump_last {cnt : List Int} (b : Int) (hb : 0 ≤ b) (hn : ∀ i, 0 ≤ cnt.getD i 0) (h : cnt.getLast? ≠ some 0) : (bump cnt b).getLast? ≠ some 0 := by
 intro e
 have e2 := last_getD e
 rw [bump_getD _ _ hb] at e2
 have hl := bump_length cnt b hb
 have h0 := hn ((bump cnt b).length - 1)
 by_cases hi : (bump cnt b).length - 1 = b.toNat
 ·rw [if_pos hi] at e2; lia
 ·rw [if_neg hi, Int.add_zero] at e2
  by_cases hc : (cnt.length : Int) ≤ b
  ·rw [if_pos hc] at hl; exact hi (by rw [← Int.toNat_natCast (bump cnt b).length, hl, ← Int.pred_toNat, Int.add_sub_cancel])
  ·rw [if_neg hc] at hl
   have hll : (bump cnt b).length = cnt.length := Int.ofNat_inj.1 hl
   rw [hll] at e2
   apply h
   rw [List.getLast?_eq_getElem?]
   have hlt : cnt.length - 1 < cnt.length := Nat.sub_lt (Int.ofNat_lt.1 (Int.lt_of_le_of_lt hb (Int.not_le.1 hc))) Nat.one_pos
   rw [List.getD_eq_getElem?_getD, List.getElem?_eq_getElem hlt] at e2
   rw [List.getElem?_eq_getElem hlt]
   exact congrArg some e2
theorem cntF_last (f : Int) : ∀ (ns cnt : List Int), (∀ x ∈ ns, f ≤ x) → (∀ i, 0 ≤ cnt.getD i 0) → cnt.getLast? ≠ some 0 → (cntF f ns cnt).getLast? ≠ some 0
 | [], cnt, h, hn, hl => hl
 | k :: ns, cnt, h, hn, hl => by
  have hk : 0 ≤ k - f := by have := h k List.mem_cons_self; lia
  exact cntF_last f ns (bump cnt (k - f)) (fun x hx => h x (List.mem_cons_of_mem _ hx)) (nonneg_bump _ hk hn) (bump_last _ hk hn hl)
theorem wStep_getD {z x : Int} (gs : List Int) (hz : z = 2 ∨ z = 3) (h1 : 1 ≤ x) (h9 : x ≤ 9) (hl : gs.length = 10) (i : Nat) : (wStep z gs x).getD i 0 = gs.getD i 0 + if i = (red z x 1).1.toNat then (red z x 1).2 else 0 := by
 refine el_AAAAA (red_facts hz h1 h9) fun r1 r2 r3 r4 r5 r6 => ?_
 unfold wStep
 simp only [List.getD_eq_getElem?_getD, List.getElem?_set]
 by_cases h : (red z x 1).1.toNat = i
 ·subst h
  rw [if_pos rfl, if_pos (by rw [hl]; exact (Int.toNat_lt' (by decide)).2 (Int.lt_of_le_of_lt (Int.le_trans (by assumption) h9) (by decide))), if_pos rfl]; rfl
 ·rw [if_neg h, if_neg (fun e => h e.symm), Int.add_zero]
theorem wStep_length (z x : Int) (gs : List Int) : (wStep z gs x).length = gs.length := by unfold wStep; rw [List.length_set]
theorem wSteps_getD {z : Int} (hz : z = 2 ∨ z = 3) (i : Nat) : ∀ (ns gs : List Int), (∀ x ∈ ns, 1 ≤ x ∧ x ≤ 9) → gs.length = 10 → (ns.foldl (wStep z) gs).getD i 0 = gs.getD i 0 + (ns.map fun x => if i = (red z x 1).1.toNat then (red z x 1).2 else 0).sum
 | [], gs, h, hl => by simp
 | x :: ns, gs, h, hl => by
  have hx := h x List.mem_cons_self
  rw [List.foldl_cons, wSteps_getD hz i ns _ (fun y hy => h y (List.mem_cons_of_mem _ hy)) (by rw [wStep_length]; exact hl), wStep_getD gs hz hx.1 hx.2 hl, List.map_cons, List.sum_cons, Int.add_assoc]
theorem sum_map_replicate (g : Int → Int) (n : Nat) (x : Int) : ((List.replicate n x).map g).sum = n * g x := by
 induction n with
 | zero => simp
 | succ n ih => rw [List.replicate_succ, List.map_cons, List.sum_cons, ih, show ((n + 1 : Nat) : Int) = (n : Int) + 1 by rfl, Int.add_mul]; lia
theorem sum_told (z : Int) (g : Int → Int) : ∀ ns : List Int, ((ns.flatMap (toldOf z)).map g).sum = (ns.map fun x => ((red z x 1).2.toNat : Int) * g (red z x 1).1).sum
 | [] => rfl
 | x :: ns => by
  rw [List.flatMap_cons, List.map_append, List.sum_append, sum_told z g ns, List.map_cons, List.sum_cons]
  unfold toldOf
  rw [sum_map_replicate]
theorem sum_reverse (ns : List Int) : ns.reverse.sum = ns.sum := by
 induction ns with
 | nil => rfl
 | cons x r ih => rw [List.reverse_cons, List.sum_append, ih]; simp [Int.add_comm]
theorem sum_toldF (z : Int) (g : Int → Int) (ns : List Int) : ((toldF z ns).map g).sum = (ns.map fun x => ((red z x 1).2.toNat : Int) * g (red z x 1).1).sum := by
 unfold toldF
 rw [sum_told, List.map_reverse, sum_reverse]
theorem told_mem {z : Int} (hz : z = 2 ∨ z = 3) {ns : List Int} (h : ∀ x ∈ ns, 1 ≤ x ∧ x ≤ 9) : ∀ x ∈ toldF z ns, 1 ≤ x ∧ x ≤ 9 := by
 intro x hx
 refine el_EA (List.mem_flatMap.mp hx) fun y hy hx => ?_
 have hy2 := h y (List.mem_reverse.mp hy)
 refine el_AA (red_facts hz hy2.1 hy2.2) fun r1 r2 _ => ?_
 rw [List.eq_of_mem_replicate hx]
 lia
theorem told_length (z : Int) (ns : List Int) : ((toldF z ns).length : Int) = (ns.map fun x => ((red z x 1).2.toNat : Int)).sum := by
 have := sum_toldF z (fun _ => 1) ns
 simp only [Int.mul_one] at this
 rw [← this]
 generalize toldF z ns = l
 induction l with
 | nil => rfl
 | cons a r ih => rw [List.map_cons, List.sum_cons, ← ih, List.length_cons]; lia
theorem sum_congr {f g : Int → Int} {ns : List Int} (h : ∀ x ∈ ns, f x = g x) : (ns.map f).sum = (ns.map g).sum := by rw [List.map_congr_left h]
theorem sum_le {f g : Int → Int} : ∀ {ns : List Int}, (∀ x ∈ ns, f x ≤ g x) → (ns.map f).sum ≤ (ns.map g).sum
 | [], _ => Int.le_refl _
 | x :: ns, h => by
  have := h x List.mem_cons_self
  have := sum_le (ns := ns) fun y hy => h y (List.mem_cons_of_mem _ hy)
  simp only [List.map_cons, List.sum_cons]; lia
theorem law_norm {z : Int} (hz : z = 2 ∨ z = 3) {ns : List Int} (h : ∀ x ∈ ns, 1 ≤ x ∧ x ≤ 9) : cntF 0 (toldF z ns) [] = weiF z ns := by
 have ht := told_mem hz h
 have h0 : ∀ x ∈ toldF z ns, (0 : Int) ≤ x := fun x hx => by have := (ht x hx).1; exact Int.le_of_lt (by assumption)
 refine trimmed_ext (cntF_last 0 _ [] h0 (by simp) (by simp)) (trim_last _ _ (Nat.le_refl _)) fun i => ?_
 rw [cntF_getD 0 i _ [] h0]
 unfold weiF
 rw [trim_getD i _ _ (Nat.le_refl _), wSteps_getD hz i ns _ h rfl]
 rw [show ([] : List Int).getD i 0 = 0 from rfl, show (List.replicate 10 (0 : Int)).getD i 0 = 0 by
  simp only [List.getD_eq_getElem?_getD, List.getElem?_replicate]; split <;> rfl, sum_toldF]
 congr 1
 apply sum_congr
 intro x hx
 have hx2 := h x hx
 refine el_AAAAA (red_facts hz hx2.1 hx2.2) fun r1 r2 r3 r4 r5 r6 => ?_
 rw [Int.sub_zero]
 split
 ·grind only
 ·rfl
theorem div_scale (p c ts : Int) (hp : 1 ≤ p) (hc : 1 ≤ c) (ht : 1 ≤ ts) : p * c / ts + 1 ≤ c * (p / ts + 1) := by
 have h1 : p < ts * (p / ts + 1) := by rw [Int.mul_add, Int.mul_one]; have := Int.mul_ediv_add_emod p ts; have := Int.emod_lt_of_pos p (show 0 < ts by assumption); omega
 have h2 : p * c < ts * (p / ts + 1) * c := Int.mul_lt_mul_of_pos_right h1 (by assumption)
 have h3 : p * c / ts < c * (p / ts + 1) := by
  apply Int.ediv_lt_of_lt_mul (by assumption)
  have : ts * (p / ts + 1) * c = c * (p / ts + 1) * ts := by rw [Int.mul_comm ts, Int.mul_comm c, Int.mul_assoc, Int.mul_assoc, Int.mul_comm ts c]
  grind only
 assumption
theorem law_level {z ts : Int} (hz : z = 2 ∨ z = 3) (ht : 1 ≤ ts) {ns : List Int} (h : ∀ x ∈ ns, 1 ≤ x ∧ x ≤ 9) :
  lvl ts 0 ns.length (cntF 0 ns []) < lvl ts 1 (toldF z ns).length (cntF 0 (toldF z ns) []) := by
 have htm := told_mem hz h
 rw [lvl_run ts ht 0 0 ns (fun x hx => by have := (h x hx).1; exact Int.le_of_lt (by assumption)), lvl_run ts ht 0 1 _ (fun x hx => by have := (htm x hx).1; exact Int.le_of_lt (by assumption)), sum_toldF]
 have : (ns.map fun k => ts * ((k - 0) / ts + 1)).sum ≤ (ns.map fun x => ((red z x 1).2.toNat : Int) * (ts * (((red z x 1).1 - 0) / ts + 1))).sum := by
  apply sum_le
  intro x hx
  have hx2 := h x hx
  refine el_AAAAA (red_facts hz hx2.1 hx2.2) fun r1 r2 r3 r4 r5 r6 => ?_
  have := div_scale _ _ ts r1 r3 ht
  rw [r5] at this
  simp only [Int.sub_zero]
  rw [show ((red z x 1).2.toNat : Int) = (red z x 1).2 by grind only, show (red z x 1).2 * (ts * ((red z x 1).1 / ts + 1)) = ts * ((red z x 1).2 * ((red z x 1).1 / ts + 1)) by rw [← Int.mul_assoc, ← Int.mul_assoc, Int.mul_comm ts]]
  exact Int.mul_le_mul_of_nonneg_left this (by exact Int.le_of_lt (by assumption))
 omega
theorem told_sum {z : Int} (hz : z = 2 ∨ z = 3) {ns : List Int} (h : ∀ x ∈ ns, 1 ≤ x ∧ x ≤ 9) : (toldF z ns).sum = ns.sum := by
 have := sum_toldF z (fun x => x) ns
 simp only [List.map_id'] at this
 rw [this]
 conv => rhs; rw [← List.map_id' ns]
 apply sum_congr
 intro x hx
 have hx2 := h x hx
 refine el_AAAAA (red_facts hz hx2.1 hx2.2) fun r1 r2 r3 r4 r5 r6 => ?_
 rw [show ((red z x 1).2.toNat : Int) = (red z x 1).2 by lia, Int.mul_comm]; exact r5
theorem told_longer {z : Int} (hz : z = 2 ∨ z = 3) {ns : List Int} (h : ∀ x ∈ ns, 1 ≤ x ∧ x ≤ 9) : ns.length ≤ (toldF z ns).length ∧ ((toldF z ns).length : Int) ≤ 9 * ns.length := by
 have hl := told_length z ns
 have h1 : (ns.map fun _ => (1 : Int)).sum ≤ (ns.map fun x => ((red z x 1).2.toNat : Int)).sum := sum_le fun x hx => by
  have hx2 := h x hx
  refine el_AAAAA (red_facts hz hx2.1 hx2.2) fun r1 r2 r3 r4 r5 r6 => ?_
  lia
 have h2 : (ns.map fun x => ((red z x 1).2.toNat : Int)).sum ≤ (ns.map fun _ => (9 : Int)).sum := sum_le fun x hx => by
  have hx2 := h x hx
  refine el_AAAAA (red_facts hz hx2.1 hx2.2) fun r1 r2 r3 r4 r5 r6 => ?_
  lia
 have h3 : ∀ c : Int, (ns.map fun _ => c).sum = c * ns.length := by
  intro c
  clear hl h1 h2 h
  induction ns with
  | nil => simp
  | cons a r ih => rw [List.map_cons, List.sum_cons, ih, List.length_cons, show ((r.length + 1 : Nat) : Int) = (r.length : Int) + 1 by rfl, Int.mul_add]; lia
 rw [h3] at h1 h2
 lia
end Mine
end
section
namespace Mine
open PySem PySem.W PySem.Calls PySem.Spec PyProof.Rows
noncomputable def Qf (z : Int) (w : Int → Int) (q : Int) : Int := if 2 ≤ z ∧ 1 ≤ q ∧ q % z = 0 then Qf z w (q / z) / z else w q
termination_by q.toNat
decreasing_by
 rename_i h
 have h1 : q / z < q := Int.ediv_lt_of_lt_mul (by omega) (by have := Int.mul_le_mul_of_nonneg_left h.1 (show (0:Int) ≤ q by lia); omega)
 lia
noncomputable def Cf (z : Int) (n : Int → Int) (q : Int) : Int := if 2 ≤ z ∧ 1 ≤ q ∧ q % z = 0 then n q + Cf z n (q / z) / z else n q
termination_by q.toNat
decreasing_by
 rename_i h
 have h1 : q / z < q := Int.ediv_lt_of_lt_mul (by omega) (by have := Int.mul_le_mul_of_nonneg_left h.1 (show (0:Int) ≤ q by lia); omega)
 lia
noncomputable def rowF (z : Int) (w : Int → Int) : Nat → List Int
 | 0 => []
 | k + 1 => rowF z w k ++ List.replicate (Qf z w ((k : Int) + 1) % z).toNat ((k : Int) + 1)
noncomputable def Tf (z : Int) (n : Int → Int) (q : Int) : Int := n q + z * (n (q * z) + z * (n (q * z * z) + z * n (q * z * z * z)))
theorem div_lt {z q : Int} (hz : 2 ≤ z) (hq : 1 ≤ q) : q / z < q := Int.ediv_lt_of_lt_mul (by exact Int.le_of_lt (by assumption)) (by have := Int.mul_le_mul_of_nonneg_left hz (show (0:Int) ≤ q by exact Int.le_of_lt (by assumption)); lia)
theorem div_pos' {z q : Int} (hz : 2 ≤ z) (hq : 1 ≤ q) (hd : q % z = 0) : 1 ≤ q / z ∧ q / z * z = q := by
 have h1 : q / z * z = q := Int.ediv_mul_cancel (Int.dvd_of_emod_eq_zero hd)
 refine ⟨?_, h1⟩
 have h2 : 0 ≤ q / z := Int.ediv_nonneg (by exact Int.le_of_lt (by assumption)) (by lia)
 by_cases h3 : q / z = 0
 ·rw [h3] at h1; lia
 ·lia
theorem pos_ind {P : Int → Prop} (z : Int) (hz : 2 ≤ z) (h1 : ∀ q, 1 ≤ q → q % z ≠ 0 → P q) (h2 : ∀ q, 1 ≤ q → q % z = 0 → P (q / z) → P q) : ∀ q, 1 ≤ q → P q := by
 have key : ∀ n : Nat, ∀ q, 1 ≤ q → q.toNat ≤ n → P q := by
  intro n
  induction n with
  | zero => intro q hq h; lia
  | succ n ih =>
   intro q hq h
   by_cases hd : q % z = 0
   ·have := div_pos' hz hq hd
    exact h2 q hq hd (ih (q / z) (by exact And.left (by assumption)) (tn_le h hq hz))
   ·exact h1 q hq hd
 exact fun q hq => key q.toNat q hq (Nat.le_refl _)
theorem Tf_step {z : Int} {n : Int → Int} (hz : 2 ≤ z) (h9 : ∀ q, 9 < q → n q = 0) {q : Int} (hq : 1 ≤ q) : Tf z n q = n q + z * Tf z n (q * z) := by
 unfold Tf
 have h : 9 < q * z * z * z * z := by
  have a1 : 1 * 2 ≤ q * z := Int.mul_le_mul hq hz (by decide) (by exact Int.le_of_lt (by assumption))
  have a2 : 2 * 2 ≤ q * z * z := Int.mul_le_mul (by assumption) hz (by decide) (by lia)
  have a3 : 4 * 2 ≤ q * z * z * z := Int.mul_le_mul (by assumption) hz (by decide) (by lia)
  have a4 : 8 * 2 ≤ q * z * z * z * z := Int.mul_le_mul (by assumption) hz (by decide) (by lia)
  omega
 rw [h9 _ h, Int.mul_zero, Int.add_zero]
theorem Qf_eq {z : Int} {n w : Int → Int} (hz : 2 ≤ z) (h9 : ∀ q, 9 < q → n q = 0) (hw : ∀ q, 1 ≤ q → q % z ≠ 0 → w q = Tf z n q) : ∀ q, 1 ≤ q → Qf z w q = Cf z n q + z * Tf z n (q * z) := by
 refine pos_ind z hz ?_ ?_
 ·intro q hq hd
  rw [Qf, if_neg (fun h => hd h.2.2), Cf, if_neg (fun h => hd h.2.2), hw q hq hd, Tf_step hz h9 hq]
 ·intro q hq hd ih
  have h1 := div_pos' hz hq hd
  rw [Qf, if_pos ⟨hz, hq, hd⟩, Cf, if_pos ⟨hz, hq, hd⟩, ih, h1.2, Int.add_mul_ediv_left _ _ (by lia), Tf_step hz h9 hq]
  lia
theorem Cf_nonneg {z : Int} {n : Int → Int} (hz : 2 ≤ z) (h0 : ∀ q, 0 ≤ n q) : ∀ q, 1 ≤ q → 0 ≤ Cf z n q := by
 refine pos_ind z hz ?_ ?_
 ·intro q hq hd
  rw [Cf, if_neg (fun h => hd h.2.2)]; exact h0 q
 ·intro q hq hd ih
  rw [Cf, if_pos ⟨hz, hq, hd⟩]
  have := h0 q
  have : 0 ≤ Cf z n (q / z) / z := Int.ediv_nonneg ih (by lia)
  exact Int.add_nonneg (by assumption) (by assumption)
theorem Tf_nonneg {z : Int} {n : Int → Int} (hz : 2 ≤ z) (h0 : ∀ q, 0 ≤ n q) (q : Int) : 0 ≤ Tf z n q := by
 unfold Tf
 have m : ∀ a : Int, 0 ≤ a → 0 ≤ z * a := fun a h => Int.mul_nonneg (by lia) h
 have a1 := m _ (h0 (q * z * z * z))
 have a2 := m _ (Int.add_nonneg (h0 (q * z * z)) a1)
 have a3 := m _ (Int.add_nonneg (h0 (q * z)) a2)
 exact Int.add_nonneg (h0 q) a3
theorem Qf_bound {z S : Int} {w : Int → Int} (hz : 2 ≤ z) (hw : ∀ q, 1 ≤ q → q % z ≠ 0 → 0 ≤ w q ∧ q * w q ≤ S) : ∀ q, 1 ≤ q → 0 ≤ Qf z w q ∧ q * Qf z w q ≤ S := by
 refine pos_ind z hz ?_ ?_
 ·intro q hq hd
  rw [Qf, if_neg (fun h => hd h.2.2)]; exact hw q hq hd
 ·intro q hq hd ih
  rw [Qf, if_pos ⟨hz, hq, hd⟩]
  have h1 := div_pos' hz hq hd
  refine ⟨Int.ediv_nonneg ih.1 (by lia), ?_⟩
  have e : q * (Qf z w (q / z) / z) = q / z * (z * (Qf z w (q / z) / z)) := by rw [← Int.mul_assoc, h1.2]
  rw [e]
  exact Int.le_trans (Int.mul_le_mul_of_nonneg_left (Int.mul_ediv_self_le (by lia)) (by lia)) ih.2
structure Join (z S : Int) (n w : Int → Int) : Prop where
 hz : z = 2 ∨ z = 3
 h0 : ∀ q, 0 ≤ n q
 h9 : ∀ q, 9 < q → n q = 0
 hw : ∀ q, 1 ≤ q → q % z ≠ 0 → w q = Tf z n q
 hS : ∀ q, 1 ≤ q → q % z ≠ 0 → 0 ≤ w q ∧ q * w q ≤ S
theorem Join.two {z S : Int} {n w : Int → Int} (J : Join z S n w) : 2 ≤ z := by have := J.hz; lia
theorem Join.digit {z S : Int} {n w : Int → Int} (J : Join z S n w) {q : Int} (hq : 1 ≤ q) : Qf z w q % z = Cf z n q % z := by
 rw [Qf_eq J.two J.h9 J.hw q hq, Int.add_mul_emod_self_left]
theorem Join.bound {z S : Int} {n w : Int → Int} (J : Join z S n w) {q : Int} (hq : 1 ≤ q) : 0 ≤ Cf z n q ∧ q * Cf z n q ≤ S ∧ Cf z n q ≤ Qf z w q := by
 have h1 := Cf_nonneg J.two J.h0 q hq
 have h2 := Qf_bound J.two J.hS q hq
 have h3 := Qf_eq J.two J.h9 J.hw q hq
 have h4 : 0 ≤ z * Tf z n (q * z) := Int.mul_nonneg (by have := J.two; lia) (Tf_nonneg J.two J.h0 _)
 refine ⟨h1, Int.le_trans (Int.mul_le_mul_of_nonneg_left (by lia) (by exact Int.le_of_lt (by assumption))) h2.2, by lia⟩
theorem inc_getD (cnt : List Int) (p : Int) (hp : 0 ≤ p) (i : Nat) : (inc cnt p).getD i 0 = cnt.getD i 0 + if i = p.toNat then 1 else 0 := by
 unfold inc
 dsimp only
 have key : ∀ c : List Int, p < c.length → (c.set p.toNat (c.getD p.toNat 0 + 1)).getD i 0 = c.getD i 0 + if i = p.toNat then 1 else 0 := by
  intro c hc
  simp only [List.getD_eq_getElem?_getD, List.getElem?_set]
  by_cases h : p.toNat = i
  ·subst h
   rw [if_pos rfl, if_pos (by lia), if_pos rfl]; rfl
  ·rw [if_neg h, if_neg (fun e => h e.symm), Int.add_zero]
 rw [key _ (by rw [List.length_append, List.length_replicate]; exact gr_lt (Int.lt_add_one_of_le (Int.le_refl p)))]
 congr 1
 simp only [List.getD_eq_getElem?_getD, List.getElem?_append]
 split
 ·rfl
 ·rw [List.getElem?_replicate]
  rw [List.getElem?_eq_none (by exact Nat.le_of_not_lt (by assumption))]
  split <;> rfl
theorem incL (cnt : List Int) (p : Int) (hp : 0 ≤ p) : cnt.length ≤ (inc cnt p).length ∧ ∀ b : Nat, cnt.length ≤ b → p < b → (inc cnt p).length ≤ b := by
 unfold inc
 dsimp only
 rw [List.length_set, List.length_append, List.length_replicate]
 exact ⟨by exact Nat.le_add_right _ _, fun b h1 h2 => gr_le h1 h2⟩
theorem jIn_eq (z : Nat) (hz : 2 ≤ z) (part : Int) (hp : 1 ≤ part) : ∀ (k j : Nat) (counts stay : List Int), j ≤ k →
  (∀ i : Nat, (jIn z part j counts stay).1.getD i 0 = counts.getD i 0 + if i = (part * z).toNat then ((j / z : Nat) : Int) else 0) ∧ (jIn z part j counts stay).2 = stay ++ List.replicate (j % z) part ∧
  counts.length ≤ (jIn z part j counts stay).1.length ∧ (∀ b : Nat, counts.length ≤ b → (z ≤ j → part * z < b) → (jIn z part j counts stay).1.length ≤ b) := by
 have hpz : 0 ≤ part * (z : Int) := Int.mul_nonneg (by exact Int.le_of_lt (by assumption)) (by exact Int.natCast_nonneg _)
 intro k
 induction k with
 | zero =>
  intro j counts stay hj
  have : j = 0 := by lia
  subst this
  rw [jIn, if_neg (by lia), if_neg (by exact Nat.not_lt.mpr (by assumption))]
  refine ⟨fun i => ?_, by simp, Nat.le_refl _, fun b h _ => h⟩
  rw [Nat.zero_div]; split <;> simp
 | succ k ih =>
  intro j counts stay hj
  rw [jIn]
  split
  ·rename_i h
   refine el_AAA (ih (j - z) (inc counts (part * z)) stay (Nat.sub_le_of_le_add (Nat.le_trans hj (Nat.add_le_add_left h.1 k)))) fun i1 i2 i3 i4 => ?_
   have hl := incL counts (part * z) hpz
   refine ⟨fun i => ?_, ?_, Nat.le_trans hl.1 i3, fun b h1 h2 => i4 b (hl.2 b h1 (h2 h.2)) fun h3 => h2 h.2⟩
   ·rw [i1 i, inc_getD _ _ hpz, Nat.div_eq_sub_div (by exact Nat.zero_lt_of_lt (by assumption)) h.2]
    split <;> lia
   ·rw [i2, Nat.mod_eq_sub_mod h.2]
  ·rename_i h
   split
   ·rename_i h0
    refine el_AAA (ih (j - 1) counts (stay ++ [part]) (Nat.sub_le_of_le_add hj)) fun i1 i2 i3 i4 => ?_
    have a1 : j < z := Nat.not_le.1 fun q => h ⟨Nat.lt_of_lt_of_le Nat.two_pos hz, q⟩
    have a2 : j - 1 < z := Nat.lt_of_le_of_lt (Nat.sub_le _ _) a1
    have d1 := Nat.div_eq_of_lt a1
    have d2 := Nat.div_eq_of_lt a2
    refine ⟨fun i => by rw [i1 i, d1, d2], ?_, i3, fun b h1 h2 => i4 b h1 fun h3 => absurd h3 (Nat.not_le.2 a2)⟩
    rw [i2, Nat.mod_eq_of_lt a1, Nat.mod_eq_of_lt a2, List.append_assoc]
    congr 1
    rw [show j = (j - 1) + 1 from (Nat.sub_add_cancel h0).symm, List.replicate_succ]; rfl
   ·have : j = 0 := by lia
    subst this
    refine ⟨fun i => ?_, by simp, Nat.le_refl _, fun b h _ => h⟩
    rw [Nat.zero_div]; split <;> simp
theorem rowF_flat {z : Int} {w : Int → Int} (k : Nat) (h : ∀ q : Int, (k : Int) < q → Qf z w q % z = 0) : ∀ j, rowF z w (k + j) = rowF z w k
 | 0 => rfl
 | j + 1 => by
  rw [show k + (j + 1) = (k + j) + 1 from rfl, rowF, rowF_flat k h j, h _ (by lia)]
  simp
theorem rowF_length {z : Int} {w : Int → Int} (hz : z = 2 ∨ z = 3) : ∀ k, (rowF z w k).length ≤ 2 * k
 | 0 => by simp [rowF]
 | k + 1 => by
  have := rowF_length (w := w) hz k
  rw [rowF, List.length_append, List.length_replicate]
  have : Qf z w ((k : Int) + 1) % z ≤ 2 := by
   have := Int.emod_lt_of_pos (Qf z w ((k : Int) + 1)) (show 0 < z by lia)
   lia
  lia
theorem Join.go {z : Int} {n w : Int → Int} (J : Join z 135 n w) : ∀ (N k : Nat) (counts : List Int), 140 ≤ k + N → k ≤ 140 → counts.length ≤ 140 →
  (∀ q : Int, (k : Int) < q → counts.getD q.toNat 0 = n q + if q % z = 0 ∧ q / z ≤ k then Cf z n (q / z) / z else 0) →
  jGo z.toNat N ((k : Int) + 1) counts (rowF z w k) = some (rowF z w 200) := by
 have h2 := J.two
 have stop : ∀ (k : Nat) (counts : List Int), k ≤ 140 → counts.length ≤ k + 1 → (∀ q : Int, (k : Int) < q → counts.getD q.toNat 0 = n q + if q % z = 0 ∧ q / z ≤ k then Cf z n (q / z) / z else 0) → rowF z w k = rowF z w 200 := by
  intro k counts hk hl hinv
  have hc : ∀ q, 1 ≤ q → (k : Int) < q → Cf z n q = 0 := by
   refine pos_ind z h2 ?_ ?_
   ·intro q hq hd hkq
    have := hinv q hkq
    rw [List.getD_eq_getElem?_getD, List.getElem?_eq_none (by lia), if_neg (fun h => hd h.1)] at this
    rw [Cf, if_neg (fun h => hd h.2.2)]
    have h0 : n q + 0 = 0 := this.symm
    lia
   ·intro q hq hd ih hkq
    have h1 := div_pos' h2 hq hd
    have := hinv q hkq
    rw [List.getD_eq_getElem?_getD, List.getElem?_eq_none (by lia)] at this
    replace this : (0 : Int) = n q + if q % z = 0 ∧ q / z ≤ k then Cf z n (q / z) / z else 0 := this
    rw [Cf, if_pos ⟨h2, hq, hd⟩]
    by_cases hqk : q / z ≤ k
    ·rw [if_pos ⟨hd, hqk⟩] at this; lia
    ·rw [if_neg (fun h => hqk h.2)] at this
     rw [ih (by exact Int.not_le.mp (by assumption)), Int.zero_ediv]; lia
  have e := rowF_flat (z := z) (w := w) k (fun q hq => by rw [J.digit (by lia), hc q (by lia) hq]; exact Int.zero_emod z) (200 - k)
  rw [show k + (200 - k) = 200 by lia] at e
  exact e.symm
 intro N
 induction N with
 | zero =>
  intro k counts h1 h3 h4 hinv
  rw [jGo, if_neg (by lia)]
  rw [stop k counts h3 (by lia) hinv]
 | succ N ih =>
  intro k counts h1 h3 h4 hinv
  rw [jGo]
  by_cases hp : (k : Int) + 1 < counts.length
  ·rw [if_pos hp]
   have hc : counts.getD ((k : Int) + 1).toNat 0 = Cf z n ((k : Int) + 1) := by
    rw [hinv _ (by exact Int.le_refl _)]
    conv => rhs; rw [Cf]
    by_cases hd : ((k : Int) + 1) % z = 0
    ·have := div_lt h2 (show 1 ≤ (k : Int) + 1 by lia)
     rw [if_pos ⟨hd, by lia⟩, if_pos ⟨h2, by lia, hd⟩]
    ·rw [if_neg (fun h => hd h.1), if_neg (fun h => hd h.2.2)]; exact Int.add_zero _
   refine el_AA (J.bound (show 1 ≤ (k : Int) + 1 by lia)) fun b1 b2 b3 => ?_
   have hl := rowF_length (w := w) J.hz k
   have b4 : Cf z n ((k : Int) + 1) ≤ 135 := by
    have := Int.mul_le_mul_of_nonneg_right (show 1 ≤ (k : Int) + 1 by lia) b1
    lia
   have b5 : z ≤ Cf z n ((k : Int) + 1) → ((k : Int) + 1) * z ≤ 135 := fun h => Int.le_trans (Int.mul_le_mul_of_nonneg_left h (by exact Int.natCast_nonneg _)) b2
   have hzz : ((z.toNat : Nat) : Int) = z := by grind only
   rw [hc, if_pos ⟨b1, by exact Int.le_trans (by assumption) (by decide), fun h => by have := b5 (by lia); rw [hzz]; exact Int.le_trans (by assumption) (by decide), by lia⟩]
   refine el_AAA (jIn_eq z.toNat (by lia) ((k : Int) + 1) (by lia) _ (Cf z n ((k : Int) + 1)).toNat counts (rowF z w k) (Nat.le_refl _)) fun j1 j2 j3 j4 => ?_
   rw [hzz] at j1 j4
   have e : (jIn z.toNat ((k : Int) + 1) (Cf z n ((k : Int) + 1)).toNat counts (rowF z w k)).2 = rowF z w (k + 1) := by
    rw [j2, rowF, J.digit (by lia)]
    congr 2
    have : (((Cf z n ((k : Int) + 1)).toNat % z.toNat : Nat) : Int) = Cf z n ((k : Int) + 1) % z := by
     rw [Int.natCast_emod, hzz, show (((Cf z n ((k : Int) + 1)).toNat : Nat) : Int) = Cf z n ((k : Int) + 1) by exact Int.toNat_of_nonneg (by assumption)]
    lia
   rw [e]
   refine ih (k + 1) _ (by lia) (by lia) (j4 140 h4 fun h => by have := b5 (by lia); exact Int.lt_of_le_of_lt (by assumption) (by decide)) ?_
   intro q hq
   rw [j1, hinv q (by exact Int.le_of_lt (by assumption))]
   have hpz : 0 ≤ ((k : Int) + 1) * z := Int.mul_nonneg (by exact Int.natCast_nonneg _) (by lia)
   have hdv : (((Cf z n ((k : Int) + 1)).toNat / z.toNat : Nat) : Int) = Cf z n ((k : Int) + 1) / z := by
    rw [Int.natCast_ediv, hzz, show (((Cf z n ((k : Int) + 1)).toNat : Nat) : Int) = Cf z n ((k : Int) + 1) by lia]
   rw [hdv]
   by_cases hd : q % z = 0
   ·have hq1 := div_pos' h2 (show 1 ≤ q by lia) hd
    by_cases hqk : q / z ≤ k
    ·rw [if_pos ⟨hd, hqk⟩, if_neg, if_pos ⟨hd, by lia⟩, Int.add_zero]
     intro e
     have e2 : q = ((k : Int) + 1) * z := by lia
     rw [e2, Int.mul_ediv_cancel _ (by lia)] at hqk
     lia
    ·by_cases hqk2 : q / z = (k : Int) + 1
     ·rw [if_neg (fun h => hqk h.2), if_pos (by rw [← hqk2, hq1.2]), if_pos ⟨hd, by lia⟩, hqk2]; lia
     ·rw [if_neg (fun h => hqk h.2), if_neg, if_neg (fun h => by lia)]; lia
      intro e
      have e2 : q = ((k : Int) + 1) * z := by lia
      rw [e2, Int.mul_ediv_cancel _ (by lia)] at hqk2
      lia
   ·rw [if_neg (fun h => hd h.1), if_neg, if_neg (fun h => hd h.1)]; lia
    intro e
    have e2 : q = ((k : Int) + 1) * z := by lia
    rw [e2, Int.mul_emod_left] at hd
    exact hd rfl
  ·rw [if_neg hp, stop k counts h3 (by lia) hinv]
end Mine
end
section
namespace Mine
open PySem PySem.W PySem.Calls PySem.Spec PyProof.Rows
noncomputable def wOf (ws : List Int) (q : Int) : Int := ws.getD q.toNat 0
noncomputable def nOf (ns : List Int) (q : Int) : Int := ((ns.count q : Nat) : Int)
noncomputable def wAt (z q x : Int) : Int := if q.toNat = (red z x 1).1.toNat then (red z x 1).2 else 0
theorem wei_getD {z : Int} (hz : z = 2 ∨ z = 3) {ns : List Int} (h : ∀ x ∈ ns, 1 ≤ x ∧ x ≤ 9) (q : Int) : wOf (weiF z ns) q = (ns.map (wAt z q)).sum := by
 unfold wOf weiF
 rw [trim_getD q.toNat _ _ (Nat.le_refl _), wSteps_getD hz q.toNat ns _ h rfl]
 rw [show (List.replicate 10 (0 : Int)).getD q.toNat 0 = 0 by simp only [List.getD_eq_getElem?_getD, List.getElem?_replicate]; split <;> rfl, Int.zero_add]
 rfl
theorem nOf_nil (q : Int) : nOf [] q = 0 := rfl
theorem nOf_cons (x : Int) (r : List Int) (q : Int) : nOf (x :: r) q = (if x = q then 1 else 0) + nOf r q := by
 unfold nOf
 rw [List.count_cons]
 by_cases h : x = q
 ·subst h; simp; exact Int.add_comm _ _
 ·rw [if_neg h, if_neg (by simpa using h)]; lia
noncomputable def eAt (q x : Int) : Int := if x = q then 1 else 0
theorem Tf_cons (z x : Int) (r : List Int) (q : Int) : Tf z (nOf (x :: r)) q = Tf z (fun q => eAt q x) q + Tf z (nOf r) q := by
 unfold Tf
 simp only [nOf_cons]
 show _ = eAt q x + z * (eAt (q * z) x + z * (eAt (q * z * z) x + z * eAt (q * z * z * z) x)) + _
 unfold eAt
 generalize (if x = q then (1 : Int) else 0) = a
 generalize (if x = q * z then (1 : Int) else 0) = b
 generalize (if x = q * z * z then (1 : Int) else 0) = c
 generalize (if x = q * z * z * z then (1 : Int) else 0) = d
 generalize nOf r q = a'
 generalize nOf r (q * z) = b'
 generalize nOf r (q * z * z) = c'
 generalize nOf r (q * z * z * z) = d'
 simp only [Int.mul_add]
 lia
theorem Tf_nil (z q : Int) : Tf z (nOf []) q = 0 := by
 unfold Tf
 simp only [nOf_nil, Int.mul_zero, Int.add_zero]
noncomputable def redT (z x : Int) : Int × Int := if z = 2 then (if x = 2 then (1, 2) else if x = 4 then (1, 4) else if x = 8 then (1, 8) else if x = 6 then (3, 2) else (x, 1))
   else (if x = 3 then (1, 3) else if x = 9 then (1, 9) else if x = 6 then (2, 3) else (x, 1))
theorem weight_tab : ∀ z : Nat, z < 2 → ∀ x : Nat, x < 9 → ∀ q : Nat, q < 9 → ((q : Int) + 1) % ((z : Int) + 2) ≠ 0 → (if ((q : Int) + 1).toNat = (redT ((z : Int) + 2) ((x : Int) + 1)).1.toNat then (redT ((z : Int) + 2) ((x : Int) + 1)).2 else 0) = Tf ((z : Int) + 2) (fun q => eAt q ((x : Int) + 1)) ((q : Int) + 1) := by decide +kernel
theorem one_weight {z x q : Int} (hz : z = 2 ∨ z = 3) (h1 : 1 ≤ x) (h9 : x ≤ 9) (hq : 1 ≤ q) (hd : q % z ≠ 0) : wAt z q x = Tf z (fun q => eAt q x) q := by
 by_cases h : q ≤ 9
 ·have Z := z23 (P := fun z => (z - 2).toNat < 2 ∧ (((z - 2).toNat : Nat) : Int) + 2 = z) hz (by decide) (by decide)
  have := weight_tab (z - 2).toNat Z.1 (x - 1).toNat (p9 h1 h9).1 (q - 1).toNat (p9 hq h).1
  rw [Z.2, (p9 h1 h9).2, (p9 hq h).2] at this
  unfold wAt
  rw [show red z x 1 = redT z x from red_tab hz h1 h9]
  exact this hd
 ·refine el_AAAAA (red_facts hz h1 h9) fun r1 r2 r3 r4 r5 r6 => ?_
  have a1 : q * 1 ≤ q * z := Int.mul_le_mul_of_nonneg_left (by lia) (by exact Int.le_of_lt (by assumption))
  have a2 : q * z * 1 ≤ q * z * z := Int.mul_le_mul_of_nonneg_left (by lia) (by lia)
  have a3 : q * z * z * 1 ≤ q * z * z * z := Int.mul_le_mul_of_nonneg_left (by lia) (by lia)
  have e : ∀ y : Int, x < y → eAt y x = 0 := fun y hy => if_neg (by lia)
  unfold wAt Tf
  rw [if_neg (by grind only)]
  dsimp only
  rw [e q (by lia), e (q * z) (by lia), e (q * z * z) (by lia), e (q * z * z * z) (by lia)]
  simp
theorem sum_weight {z q : Int} (hz : z = 2 ∨ z = 3) (hq : 1 ≤ q) (hd : q % z ≠ 0) : ∀ ns : List Int, (∀ x ∈ ns, 1 ≤ x ∧ x ≤ 9) → (ns.map (wAt z q)).sum = Tf z (nOf ns) q
 | [], _ => by rw [Tf_nil]; rfl
 | x :: r, h => by
  have hx := h x List.mem_cons_self
  rw [List.map_cons, List.sum_cons, sum_weight hz hq hd r fun y hy => h y (List.mem_cons_of_mem _ hy), one_weight hz hx.1 hx.2 hq hd, Tf_cons]
theorem at_bounds {z q x : Int} (hz : z = 2 ∨ z = 3) (h1 : 1 ≤ x) (h9 : x ≤ 9) (hq : 0 ≤ q) : 0 ≤ wAt z q x ∧ q * wAt z q x ≤ x ∧ (q % z = 0 → wAt z q x = 0) := by
 refine el_AAAAA (red_facts hz h1 h9) fun r1 r2 r3 r4 r5 r6 => ?_
 unfold wAt
 by_cases h : q.toNat = (red z x 1).1.toNat
 ·have e : q = (red z x 1).1 := by grind only
  rw [if_pos h, e]
  exact ⟨by exact Int.le_of_lt (by assumption), by lia, fun h => absurd h r6⟩
 ·rw [if_neg h]
  exact ⟨by exact Int.natCast_nonneg _, by lia, fun _ => rfl⟩
theorem sum_bounds {z q : Int} (hz : z = 2 ∨ z = 3) (hq : 0 ≤ q) : ∀ ns : List Int, (∀ x ∈ ns, 1 ≤ x ∧ x ≤ 9) → 0 ≤ (ns.map (wAt z q)).sum ∧ q * (ns.map (wAt z q)).sum ≤ ns.sum ∧ (q % z = 0 → (ns.map (wAt z q)).sum = 0)
 | [], _ => ⟨Int.le_refl _, by simp, fun _ => rfl⟩
 | x :: r, h => by
  have hx := h x List.mem_cons_self
  have i := sum_bounds hz hq r fun y hy => h y (List.mem_cons_of_mem _ hy)
  have b := at_bounds hz hx.1 hx.2 hq
  rw [List.map_cons, List.sum_cons, List.sum_cons, Int.mul_add]
  exact ⟨by lia, by omega, fun h => by have := i.2.2 h; have := b.2.2 h; lia⟩
theorem law_join {z : Int} (hz : z = 2 ∨ z = 3) {ns : List Int} (h : ∀ x ∈ ns, 1 ≤ x ∧ x ≤ 9) (hs : ns.sum ≤ 135) : Join z 135 (nOf ns) (wOf (weiF z ns)) where
 hz := hz
 h0 := fun q => Int.natCast_nonneg _
 h9 := fun q hq => by
  unfold nOf
  rw [List.count_eq_zero.mpr fun hm => by have := (h q hm).2; lia]; rfl
 hw := fun q hq hd => by rw [wei_getD hz h, sum_weight hz hq hd ns h]
 hS := fun q hq hd => by
  rw [wei_getD hz h]
  have := sum_bounds hz (show 0 ≤ q by exact Int.le_of_lt (by assumption)) ns h
  exact ⟨this.1, by omega⟩
theorem cnt0_length {ns : List Int} {M : Int} (hM : 0 ≤ M) : (cnt0 ns M).length = (M + 1).toNat := by
 unfold cnt0 rangeKs
 simp
theorem cnt0_getD {ns : List Int} {M : Int} (hM : ∀ a ∈ ns, a ≤ M) {q : Int} (hq : 0 ≤ q) : (cnt0 ns M).getD q.toNat 0 = nOf ns q := by
 unfold cnt0 rangeKs nOf
 rw [List.getD_eq_getElem?_getD, List.getElem?_map, List.getElem?_map]
 by_cases h : q ≤ M
 ·rw [List.getElem?_range (by lia)]
  show ((ns.count (0 + ((q.toNat : Nat) : Int)) : Nat) : Int) = _
  rw [show (0 : Int) + ((q.toNat : Nat) : Int) = q by lia]
 ·rw [List.getElem?_eq_none (by simp; lia), List.count_eq_zero.mpr fun hm => by have := hM q hm; exact absurd (by assumption) (by assumption)]; rfl
theorem Join.start {z : Int} {ns : List Int} {w : Int → Int} (J : Join z 135 (nOf ns) w) (h : ∀ x ∈ ns, 1 ≤ x ∧ x ≤ 9) {M : Int} (hM : M ∈ ns) (hle : ∀ a, a ∈ ns → a ≤ M) : jGo z.toNat 140 1 (cnt0 ns M) [] = some (rowF z w 200) := by
 have hm := h M hM
 refine J.go 140 0 (cnt0 ns M) (by exact Nat.le_refl _) (by exact Nat.le_add_left _ _) (by rw [cnt0_length (by lia)]; lia) fun q hq => ?_
 rw [cnt0_getD hle (by exact Int.le_of_lt (by assumption))]
 by_cases hd : q % z = 0 ∧ q / z ≤ ((0 : Nat) : Int)
 ·have := div_pos' J.two (show 1 ≤ q by assumption) hd.1
  grind only
 ·rw [if_neg hd, Int.add_zero]
theorem told_weights {z : Int} (hz : z = 2 ∨ z = 3) {ns : List Int} (h : ∀ x ∈ ns, 1 ≤ x ∧ x ≤ 9) : weiF z (toldF z ns) = weiF z ns := by
 have htm := told_mem hz h
 refine trimmed_ext (trim_last _ _ (Nat.le_refl _)) (trim_last _ _ (Nat.le_refl _)) fun i => ?_
 have e1 := wei_getD hz htm (i : Int)
 have e2 := wei_getD hz h (i : Int)
 unfold wOf at e1 e2
 rw [Int.toNat_natCast] at e1 e2
 rw [e1, e2, sum_toldF]
 apply sum_congr
 intro x hx
 have hx2 := h x hx
 refine el_AAAAA (red_facts hz hx2.1 hx2.2) fun r1 r2 r3 r4 r5 r6 => ?_
 have e3 : red z (red z x 1).1 1 = ((red z x 1).1, 1) := by rw [red, if_neg (fun h => r6 h.2.2)]
 unfold wAt
 rw [e3]
 dsimp only
 split <;> lia
theorem sum_nine : ∀ ns : List Int, (∀ x ∈ ns, 1 ≤ x ∧ x ≤ 9) → ns.sum ≤ 9 * ns.length
 | [], _ => by simp
 | x :: r, h => by
  have hx := h x List.mem_cons_self
  have := sum_nine r fun y hy => h y (List.mem_cons_of_mem _ hy)
  rw [List.sum_cons, List.length_cons]; lia
theorem law_rows {z : Int} (hz : z = 2 ∨ z = 3) {ns : List Int} (h : ∀ x ∈ ns, 1 ≤ x ∧ x ≤ 9) (hl : ns.length ≤ 15) :
  (∀ M, M ∈ ns → (∀ a, a ∈ ns → a ≤ M) → jGo z.toNat 140 1 (cnt0 ns M) [] = some (rowF z (wOf (weiF z ns)) 200)) ∧
  (∀ M, M ∈ toldF z ns → (∀ a, a ∈ toldF z ns → a ≤ M) → jGo z.toNat 140 1 (cnt0 (toldF z ns) M) [] = some (rowF z (wOf (weiF z ns)) 200)) := by
 have h9 := sum_nine ns h
 have htm := told_mem hz h
 refine ⟨fun M hM hle => (law_join hz h (by lia)).start h hM hle, fun M hM hle => ?_⟩
 have := (law_join hz htm (by rw [told_sum hz h]; lia)).start htm hM hle
 rw [told_weights hz h] at this
 exact this
theorem wei_length {z : Int} {ns : List Int} : (weiF z ns).length ≤ 10 := by
 have key : ∀ (n : Nat) (gs : List Int), gs.length ≤ n → (trim gs).length ≤ gs.length := by
  intro n
  induction n with
  | zero => intro gs h; have : gs = [] := List.eq_nil_of_length_eq_zero (by lia); subst this; rw [trim]; simp
  | succ n ih =>
   intro gs h
   rw [trim]
   split
   ·have := ih gs.dropLast (by rw [List.length_dropLast]; omega)
    rw [List.length_dropLast] at this; grind only
   ·exact Nat.le_refl _
 have len : ∀ (ns gs : List Int), (ns.foldl (wStep z) gs).length = gs.length := by
  intro ns
  induction ns with
  | nil => intro gs; rfl
  | cons x r ih => intro gs; rw [List.foldl_cons, ih, wStep_length]
 unfold weiF
 refine Nat.le_trans (key _ _ (Nat.le_refl _)) ?_
 rw [len, List.length_replicate]
 exact Nat.le_refl _
theorem wei_mem {z : Int} (hz : z = 2 ∨ z = 3) {ns : List Int} (h : ∀ x ∈ ns, 1 ≤ x ∧ x ≤ 9) (hs : ns.sum ≤ 135) : ∀ x ∈ weiF z ns, 0 ≤ x ∧ x ≤ 135 := by
 intro x hx
 obtain ⟨i, hi, rfl⟩ := List.getElem_of_mem hx
 have e := wei_getD hz h (i : Int)
 unfold wOf at e
 rw [Int.toNat_natCast, List.getD_eq_getElem?_getD, List.getElem?_eq_getElem hi] at e
 have b := sum_bounds hz (show (0 : Int) ≤ (i : Int) by exact Int.natCast_nonneg _) ns h
 have e2 : (weiF z ns)[i] = (ns.map (wAt z i)).sum := e
 rw [e2]
 refine ⟨b.1, ?_⟩
 by_cases h0 : i = 0
 ·rw [b.2.2 (by rw [h0]; simp)]; exact Int.natCast_nonneg _
 ·have := Int.mul_le_mul_of_nonneg_right (show (1 : Int) ≤ (i : Int) by lia) b.1
  lia
end Mine
end
section
namespace Mine
open PySem PySem.W PySem.Calls PySem.Spec PyProof.Rows
theorem Qf_up {z part : Int} {w : Int → Int} (hz : 2 ≤ z) (hp : 1 ≤ part) : Qf z w (part * z) = Qf z w part / z := by
 have : 1 * 1 ≤ part * z := Int.mul_le_mul hp (by exact Int.le_of_lt (by assumption)) (by decide) (by exact Int.le_of_lt (by assumption))
 rw [Qf, if_pos ⟨hz, by assumption, Int.mul_emod_left _ _⟩, Int.mul_ediv_cancel _ (by lia)]
theorem up_pos {z part : Int} (hz : 2 ≤ z) (hp : 1 ≤ part) : 1 ≤ part * z ∧ part < part * z := by
 have := Int.mul_le_mul_of_nonneg_left hz (show 0 ≤ part by exact Int.le_of_lt (by assumption))
 grind only
theorem pow_up {z part : Int} (hz : 2 ≤ z) (hp : 1 ≤ part) : ∀ k : Nat, part ≤ part * z ^ k
 | 0 => by rw [Int.pow_zero, Int.mul_one]; exact Int.le_refl _
 | k + 1 => by
  have h1 := pow_up hz hp k
  have h2 := (up_pos hz (show 1 ≤ part * z ^ k by exact Int.le_trans (by assumption) (by assumption))).2
  rw [Int.pow_succ, ← Int.mul_assoc]; lia
theorem Qf_pow_zero {z part : Int} {w : Int → Int} (hz : 2 ≤ z) (hp : 1 ≤ part) (h : Qf z w part = 0) : ∀ k : Nat, Qf z w (part * z ^ k) = 0
 | 0 => by rw [Int.pow_zero, Int.mul_one]; exact h
 | k + 1 => by
  have h1 := pow_up hz hp k
  rw [Int.pow_succ, ← Int.mul_assoc, Qf_up hz (by exact Int.le_trans (by assumption) (by assumption)), Qf_pow_zero hz hp h k, Int.zero_ediv]
theorem figW_count {z p : Int} {w : Int → Int} (hz : 2 ≤ z) (hw : ∀ q, 1 ≤ q → 0 ≤ Qf z w q) : ∀ (n : Nat) (part : Int) (due : List Int), 1 ≤ part → (Qf z w part).toNat ≤ n →
  ((∃ k : Nat, p = part * z ^ k) → (figW z part (Qf z w part) due).count p = due.count p + (Qf z w p % z).toNat) ∧ ((¬ ∃ k : Nat, p = part * z ^ k) → (figW z part (Qf z w part) due).count p = due.count p) := by
 have stop : ∀ (part : Int) (due : List Int), 1 ≤ part → ¬ 0 < Qf z w part → ((∃ k : Nat, p = part * z ^ k) → (figW z part (Qf z w part) due).count p = due.count p + (Qf z w p % z).toNat) ∧ ((¬ ∃ k : Nat, p = part * z ^ k) → (figW z part (Qf z w part) due).count p = due.count p) := by
  intro part due hp h0
  have hq := hw part hp
  rw [figW, if_neg (fun h => h0 h.1)]
  refine ⟨?_, fun _ => rfl⟩
  intro q19; obtain ⟨k, rfl⟩ := q19
  rw [Qf_pow_zero hz hp (by lia) k, Int.zero_emod]; rfl
 intro n
 induction n with
 | zero => intro part due hp hn; exact stop part due hp (by lia)
 | succ n ih =>
  intro part due hp hn
  by_cases h0 : 0 < Qf z w part
  ·have hu := up_pos hz hp
   obtain ⟨i1, i2⟩ := ih (part * z) (due ++ List.replicate (Qf z w part % z).toNat part) hu.1 (by rw [Qf_up hz hp]; exact tn_le hn h0 hz)
   rw [figW, if_pos ⟨h0, hz⟩, ← Qf_up hz hp]
   constructor
   ·intro q19; obtain ⟨k, hk⟩ := q19
    cases k with
    | zero =>
     rw [Int.pow_zero, Int.mul_one] at hk
     rw [i2 ?_, List.count_append, hk, List.count_replicate_self]
     intro q19; obtain ⟨k', e⟩ := q19
     have := pow_up hz hu.1 k'
     lia
    | succ k =>
     rw [Int.pow_succ, Int.mul_comm (z ^ k) z, ← Int.mul_assoc] at hk
     have hlt := pow_up hz hu.1 k
     rw [i1 ⟨k, hk⟩, List.count_append, List.count_replicate, if_neg (by simp; lia), Nat.add_zero]
   ·intro hno
    have hne : p ≠ part := fun e => hno ⟨0, by rw [Int.pow_zero, Int.mul_one]; exact e⟩
    rw [i2 ?_, List.count_append, List.count_replicate, if_neg (by simpa using fun e => hne e.symm), Nat.add_zero]
    intro q19; obtain ⟨k, hk⟩ := q19
    exact hno ⟨k + 1, by rw [Int.pow_succ, Int.mul_comm (z ^ k) z, ← Int.mul_assoc]; exact hk⟩
  ·exact stop part due hp h0
noncomputable def Rt (z q : Int) : Int := if 2 ≤ z ∧ 1 ≤ q ∧ q % z = 0 then Rt z (q / z) else q
termination_by q.toNat
decreasing_by
 rename_i h
 have h1 : q / z < q := div_lt h.1 h.2.1
 lia
theorem Rt_spec {z : Int} (hz : 2 ≤ z) : ∀ q, 1 ≤ q → (∃ k : Nat, q = Rt z q * z ^ k) ∧ 1 ≤ Rt z q ∧ Rt z q % z ≠ 0 := by
 refine pos_ind z hz ?_ ?_
 ·intro q hq hd
  rw [Rt, if_neg (fun h => hd h.2.2)]
  exact ⟨⟨0, by rw [Int.pow_zero, Int.mul_one]⟩, hq, hd⟩
 ·intro q hq hd q19; (refine el_AbEeA q19 fun k => ?_; try clear q19; intro hk i2 i3)
  rw [Rt, if_pos ⟨hz, hq, hd⟩]
  refine ⟨⟨k + 1, ?_⟩, i2, i3⟩
  rw [Int.pow_succ, ← Int.mul_assoc, ← hk, (div_pos' hz hq hd).2]
theorem Rt_pow {z i : Int} (hz : 2 ≤ z) (h1 : 1 ≤ i) (hd : i % z ≠ 0) : ∀ k : Nat, Rt z (i * z ^ k) = i
 | 0 => by rw [Int.pow_zero, Int.mul_one, Rt, if_neg (fun h => hd h.2.2)]
 | k + 1 => by
  have h2 := pow_up hz h1 k
  have h3 := up_pos hz (show 1 ≤ i * z ^ k by exact Int.le_trans (by assumption) (by assumption))
  rw [Int.pow_succ, ← Int.mul_assoc, Rt, if_pos ⟨hz, h3.1, Int.mul_emod_left _ _⟩, Int.mul_ediv_cancel _ (by lia), Rt_pow hz h1 hd k]
theorem Qf_root {z : Int} {w : Int → Int} (hz : 2 ≤ z) : ∀ q, 1 ≤ q → w (Rt z q) = 0 → Qf z w q = 0 := by
 refine pos_ind z hz ?_ ?_
 ·intro q hq hd h
  rw [Rt, if_neg (fun h => hd h.2.2)] at h
  rw [Qf, if_neg (fun h => hd h.2.2)]; exact h
 ·intro q hq hd ih h
  rw [Rt, if_pos ⟨hz, hq, hd⟩] at h
  rw [Qf, if_pos ⟨hz, hq, hd⟩, ih h, Int.zero_ediv]
theorem figF_succ (z : Int) (ws : List Int) (k : Nat) : figF z ws (k + 1) = figW z (k : Int) (wOf ws k) (figF z ws k) := by
 unfold figF wOf
 rw [rangeKs_succ, List.foldl_append, List.foldl_cons, List.foldl_nil, Int.zero_add]
theorem figW_none (z part : Int) (due : List Int) : figW z part 0 due = due := by rw [figW, if_neg (by omega)]
structure Wei (z : Int) (ws : List Int) : Prop where
 hz : z = 2 ∨ z = 3
 low : ∀ q, 0 ≤ q → q % z = 0 → wOf ws q = 0
 bound : ∀ q, 1 ≤ q → q % z ≠ 0 → 0 ≤ wOf ws q ∧ q * wOf ws q ≤ 135
theorem Wei.two {z : Int} {ws : List Int} (W : Wei z ws) : 2 ≤ z := by have := W.hz; lia
theorem Wei.root {z : Int} {ws : List Int} (W : Wei z ws) {i : Int} (hi : 1 ≤ i) (hd : i % z ≠ 0) : Qf z (wOf ws) i = wOf ws i := by rw [Qf, if_neg (fun h => hd h.2.2)]
theorem figF_count {z : Int} {ws : List Int} (W : Wei z ws) {p : Int} (hp : 1 ≤ p) : ∀ k : Nat, (figF z ws k).count p = if Rt z p < k then (Qf z (wOf ws) p % z).toNat else 0
 | 0 => by
  have := Rt_spec W.two p hp
  rw [if_neg (by lia)]; rfl
 | k + 1 => by
  have h2 := W.two
  have hR := Rt_spec h2 p hp
  rw [figF_succ]
  by_cases hd : (k : Int) % z = 0
  ·rw [W.low k (by exact Int.natCast_nonneg _) hd, figW_none, figF_count W hp k]
   have : Rt z p ≠ k := fun e => hR.2.2 (by rw [e]; exact hd)
   by_cases h : Rt z p < k
   ·rw [if_pos h, if_pos (by exact Int.le_add_one (by assumption))]
   ·rw [if_neg h, if_neg (by lia)]
  ·have hk : 1 ≤ (k : Int) := by
    by_cases h : k = 0
    ·rw [h] at hd; simp at hd
    ·lia
   have hc := figW_count (p := p) h2 (fun q hq => (Qf_bound h2 W.bound q hq).1) _ (k : Int) (figF z ws k) hk (Nat.le_refl _)
   rw [W.root hk hd] at hc
   by_cases h : Rt z p = k
   ·(refine el_AbEe hR fun j => ?_; try clear hR; intro hj _)
    rw [hc.1 ⟨j, by rw [← h]; exact hj⟩, figF_count W hp k, if_neg (by lia), if_pos (by lia), Nat.zero_add]
   ·rw [hc.2 ?_, figF_count W hp k]
    ·by_cases h3 : Rt z p < k
     ·rw [if_pos h3, if_pos (by exact Int.le_add_one (by assumption))]
     ·rw [if_neg h3, if_neg (by lia)]
    ·intro q19; obtain ⟨j, hj⟩ := q19
     exact h (by rw [hj]; exact Rt_pow h2 hk hd j)
theorem figF_whole {z : Int} {ws : List Int} (W : Wei z ws) {p : Int} (hp : 1 ≤ p) : (figF z ws ws.length).count p = (Qf z (wOf ws) p % z).toNat := by
 rw [figF_count W hp]
 split
 ·rfl
 ·rename_i h
  have := Rt_spec W.two p hp
  rw [Qf_root W.two p hp (by unfold wOf; rw [List.getD_eq_getElem?_getD, List.getElem?_eq_none (by grind only)]; rfl), Int.zero_emod]; rfl
theorem figW_mem {z x : Int} (hz : 2 ≤ z) : ∀ (n : Nat) (part left : Int) (due : List Int), 1 ≤ part → left.toNat ≤ n → x ∈ figW z part left due → x ∈ due ∨ 1 ≤ x := by
 intro n
 induction n with
 | zero => intro part left due hp hn hx; rw [figW, if_neg (by lia)] at hx; exact .inl hx
 | succ n ih =>
  intro part left due hp hn hx
  rw [figW] at hx
  split at hx
  ·rename_i h
   rcases ih _ _ _ (up_pos hz hp).1 (tn_le hn h.1 hz) hx with h | h
   ·rcases List.mem_append.mp h with h | h
    ·exact .inl h
    ·rw [List.eq_of_mem_replicate h]; exact .inr hp
   ·exact .inr h
  ·exact .inl hx
theorem figF_mem {z : Int} {ws : List Int} (W : Wei z ws) {x : Int} : ∀ k : Nat, x ∈ figF z ws k → 1 ≤ x
 | 0, h => by cases h
 | k + 1, h => by
  rw [figF_succ] at h
  by_cases hk : k = 0
  ·subst hk
   rw [show wOf ws ((0 : Nat) : Int) = 0 from W.low 0 (by exact Int.natCast_nonneg _) (Int.zero_emod _), figW_none] at h
   exact figF_mem W 0 h
  ·exact (figW_mem W.two _ _ _ _ (by lia) (Nat.le_refl _) h).elim (figF_mem W k) id
theorem rowF_count {z : Int} {w : Int → Int} {p : Int} : ∀ k : Nat, (rowF z w k).count p = if 1 ≤ p ∧ p ≤ k then (Qf z w p % z).toNat else 0
 | 0 => by rw [if_neg (by lia)]; rfl
 | k + 1 => by
  rw [rowF, List.count_append, rowF_count k, List.count_replicate]
  by_cases h : p = (k : Int) + 1
  ·rw [if_neg (by omega), if_pos (by simp [h]), if_pos (by lia), Nat.zero_add, h]
  ·have e : ¬ (((k : Int) + 1 == p) = true) := by simpa using fun e => h e.symm
   by_cases h2 : 1 ≤ p ∧ p ≤ k
   ·rw [if_pos h2, if_neg e, if_pos (by lia), Nat.add_zero]
   ·rw [if_neg h2, if_neg e, if_neg fun q => h2 ⟨q.1, Int.le_of_lt_add_one (Int.lt_iff_le_and_ne.2 ⟨q.2, h⟩)⟩]
theorem rowF_mem {z : Int} {w : Int → Int} {x : Int} : ∀ k : Nat, x ∈ rowF z w k → 1 ≤ x ∧ x ≤ k
 | 0, h => by cases h
 | k + 1, h => by
  rw [rowF] at h
  rcases List.mem_append.mp h with h | h
  ·have := rowF_mem k h; lia
  ·rw [List.eq_of_mem_replicate h]; lia
theorem rowF_sorted {z : Int} {w : Int → Int} : ∀ k : Nat, (rowF z w k).Pairwise (· ≤ ·)
 | 0 => .nil
 | k + 1 => by
  rw [rowF, List.pairwise_append]
  refine ⟨rowF_sorted k, ?_, fun a ha b hb => ?_⟩
  ·rw [List.pairwise_replicate]; exact .inr (Int.le_refl _)
  ·have := rowF_mem k ha
   rw [List.eq_of_mem_replicate hb]; lia
theorem sorted_unique : ∀ {a b : List Int}, a.Perm b → a.Pairwise (· ≤ ·) → b.Pairwise (· ≤ ·) → a = b
 | [], b, h, _, _ => h.nil_eq
 | x :: a, [], h, _, _ => by have := h.length_eq; simp at this
 | x :: a, y :: b, h, ha, hb => by
  have ha' := List.pairwise_cons.mp ha
  have hb' := List.pairwise_cons.mp hb
  have h1 : x ≤ y := (List.mem_cons.mp (h.mem_iff.mpr List.mem_cons_self)).elim (fun e => by lia) (ha'.1 y)
  have h2 : y ≤ x := (List.mem_cons.mp (h.mem_iff.mp List.mem_cons_self)).elim (fun e => by lia) (hb'.1 x)
  have e : x = y := by lia
  subst e
  rw [sorted_unique (List.perm_cons _ |>.mp h) ha'.2 hb'.2]
theorem row_perm {z : Int} {ws : List Int} (W : Wei z ws) : (rowF z (wOf ws) 200).Perm (figF z ws ws.length) := by
 rw [List.perm_iff_count]
 intro p
 rw [rowF_count]
 by_cases hp : 1 ≤ p
 ·rw [figF_whole W hp]
  split
  ·rfl
  ·have b := Qf_bound W.two W.bound p hp
   have hq : Qf z (wOf ws) p = 0 := by
    by_cases h0 : Qf z (wOf ws) p = 0
    ·exact h0
    ·have := Int.mul_le_mul_of_nonneg_left (show 1 ≤ Qf z (wOf ws) p by lia) (show 0 ≤ p by exact Int.le_of_lt (by assumption))
     lia
   rw [hq, Int.zero_emod]; rfl
 ·rw [if_neg (by lia), List.count_eq_zero.mpr fun h => hp (figF_mem W _ h)]
noncomputable def cR (z : Nat) : Nat → Nat
 | 0 => 0
 | k + 1 => cR z k + if k % z = 0 then 0 else 10
theorem cR_le : ∀ k : Nat, k < 11 → cR 2 k ≤ 60 ∧ cR 3 k ≤ 60 := by decide
theorem figW_length {z : Int} (hz : 2 ≤ z) : ∀ (k : Nat) (part left : Int) (due : List Int), left < z ^ k → (figW z part left due).length ≤ due.length + k * (z - 1).toNat
 | 0, part, left, due, h => by
  rw [Int.pow_zero] at h
  rw [figW, if_neg (by lia), Nat.zero_mul, Nat.add_zero]
  exact Nat.le_refl _
 | k + 1, part, left, due, h => by
  rw [figW]
  split
  ·rename_i h0
   have h1 : left / z < z ^ k := Int.ediv_lt_of_lt_mul (by exact Int.le_of_lt (by assumption)) (by rw [Int.pow_succ] at h; exact h)
   have h2 := figW_length hz k (part * z) (left / z) (due ++ List.replicate (left % z).toNat part) h1
   rw [List.length_append, List.length_replicate] at h2
   have := Int.emod_lt_of_pos left (show 0 < z by exact Int.le_of_lt (by assumption))
   rw [Nat.succ_mul]
   exact Nat.le_trans h2 (by rw [Nat.add_assoc, Nat.add_comm (left % z).toNat]; exact Nat.add_le_add_left (Nat.add_le_add_left (Int.toNat_le_toNat (Int.le_sub_one_of_lt this)) _) _)
  ·exact Nat.le_add_right _ _
theorem figF_length {z : Int} {ws : List Int} (W : Wei z ws) : ∀ k : Nat, (figF z ws k).length ≤ cR z.toNat k
 | 0 => Nat.le_refl _
 | k + 1 => by
  have ih := figF_length W k
  rw [figF_succ, cR]
  have hz := W.hz
  have hmod : k % z.toNat = 0 ↔ (k : Int) % z = 0 := by
   rcases hz with rfl | rfl
   ·exact (Int.ofNat_inj (m := k % 2) (n := 0)).symm
   ·exact (Int.ofNat_inj (m := k % 3) (n := 0)).symm
  by_cases hd : (k : Int) % z = 0
  ·rw [W.low k (by exact Int.natCast_nonneg _) hd, figW_none, if_pos (hmod.mpr hd)]; exact ih
  ·have hk : 1 ≤ (k : Int) := by
    by_cases h : k = 0
    ·rw [h] at hd; simp at hd
    ·lia
   have b := W.bound k hk hd
   have b2 := Int.mul_le_mul_of_nonneg_right hk b.1
   rw [if_neg (fun e => hd (hmod.mp e))]
   rcases hz with rfl | rfl
   ·have := figW_length (z := 2) (by decide) 8 (k : Int) (wOf ws k) (figF 2 ws k) (by rw [show (2 : Int) ^ 8 = 256 by decide]; omega)
    rw [show ((2 : Int) - 1).toNat = 1 from rfl] at this
    lia
   ·have := figW_length (z := 3) (by decide) 5 (k : Int) (wOf ws k) (figF 3 ws k) (by rw [show (3 : Int) ^ 5 = 243 by decide]; omega)
    rw [show ((3 : Int) - 1).toNat = 2 from rfl] at this
    lia
theorem Wei.of {z : Int} (hz : z = 2 ∨ z = 3) {ns : List Int} (h : ∀ x ∈ ns, 1 ≤ x ∧ x ≤ 9) (hs : ns.sum ≤ 135) : Wei z (weiF z ns) where
 hz := hz
 low := fun q hq hd => by rw [wei_getD hz h]; exact (sum_bounds hz hq ns h).2.2 hd
 bound := fun q hq hd => by
  have := sum_bounds hz (show 0 ≤ q by exact Int.le_of_lt (by assumption)) ns h
  rw [wei_getD hz h]
  exact ⟨this.1, by omega⟩
theorem law_due {z : Int} (hz : z = 2 ∨ z = 3) {ns : List Int} (h : ∀ x ∈ ns, 1 ≤ x ∧ x ≤ 9) (hl : ns.length ≤ 15) :
  (∀ ms : List Int, ms.Perm (figF z (weiF z ns) (weiF z ns).length) → ms.Pairwise (· ≤ ·) → ms = rowF z (wOf (weiF z ns)) 200) ∧
  (figF z (weiF z ns) (weiF z ns).length).length < 64 ∧ (rowF z (wOf (weiF z ns)) 200).length < 64 := by
 have h9 := sum_nine ns h
 have W := Wei.of hz h (by lia)
 have hp := row_perm W
 have hlen : (figF z (weiF z ns) (weiF z ns).length).length < 64 := by
  have h1 := figF_length W (weiF z ns).length
  have h2 := cR_le (weiF z ns).length (by have := wei_length (z := z) (ns := ns); exact Nat.succ_le_succ (by assumption))
  rcases hz with rfl | rfl
  ·exact Nat.lt_of_le_of_lt (Nat.le_trans h1 h2.1) (by decide)
  ·exact Nat.lt_of_le_of_lt (Nat.le_trans h1 h2.2) (by decide)
 exact ⟨fun ms h1 h2 => sorted_unique (h1.trans hp.symm) h2 (rowF_sorted 200), hlen, by rw [hp.length_eq]; exact hlen⟩
end Mine
end
section
namespace Mine
open PySem PySem.W PySem.Calls PySem.Spec PyProof.Rows
theorem p2_le {a n : Nat} (h : a ≤ n) : (2 : Int) ^ a ≤ 2 ^ n := by
 rcases Nat.lt_or_eq_of_le h with h | rfl
 ·exact Int.le_of_lt (Int.pow_lt_pow_of_lt (by decide) h)
 ·exact Int.le_refl _
noncomputable def pw2 (ps : List Int) : Int := (ps.map fun p => (2 : Int) ^ p.toNat).sum
theorem pw2_cons (x : Int) (r : List Int) : pw2 (x :: r) = 2 ^ x.toNat + pw2 r := by
 unfold pw2; rw [List.map_cons, List.sum_cons]
theorem pw2_le : ∀ (ps : List Int) (a n : Nat), a ≤ n → ps.Pairwise (· < ·) → (∀ p ∈ ps, (a : Int) ≤ p ∧ p < n) → 0 ≤ pw2 ps ∧ pw2 ps ≤ 2 ^ n - 2 ^ a
 | [], a, n, h, _, _ => by
  have := p2_le h
  exact ⟨Int.le_refl _, by unfold pw2; simp; assumption⟩
 | x :: r, a, n, h, hp, hb => by
  have hx := hb x List.mem_cons_self
  have hp' := List.pairwise_cons.mp hp
  have i := pw2_le r (x.toNat + 1) n ((Int.toNat_lt (Int.le_trans (Int.natCast_nonneg a) hx.1)).2 hx.2) hp'.2 fun y hy => ⟨(by rw [Int.natCast_add, Int.toNat_of_nonneg (Int.le_trans (Int.natCast_nonneg a) hx.1)]; exact hp'.1 y hy), (hb y (List.mem_cons_of_mem _ hy)).2⟩
  have h2 := p2_le (show a ≤ x.toNat from Int.toNat_le_toNat hx.1)
  have h3 : (0 : Int) < 2 ^ x.toNat := Int.pow_pos (by decide)
  rw [pw2_cons]
  rw [Int.pow_succ] at i
  lia
theorem pw2_mult : ∀ (ps : List Int) (a : Nat), (∀ p ∈ ps, (a : Int) ≤ p) → ∃ c : Int, 0 ≤ c ∧ pw2 ps = 2 ^ a * c
 | [], a, _ => ⟨0, Int.le_refl _, by simp [pw2]⟩
 | x :: r, a, h => by
  refine el_EA (pw2_mult r a fun y hy => h y (List.mem_cons_of_mem _ hy)) fun c hc e => ?_
  have hx := h x List.mem_cons_self
  refine ⟨2 ^ (x.toNat - a) + c, Int.add_nonneg (Int.le_of_lt (Int.pow_pos (by decide))) hc, ?_⟩
  rw [pw2_cons, e, Int.mul_add, ← Int.pow_add, Nat.add_sub_of_le (show a ≤ x.toNat from Int.toNat_le_toNat hx)]
theorem bit_skip (a : Nat) (c : Int) (j : Nat) : (2 ^ a + 2 ^ (a + 1) * c) / 2 ^ (a + 1 + j) = 2 ^ (a + 1) * c / 2 ^ (a + 1 + j) := by
 have h0 : (0 : Int) < 2 ^ a := Int.pow_pos (by decide)
 have h1 : (0 : Int) < 2 ^ (a + 1) := Int.pow_pos (by decide)
 have e0 : (2 : Int) ^ a / 2 ^ (a + 1) = 0 := Int.ediv_eq_zero_of_lt (Int.le_of_lt h0) (Int.pow_lt_pow_of_lt (by decide) (by exact Nat.le_refl _))
 rw [Int.pow_add 2 (a + 1) j, ← Int.ediv_ediv_of_nonneg (Int.le_of_lt h1), ← Int.ediv_ediv_of_nonneg (Int.le_of_lt h1), Int.add_mul_ediv_left _ _ (by exact Int.ne_of_gt (by assumption)), e0, Int.zero_add, Int.mul_ediv_cancel_left _ (by exact Int.ne_of_gt (by assumption))]
theorem bits_places : ∀ (d a : Nat) (ps : List Int), ps.Pairwise (· < ·) → (∀ p ∈ ps, (a : Int) ≤ p) →
  (List.range' a d).filter (fun i => pw2 ps / 2 ^ i % 2 = 1) = (ps.filter fun p => p < ((a + d : Nat) : Int)).map Int.toNat
 | 0, a, ps, hp, hb => by
  have e : (ps.filter fun p => p < ((a + 0 : Nat) : Int)) = [] := List.filter_eq_nil_iff.mpr fun p hm => by have := hb p hm; simp; assumption
  rw [e]; rfl
 | d + 1, a, ps, hp, hb => by
  have h0 : (0 : Int) < 2 ^ a := Int.pow_pos (by decide)
  rw [List.range'_succ]
  cases ps with
  | nil =>
   rw [List.filter_nil, List.map_nil, List.filter_eq_nil_iff]
   intro i _
   show ¬ decide ((0 : Int) / 2 ^ i % 2 = 1) = true
   rw [Int.zero_ediv]; decide
  | cons x r =>
   have hx := hb x List.mem_cons_self
   have hp' := List.pairwise_cons.mp hp
   by_cases e : x = a
   ·have hr : ∀ p ∈ r, ((a + 1 : Nat) : Int) ≤ p := fun p hm => by have := hp'.1 p hm; lia
    refine el_EA (pw2_mult r (a + 1) hr) fun c hc ec => ?_
    have ih := bits_places d (a + 1) r hp'.2 hr
    have eS : pw2 (x :: r) = 2 ^ a + 2 ^ (a + 1) * c := by rw [pw2_cons, ec, e, Int.toNat_natCast]
    have b0 : pw2 (x :: r) / 2 ^ a % 2 = 1 := by
     rw [eS, Int.pow_succ, Int.mul_assoc, show (2 : Int) ^ a + 2 ^ a * (2 * c) = 2 ^ a * (1 + 2 * c) by rw [Int.mul_add, Int.mul_one], Int.mul_ediv_cancel_left _ (by exact Int.ne_of_gt (by assumption))]
     lia
    rw [List.filter_cons, if_pos (decide_eq_true b0), List.filter_cons, if_pos (decide_eq_true (by lia)), List.map_cons, e, Int.toNat_natCast, show a + (d + 1) = a + 1 + d by lia, ← ih]
    congr 1
    apply List.filter_congr
    intro i hi
    have hi2 := (List.mem_range'_1.mp hi).1
    rw [← e, eS, ec, show i = a + 1 + (i - (a + 1)) by grind only, bit_skip]
   ·have hr : ∀ p ∈ x :: r, ((a + 1 : Nat) : Int) ≤ p := fun p hm => by
     rcases List.mem_cons.mp hm with rfl | hm
     ·lia
     ·have := hp'.1 p hm; lia
    refine el_EA (pw2_mult (x :: r) (a + 1) hr) fun c hc ec => ?_
    have b0 : ¬ pw2 (x :: r) / 2 ^ a % 2 = 1 := by
     rw [ec, Int.pow_succ, Int.mul_assoc, Int.mul_ediv_cancel_left _ (by exact Int.ne_of_gt (by assumption))]
     lia
    rw [List.filter_cons, if_neg (by simpa using b0), bits_places d (a + 1) (x :: r) hp hr, show a + 1 + d = a + (d + 1) by lia]
theorem pw2_split (ps : List Int) : pw2 ps = pw2 (ps.filter fun p => p < 32) + pw2 (ps.filter fun p => 32 ≤ p) := by
 induction ps with
 | nil => rfl
 | cons x r ih =>
  rw [pw2_cons, ih, List.filter_cons, List.filter_cons]
  by_cases h : x < 32
  ·rw [if_pos (decide_eq_true h), if_neg (by simp; assumption), pw2_cons]; lia
  ·rw [if_neg (by simpa using h), if_pos (decide_eq_true (by exact Int.not_lt.mp (by assumption))), pw2_cons]; lia
theorem pw2_pos {x : Int} {r : List Int} : 0 < pw2 (x :: r) := by
 refine el_EA (pw2_mult (r.filter fun p => 0 ≤ p) 0 fun p hp => by simpa using (List.mem_filter.mp hp).2) fun c hc e => ?_
 have key : ∀ l : List Int, 0 ≤ pw2 l := by
  intro l
  induction l with
  | nil => exact Int.le_refl _
  | cons y l ih =>
   have : (0 : Int) < 2 ^ y.toNat := Int.pow_pos (by decide)
   rw [pw2_cons]; grind only
 have := key r
 have h2 : (0 : Int) < 2 ^ x.toNat := Int.pow_pos (by decide)
 rw [pw2_cons]; grind only
noncomputable def wordsG (ps : List Int) : List Str := ((ps.filter fun p => p < 32).map fun p => nameP p.toNat) ++ if pw2 (ps.filter fun p => 32 ≤ p) ≠ 0 ∨ (ps.filter fun p => p < 32) = [] then [PySem.baseText "0x" 16 (pw2 (ps.filter fun p => 32 ≤ p))] else []
theorem flags_words {ps : List Int} (hp : ps.Pairwise (· < ·)) (h0 : ∀ p ∈ ps, 0 ≤ p) : flagW (pw2 ps) = wordsG ps := by
 refine el_EA (pw2_mult (ps.filter fun p => 32 ≤ p) 32 fun p hm => by simpa using (List.mem_filter.mp hm).2) fun c hc ec => ?_
 have hlo := pw2_le (ps.filter fun p => p < 32) 0 32 (by decide) (hp.filter _) fun p hm => ⟨h0 p (List.mem_filter.mp hm).1, by simpa using (List.mem_filter.mp hm).2⟩
 have e32 : (2 : Int) ^ 32 = 4294967296 := by decide
 have hsp := pw2_split ps
 rw [ec] at hsp
 have hdiv : pw2 ps / 2 ^ 32 = c := by
  rw [hsp, Int.add_mul_ediv_left _ _ (by decide), Int.ediv_eq_zero_of_lt hlo.1 (by rw [e32] at hlo ⊢; exact Int.lt_of_le_of_lt (And.right (by assumption)) (by decide)), Int.zero_add]
 unfold flagW wordsG lowW
 rw [hdiv, ec]
 have hb := bits_places 32 0 ps hp h0
 rw [List.range_eq_range', hb, List.map_map]
 congr 1
 rw [Int.mul_comm c]
 have hcond : (c ≠ 0 ∨ pw2 ps = 0) ↔ ((2 : Int) ^ 32 * c ≠ 0 ∨ (ps.filter fun p => p < 32) = []) := by
  rw [e32] at hsp ⊢
  constructor
  ·rintro (h | h)
   ·exact .inl (by lia)
   ·refine .inr ?_
    cases hl : ps.filter fun p => p < 32 with
    | nil => rfl
    | cons x r =>
     rw [hl] at hsp
     have := pw2_pos (x := x) (r := r)
     lia
  ·rintro (h | h)
   ·exact .inl (by lia)
   ·by_cases h2 : c = 0
    ·refine .inr ?_
     rw [hsp, h, h2]; rfl
    ·exact .inl h2
 by_cases h : c ≠ 0 ∨ pw2 ps = 0
 ·rw [if_pos h, if_pos (hcond.mp h)]
 ·rw [if_neg h, if_neg (fun q => h (hcond.mpr q))]
noncomputable def placesF (R : List Int) (lv : Int) (n : Nat) : List Int := ((List.range n).filter fun k => (((R.take k).count (R.getD k 0) : Nat) : Int) = lv - 1).map fun k => R.getD k 0 - 1
theorem places_succ (R : List Int) (lv : Int) (n : Nat) : placesF R lv (n + 1) = placesF R lv n ++ if (((R.take n).count (R.getD n 0) : Nat) : Int) = lv - 1 then [R.getD n 0 - 1] else [] := by
 unfold placesF
 rw [List.range_succ, List.filter_append, List.map_append, List.filter_cons]
 congr 1
 by_cases h : (((R.take n).count (R.getD n 0) : Nat) : Int) = lv - 1
 ·rw [if_pos (decide_eq_true h), if_pos h]; rfl
 ·rw [if_neg (by simpa using h), if_neg h]; rfl
theorem places_mem {R : List Int} {lv x : Int} : ∀ n : Nat, x ∈ placesF R lv n → ∃ k, k < n ∧ (((R.take k).count (R.getD k 0) : Nat) : Int) = lv - 1 ∧ x = R.getD k 0 - 1 := fun n h => by
 (refine el_EAr (List.mem_map.mp h) fun k z09 => ?_; subst z09; intro hk)
 obtain ⟨h1, h2⟩ := List.mem_filter.mp hk
 exact ⟨k, List.mem_range.mp h1, of_decide_eq_true h2, rfl⟩
theorem places_rise {R : List Int} {lv : Int} (hs : R.Pairwise (· ≤ ·)) : ∀ n : Nat, n ≤ R.length → (placesF R lv n).Pairwise (· < ·)
 | 0, _ => .nil
 | n + 1, hn => by
  rw [places_succ, List.pairwise_append]
  refine ⟨places_rise hs n (by exact Nat.le_of_lt (by assumption)), ?_, fun a ha b hb => ?_⟩
  ·split
   ·exact .cons (List.forall_mem_nil _) .nil
   ·exact .nil
  ·split at hb
   ·rename_i hc
    rw [List.mem_singleton.mp hb]
    (refine el_EAAr (places_mem n ha) fun k z09 => ?_; subst z09; intro hk hck)
    have e : ∀ i, i < R.length → R.getD i 0 = R[i]! := fun i hi => by rw [List.getD_eq_getElem?_getD, List.getElem!_eq_getElem?_getD]; rfl
    have gk : R.getD k 0 = R[k]'(by lia) := by rw [List.getD_eq_getElem?_getD, List.getElem?_eq_getElem (by lia)]; rfl
    have gn : R.getD n 0 = R[n]'(by assumption) := by rw [List.getD_eq_getElem?_getD, List.getElem?_eq_getElem (by assumption)]; rfl
    have hle : R.getD k 0 ≤ R.getD n 0 := by rw [gk, gn]; exact List.pairwise_iff_getElem.mp hs k n (by lia) (by assumption) hk
    have hne : R.getD k 0 ≠ R.getD n 0 := fun q => by
     have h1 : (R.take (k + 1)).count (R.getD n 0) ≤ (R.take n).count (R.getD n 0) := by
      have : R.take (k + 1) = (R.take n).take (k + 1) := by rw [List.take_take, Nat.min_eq_left (by assumption)]
      rw [this]
      exact (List.take_sublist _ _).count_le _
     rw [List.take_add_one, List.getElem?_eq_getElem (by lia), List.count_append] at h1
     have h2 : ((some (R[k]'(by lia))).toList).count (R.getD n 0) = 1 := by rw [← q, gk]; simp
     rw [h2, ← q] at h1
     rw [q] at hck h1
     lia
    lia
   ·cases hb
theorem law_flags {R : List Int} {lv : Int} (hs : R.Pairwise (· ≤ ·)) (hb : ∀ x ∈ R, 1 ≤ x ∧ x ≤ 200) : flagW (pw2 (placesF R lv R.length)) = wordsG (placesF R lv R.length) ∧ 0 ≤ pw2 (placesF R lv R.length) ∧ pw2 (placesF R lv R.length) < 2 ^ 200 ∧ ∀ x ∈ placesF R lv R.length, 0 ≤ x ∧ x < 200 := by
 have h0 : ∀ x ∈ placesF R lv R.length, 0 ≤ x ∧ x < 200 := fun x hx => by
  (refine el_EAAr (places_mem _ hx) fun k z09 => ?_; subst z09; intro hk _)
  have := hb (R[k]'hk) (List.getElem_mem hk)
  rw [List.getD_eq_getElem?_getD, List.getElem?_eq_getElem hk]
  show 0 ≤ R[k] - 1 ∧ R[k] - 1 < 200
  lia
 have hr := places_rise (lv := lv) hs R.length (Nat.le_refl _)
 have := pw2_le _ 0 200 (by decide) hr h0
 exact ⟨flags_words hr fun p hp => (h0 p hp).1, this.1, by rw [Int.pow_zero] at this; exact Int.lt_of_le_of_lt (And.right (by assumption)) (by decide), h0⟩
end Mine
end
section
namespace Mine
open PySem PySem.W PySem.Calls PySem.Spec PyProof.Rows
noncomputable def vint : Int → List Int → Option (Int × List Int)
 | _, [] => none
 | v, b :: r => if b / 64 % 2 = 1 then vint (v * 64 + b % 64) r else some (v * 64 + b % 64, r)
noncomputable def readV : Nat → List Int → Option (List Int)
 | 0, _ => none
 | n + 1, l => if l = [] then some [] else match vint 0 l with
  | some (x, r) => (readV n r).map (x :: ·)
  | none => none
theorem vint_le : ∀ {l : List Int} {v x : Int} {r : List Int}, vint v l = some (x, r) → 0 ≤ v → v ≤ x
 | [], v, x, r, h, h0 => by cases h
 | b :: l, v, x, r, h, h0 => by
  rw [vint] at h
  split at h
  ·have := vint_le h (by lia); lia
  ·cases h; lia
theorem vint_drop : ∀ {l : List Int} {v x : Int} {r : List Int}, vint v l = some (x, r) → ∃ k, 1 ≤ k ∧ k ≤ l.length ∧ r = l.drop k
 | [], v, x, r, h => by cases h
 | b :: l, v, x, r, h => by
  rw [vint] at h
  split at h
  ·(refine el_EAAr (vint_drop h) fun k z09 => ?_; subst z09; intro h1 h2)
   exact ⟨k + 1, by exact Nat.succ_pos _, by rw [List.length_cons]; exact Nat.succ_le_succ (by assumption), rfl⟩
  ·cases h; exact ⟨1, by exact Nat.le_refl _, by rw [List.length_cons]; exact Nat.succ_pos _, rfl⟩
noncomputable def hiF (x : Int) : List Int := if 64 ≤ x then (x / 64 % 64 + 64) :: hiF (x / 64) else []
termination_by x.toNat
decreasing_by lia
theorem figs_hi (n : Nat) : ∀ (x : Int) (fs : List Int), x.toNat ≤ n → figs x fs = fs ++ hiF x := by
 induction n with
 | zero => intro x fs h; rw [figs, hiF, if_neg (by lia), if_neg (by lia), List.append_nil]
 | succ n ih =>
  intro x fs h
  rw [figs, hiF]
  split
  ·rw [ih _ _ (tn_le h (Int.le_trans (show (1 : Int) ≤ 64 by decide) (by assumption)) (by decide)), List.append_assoc]; rfl
  ·rw [List.append_nil]
theorem vint_hi (n : Nat) : ∀ (x : Int) (l : List Int), 0 ≤ x → x.toNat ≤ n → vint 0 ((hiF x).reverse ++ l) = vint (x / 64) l := by
 induction n with
 | zero => intro x l h0 h; rw [hiF, if_neg (by grind only), show x / 64 = 0 by lia]; rfl
 | succ n ih =>
  intro x l h0 h
  rw [hiF]
  split
  ·rw [List.reverse_cons, List.append_assoc, ih _ _ (Int.ediv_nonneg h0 (by decide)) (tn_le h (Int.le_trans (show (1 : Int) ≤ 64 by decide) (by assumption)) (by decide))]
   show vint _ ((x / 64 % 64 + 64) :: l) = _
   rw [vint, if_pos (by lia)]
   congr 1
   lia
  ·rw [show x / 64 = 0 by lia]; rfl
theorem vint_figs (x : Int) (h0 : 0 ≤ x) (l : List Int) : vint 0 ((figs x [x % 64]).reverse ++ l) = some (x, l) := by
 rw [figs_hi x.toNat x _ (Nat.le_refl _), List.reverse_append, List.append_assoc, vint_hi x.toNat x _ h0 (Nat.le_refl _)]
 show vint _ (x % 64 :: l) = _
 rw [vint, if_neg (by lia)]
 congr 2
 lia
noncomputable def octG : Int → List Int → List Int
 | _, [] => []
 | p, a :: r => (a + 128 * (p % 2)) :: octG (p + 1) r
theorem octG_length : ∀ (p : Int) (l : List Int), (octG p l).length = l.length
 | _, [] => rfl
 | p, a :: r => by rw [octG, List.length_cons, List.length_cons, octG_length]
theorem octC_octG (out : List Int) : octC out = octG 0 out := by
 have key : ∀ (r pre : List Int), out = pre ++ r → List.map (fun k' : Int => out.getD k'.toNat 0 + 128 * k'.fmod 2) (rangeKs pre.length r.length) = octG pre.length r := by
  intro r
  induction r with
  | nil => intro pre h; simp [rangeKs, octG]
  | cons c r ih =>
   intro pre h
   have e : rangeKs (pre.length : Int) (c :: r).length = (pre.length : Int) :: rangeKs ((pre ++ [c]).length : Int) r.length := by
    unfold rangeKs
    rw [List.length_cons, List.range_succ_eq_map, List.map_cons, List.map_map]
    rw [show (pre.length : Int) + ((0 : Nat) : Int) = pre.length by exact Int.add_zero _]
    congr 1
    apply List.map_congr_left
    intro a ha
    simp only [Function.comp, List.length_append, List.length_cons, List.length_nil]; lia
   rw [e, List.map_cons, ih (pre ++ [c]) (by rw [h]; simp), octG]
   congr 1
   ·rw [Int.fmod_eq_emod_of_nonneg _ (by decide)]
    congr 1
    rw [h, Int.toNat_natCast, List.getD_eq_getElem?_getD]; simp
   ·congr 1
    simp
 have := key out [] rfl
 unfold octC
 rw [show ((out.length : Int) - 0).toNat = out.length by exact Int.toNat_natCast _]
 exact this
theorem vint_octG : ∀ {l : List Int} {v x : Int} {r : List Int} (p : Int), vint v l = some (x, r) → ∃ p', vint v (octG p l) = some (x, octG p' r)
 | [], v, x, r, p, h => by cases h
 | b :: l, v, x, r, p, h => by
  rw [vint] at h
  rw [octG, vint]
  rw [show 128 * (p % 2) = 64 * (2 * (p % 2)) from Int.mul_assoc 64 2 (p % 2), Int.add_mul_ediv_left b _ (by decide), Int.add_mul_emod_self_left, Int.add_mul_emod_self_left]
  split at h
  ·rename_i hc
   rw [if_pos hc]
   exact vint_octG (p + 1) h
  ·rename_i hc
   cases h
   rw [if_neg hc]
   exact ⟨p + 1, rfl⟩
theorem readV_oct : ∀ (ns : List Int) (p : Int), (∀ x ∈ ns, 0 ≤ x) → readV (ns.length + 1) (octG p (ns.flatMap fun x => (figs x [x % 64]).reverse)) = some ns
 | [], p, h => by rw [readV]; rfl
 | x :: ns, p, h => by
  have hx := h x List.mem_cons_self
  have h1 := vint_figs x hx (ns.flatMap fun x => (figs x [x % 64]).reverse)
  obtain ⟨p', h2⟩ := vint_octG p h1
  rw [List.length_cons, readV, List.flatMap_cons]
  rw [if_neg (fun e => by rw [e] at h2; cases h2)]
  rw [h2]
  dsimp only
  rw [readV_oct ns p' (fun y hy => h y (List.mem_cons_of_mem _ hy))]
  rfl
theorem law_read (ns : List Int) (h : ∀ x ∈ ns, 0 ≤ x) : readV (ns.length + 1) (octF ns) = some ns := by
 unfold octF
 rw [octC_octG]
 exact readV_oct ns 0 h
theorem octG_bounds : ∀ (l : List Int) (p : Int), (∀ x ∈ l, 0 ≤ x ∧ x < 128) → ∀ x ∈ octG p l, 0 ≤ x ∧ x < 256
 | [], p, h, x, hx => by cases hx
 | a :: r, p, h, x, hx => by
  rw [octG] at hx
  rcases List.mem_cons.mp hx with rfl | hx
  ·have := h a List.mem_cons_self; lia
  ·exact octG_bounds r (p + 1) (fun y hy => h y (List.mem_cons_of_mem _ hy)) x hx
theorem hiF_bounds (n : Nat) : ∀ x : Int, x.toNat ≤ n → ∀ y ∈ hiF x, 0 ≤ y ∧ y < 128 := by
 induction n with
 | zero => intro x h y hy; rw [hiF, if_neg (by lia)] at hy; cases hy
 | succ n ih =>
  intro x h y hy
  rw [hiF] at hy
  split at hy
  ·rcases List.mem_cons.mp hy with rfl | hy
   ·lia
   ·exact ih _ (by lia) y hy
  ·cases hy
theorem hiF_length (x : Int) (h : x < 1000000) : (hiF x).length ≤ 3 := by
 rw [hiF]; split
 ·rw [List.length_cons, hiF]; split
  ·rw [List.length_cons, hiF]; split
   ·rw [List.length_cons, hiF, if_neg (by lia)]; simp
   ·simp
  ·simp
 ·simp
theorem octF_bounds (ns : List Int) (h : ∀ x ∈ ns, 0 ≤ x ∧ x < 1000000) : (∀ x ∈ octF ns, 0 ≤ x ∧ x < 256) ∧ (octF ns).length ≤ 4 * ns.length := by
 unfold octF
 rw [octC_octG, octG_length]
 constructor
 ·apply octG_bounds
  intro y hy
  refine el_EA (List.mem_flatMap.mp hy) fun x hx hy => ?_
  rw [figs_hi x.toNat x _ (Nat.le_refl _)] at hy
  rcases List.mem_append.mp (List.mem_reverse.mp hy) with hy | hy
  ·rw [List.mem_singleton.mp hy]; lia
  ·exact hiF_bounds x.toNat x (Nat.le_refl _) y hy
 ·induction ns with
  | nil => simp
  | cons x ns ih =>
   have := ih fun y hy => h y (List.mem_cons_of_mem _ hy)
   have h3 := hiF_length x (h x List.mem_cons_self).2
   rw [List.flatMap_cons, List.length_append, List.length_reverse, figs_hi x.toNat x _ (Nat.le_refl _), List.length_append, List.length_cons, List.length_nil, List.length_cons]
   lia
end Mine
end
section
namespace Mine
open PySem PySem.W PySem.Calls PySem.Spec PyProof.Rows
noncomputable def wTab (m z : Int) : List Int := if z = 2 then (if m = 3 then [1, 1, 1, 2, 1, 1, 1] else if m = 4 then [1, 1, 1, 2, 2, 2, 2, 2, 1, 1, 1] else [1, 1, 1, 2, 2, 3, 3, 3, 3, 3, 3, 2, 2, 1, 1, 1]) else (if m = 3 then [1, 1, 2, 2, 3, 3, 3, 3, 3, 2, 2, 1, 1] else if m = 4 then [1, 1, 2, 2, 4, 4, 5, 5, 7, 6, 7, 6, 7, 5, 5, 4, 4, 2, 2, 1, 1] else [1, 1, 2, 2, 4, 5, 6, 7, 9, 10, 12, 12, 14, 14, 15, 15, 15, 14, 14, 12, 12, 10, 9, 7, 6, 5, 4, 2, 2, 1, 1])
theorem ways_tab : ∀ m : Nat, m < 3 → ∀ z : Nat, z < 2 → waysF ((m : Int) + 3) ((z : Int) + 2) = wTab ((m : Int) + 3) ((z : Int) + 2) := by decide +kernel
noncomputable def mulF (c : Int) : Nat → Int
 | 0 => 1
 | n + 1 => mulF c n * (2 ^ (c * (1 + (n : Int))).toNat - 1)
noncomputable def bitsB (x : Int) (n : Nat) : Bool := decide (Builtin.Int.intBits x ≤ n)
noncomputable def dvB (a b : Int) : Bool := let nb := Builtin.Int.intBits b; let kd := ((Builtin.Int.intBits a : Int) + nb - 1) / nb
 decide (0 < a ∧ 0 < b ∧ nb ≤ 1990 ∧ 1 ≤ kd ∧ kd ≤ 40 ∧ a < 2 ^ (nb * kd.toNat))
noncomputable def numB (m : Nat) (b z : Int) : Bool :=
 let ws := wTab m z
 let A := mulF (b * z) m
 let D := mulF b m
 let q := A / D
 dvB A D && (dvB (A - 2) D && (decide (A % D = 0 ∧ 1 < D ∧ 0 < q ∧ ((Builtin.Int.intBits q : Int) + b - 1) / b = ws.length ∧ ws.length ≤ 40 ∧ q < 2 ^ (b.toNat * ws.length) ∧ digV b.toNat ws = q) && (ws.all (fun x => decide (0 ≤ x ∧ x < 2 ^ b.toNat)) && (List.range m).all fun k => bitsB (mulF (b * z) k) 2000 && bitsB (mulF b k) 2000 && bitsB (2 ^ (b * z * (1 + (k : Int))).toNat - 1) 2000 && bitsB (2 ^ (b * (1 + (k : Int))).toNat - 1) 2000)))
theorem nums : ∀ u : Nat, u < 30 → ∀ z : Nat, z < 2 → numB (3 + u % 3) (10 + (u : Int)) ((z : Int) + 2) = true := by decide +kernel
end Mine
end
section
namespace Mine
open PySem PySem.W PySem.Calls PySem.Spec PyProof.Rows
noncomputable def rowOf (z : Int) (row : List Int) : List Int := (jGo z.toNat 20 1 (cnt0 row (row.headD 0)) []).getD []
noncomputable def lvlD (z f : Int) (row : List Int) : Int := (row.map fun k => z * ((k - f) / z + 1)).sum
noncomputable def stepE (z : Int) (p : List (List Int) × Int) (row : List Int) : List (List Int) × Int :=
 (if rowOf z row ∈ p.1 then p.1 else p.1 ++ [rowOf z row], if lvlD z 0 row - lvlD z 1 row = 0 then p.2 + 1 else p.2)
noncomputable def rowB (z : Int) (row : List Int) : Bool := decide (jGo z.toNat 20 1 (cnt0 row (row.headD 0)) [] = some (rowOf z row)) && (decide (row.headD 0 ∈ row ∧ row.length ≤ 5) && row.all fun x => decide (1 ≤ x ∧ x ≤ 9 ∧ x ≤ row.headD 0))
noncomputable def rowsB (m z : Int) : Bool := (partsF 6 m m).all (rowB z) && (decide ((partsF 6 m m).length ≤ 10) &&
 let p := (partsF 6 m m).foldl (stepE z) ([], 0)
 decide ((p.1.length : Int) = (wTab m z).getD m.toNat 0 ∧ p.2 = (wTab m z).getD m.toNat 0))
theorem rows_ok : ∀ m : Nat, m < 3 → ∀ z : Nat, z < 2 → rowsB ((m : Int) + 3) ((z : Int) + 2) = true := by decide +kernel
end Mine
end
section
namespace Mine
open PySem PySem.W PySem.Calls PySem.Spec PyProof.Rows
noncomputable abbrev P0 : Program := PySem.Challenge.rw_us0024_01.row.prog
set_option genCtorIdx false in
inductive SV where
 | u | i (n : Int) | s (x : Str) | b (c : Bool) | v (w : Value) | o (k : Nat)
noncomputable def SV.ctorIdx (x : SV) : Nat := @SV.casesOn (fun _ => Nat) x 0 (fun _ => 1) (fun _ => 2) (fun _ => 3) (fun _ => 4) (fun _ => 5)
set_option genCtorIdx false in
inductive SO where
 | ints (ns : List Int) | strs (xs : List Str) | rows (rs : List (List Int)) | cell (x : SV) | dict (c : List (Int × Int)) | raw (a : Addr) (o : Obj) | tab (P : Addr) (l c : Int) (q : Str) (cs : List (Addr × Obj)) | lrows (rs : List (List Int)) | fld (x : Addr) (fs : List (Str × SV)) | iter (I D : Addr) (os : List Int) (i : Nat) | slt (L : Addr) (o : Obj) | opn
 | ro (ns : List Int) | rrows (rs : List (List Int)) | fcell (x : SV) | tup (svs : List SV) | ti (ns : List Int) | ws (n b nt : Int) (cnt : List Int) | nrm (cnt : List Int) (b : Int) | fn (q : Addr) (os : List (Addr × Obj)) | junk
noncomputable def SO.ctorIdx (x : SO) : Nat := @SO.casesOn (fun _ => Nat) x (fun _ => 0) (fun _ => 1) (fun _ => 2) (fun _ => 3) (fun _ => 4) (fun _ _ => 5) (fun _ _ _ _ _ => 6) (fun _ => 7) (fun _ _ => 8) (fun _ _ _ _ => 9) (fun _ _ => 10) 11 (fun _ => 12) (fun _ => 13) (fun _ => 14) (fun _ => 15) (fun _ => 16) (fun _ _ _ _ => 17) (fun _ _ => 18) (fun _ _ => 19) 20
noncomputable abbrev Mu := List SV
noncomputable abbrev Nu := List SO
noncomputable def SO.own : SO → Bool
 | .ints _ | .strs _ | .rows _ | .cell _ | .dict _ | .raw _ _ | .tab _ _ _ _ _ | .lrows _ | .fld _ _ | .iter _ _ _ _ | .slt _ _ | .opn => true
 | _ => false
noncomputable def SO.fsh : SO → Bool
 | .tup _ | .rrows _ => true
 | _ => false
set_option genCtorIdx false in
mutual
inductive B1 where
 | len | max | min | sorted | sum | hex | tuple | range | reversed | iter | next | divmod
inductive AO where
 | add | sub | mul | div | bxor | shl | bor
end
structure Fn where
 ns : List Str
 gt : List (Str × Value) := []
 cs : List (Nat × Str) := []
 bi : List B1 := []
structure CD where
 x : Str
 c : Nat
 e : Nat
 sc : Scope
 F : Fn
noncomputable abbrev Cs := Nat → List SV → Nu → (SV → Nu → Prop) → Prop
structure Df where
 F : Fn
 D : List CD := []
 C : Cs := fun _ _ _ _ => False
structure Sit where
 w : World
 A : Around
 h₀ : Heap
 L : Addr
 env : Env
 d : Df
 pin : List (Addr × Obj) := []
 own : List (Addr × Obj) := []
 fm : Str → Option Value := fun _ => none
noncomputable def Le (ad ad' : List Addr) : Prop := ∃ l, ad' = ad ++ l
theorem Le.refl {ad : List Addr} : Le ad ad := ⟨[], (List.append_nil _).symm⟩
theorem Le.trans {a b c : List Addr} (x : Le a b) (y : Le b c) : Le a c := x.elim fun l h => y.elim fun k h' => ⟨l ++ k, by rw [h', h, List.append_assoc]⟩
theorem ex4m {α β γ δ : Type} {P Q Q' R : α → β → γ → δ → Prop} (f : ∀ a b c d, P a b c d → Q a b c d → Q' a b c d) (h : ∃ a b c d, P a b c d ∧ Q a b c d ∧ R a b c d) : ∃ a b c d, P a b c d ∧ Q' a b c d ∧ R a b c d := el_EEEEAA h fun a b c d p q r => ⟨a, b, c, d, p, f a b c d p q, r⟩
theorem Le.get {ad ad' : List Addr} {k : Nat} {a : Addr} (h : Le ad ad') (e : ad[k]? = some a) : ad'[k]? = some a := by
 obtain ⟨l, rfl⟩ := h
 rw [List.getElem?_append_left (List.getElem?_eq_some_iff.mp e).1, e]
noncomputable def Rp (ad : List Addr) (sv : SV) (v : Value) : Prop := match sv with
 | .u => True
 | .i n => ∃ t, v = .int n t
 | .s x => ∃ t, v = .str x t
 | .b c => v = .bool c
 | .v w => v = w
 | .o k => ∃ a, ad[k]? = some a ∧ v = .ref a
theorem Rp.up {ad ad' : List Addr} {sv : SV} {v : Value} (l : Le ad ad') (h : Rp ad sv v) : Rp ad' sv v := by
 cases sv with
 | o k => (refine el_EA h fun a => ?_; try clear h; intro h1 h2); exact ⟨a, l.get h1, h2⟩
 | _ => exact h
noncomputable def RL (ad : List Addr) : List SV → List Value → Prop
 | [], vs => vs = []
 | a :: r, vs => ∃ v s, vs = v :: s ∧ Rp ad a v ∧ RL ad r s
theorem RL.up {ad ad' : List Addr} (l : Le ad ad') : ∀ {svs : List SV} {vs : List Value}, RL ad svs vs → RL ad' svs vs := by
 intro svs
 induction svs with
 | nil => exact fun h => h
 | cons a r ih => intro vs q19; (refine el_EEAA q19 fun v s => ?_; try clear q19; intro e h1 h2); exact ⟨v, s, e, h1.up l, ih h2⟩
theorem RL.len {ad : List Addr} {svs : List SV} : ∀ {vs : List Value}, RL ad svs vs → svs.length = vs.length := by
 induction svs with
 | nil => rintro vs rfl; rfl
 | cons a r ih => intro vs q19; (refine el_EERA q19 fun v s z09 => ?_; try clear q19; subst z09; intro h1 h2); exact congrArg (· + 1) (ih h2)
theorem RL.ints {ad : List Addr} : ∀ {ns : List Int} {vs : List Value}, RL ad (ns.map SV.i) vs ↔ IntsAre vs ns := by
 intro ns
 induction ns with
 | nil => intro vs; exact ⟨fun h => by cases (show vs = [] from h); exact .nil, fun h => by cases h; rfl⟩
 | cons n r ih => exact fun {vs} => ⟨fun q => el_EEAA q fun v s e e1 h => e1.elim fun t e1 => by rw [e, e1]; exact .cons _ _ (ih.mp h), fun h => by cases h with | cons n t h => exact ⟨_, _, rfl, ⟨_, rfl⟩, ih.mpr h⟩⟩
noncomputable def TabC (l c : Int) (q : Str) (Z : Addr → Obj → Prop) (o : Obj) : Prop := ∃ c' oc vs t, o = tabObj #[rawInt l, rawInt c, .ref c'] ∧ Z c' oc ∧ oc.data = .fields vs ∧ vs[1]? = some (.str q t)
noncomputable def RowsZ (Z : Addr → Obj → Prop) : List Value → List (List Int) → Prop
 | vs, [] => vs = []
 | vs, r :: rs => ∃ a ws k tl, vs = .ref a :: tl ∧ Z a (listOf ws.toArray k) ∧ IntsAre ws r ∧ RowsZ Z tl rs
theorem RowsZ.up {Z Z' : Addr → Obj → Prop} (z : ∀ a o, Z a o → Z' a o) {rs : List (List Int)} : ∀ {vs : List Value}, RowsZ Z vs rs → RowsZ Z' vs rs := by
 induction rs with
 | nil => intro vs h; exact h
 | cons r rs ih => intro vs q19; (refine el_EEEEAAA q19 fun a ws k tl => ?_; try clear q19; intro e h1 h2 h3); exact ⟨a, ws, k, tl, e, z _ _ h1, h2, ih h3⟩
theorem RowsZ.len {Z : Addr → Obj → Prop} {rs : List (List Int)} : ∀ {vs : List Value}, RowsZ Z vs rs → vs.length = rs.length := by
 induction rs with
 | nil => rintro vs rfl; rfl
 | cons r rs ih => intro vs q19; (refine el_EEEERAA q19 fun a ws k tl z09 => ?_; try clear q19; subst z09; intro h1 h2 h3); exact congrArg (· + 1) (ih h3)
theorem RowsZ.app {Z : Addr → Obj → Prop} {rs qs : List (List Int)} {us : List Value} (h2 : RowsZ Z us qs) : ∀ {vs : List Value}, RowsZ Z vs rs → RowsZ Z (vs ++ us) (rs ++ qs) := by
 induction rs with
 | nil => rintro vs rfl; exact h2
 | cons r rs ih => intro vs q19; (refine el_EEEERAA q19 fun a ws k tl z09 => ?_; try clear q19; subst z09; intro h1 h2 h3); exact ⟨a, ws, k, tl ++ us, rfl, h1, h2, ih h3⟩
noncomputable def FldE (w : World) (ad : List Addr) : List (Str × SV) → List DictEntry → Prop
 | [], es => es = []
 | p :: r, es => ∃ t v tl, es = ⟨PyData.keyHash w.params p.1, .str p.1 t, v⟩ :: tl ∧ Rp ad p.2 v ∧ FldE w ad r tl
theorem FldE.map {w : World} {ad ad' : List Addr} {q : SV → Bool} (hq : ∀ sv v, q sv = true → Rp ad sv v → Rp ad' sv v) : ∀ {fs : List (Str × SV)} {es : List DictEntry}, fs.all (fun p => q p.2) = true → FldE w ad fs es → FldE w ad' fs es := by
 intro fs
 induction fs with
 | nil => intro es _ h; exact h
 | cons p r ih =>
  intro es z q19; (refine el_EEEAA q19 fun t v tl => ?_; try clear q19; intro e h1 h2)
  rw [List.all_cons, Bool.and_eq_true] at z
  exact ⟨t, v, tl, e, hq _ _ z.1 h1, ih z.2 h2⟩
noncomputable def Zf (h₀ : Heap) (fz : List (Addr × Obj)) (a : Addr) (o : Obj) : Prop := h₀.get? a = some o ∨ (a, o) ∈ fz
theorem Zf.up {h₀ : Heap} {fz fz' : List (Addr × Obj)} (z : ∀ p ∈ fz, p ∈ fz') {a : Addr} {o : Obj} (h : Zf h₀ fz a o) : Zf h₀ fz' a o := Or.imp_right (z _) h
noncomputable def Is (w : World) (h₀ : Heap) (fz : List (Addr × Obj)) (ad : List Addr) (so : SO) (a : Addr) (o : Obj) : Prop := match so with
 | .ints ns => ∃ vs n, o = listOf vs.toArray n ∧ IntsAre vs ns
 | .strs xs => ∃ vs n, o = listOf vs.toArray n ∧ StrsAre vs xs
 | .rows rs => ∃ vs n, o = listOf vs.toArray n ∧ RowsZ (fun a o => (a, o) ∈ fz) vs rs
 | .cell .u => ∃ v, o.data = .cell v
 | .cell sv => ∃ v, o.data = .cell (some v) ∧ Rp ad sv v
 | .dict c => (a == sysModules) = false ∧ ∃ kvs, o.IsDictOf (PySem.intKind P0 w) kvs ∧ PyProof.V.FlatPairs PyData.int kvs (kdfD c)
 | .raw a' o' => a = a' ∧ o = o'
 | .tab P l c q cs => a = P ∧ (o = tabObj #[] ∨ TabC l c q (fun a o => Zf h₀ fz a o ∧ ((a, o) ∈ cs ∨ (a, o) ∈ fz)) o)
 | .lrows rs => ∃ vs n, o = listOf vs.toArray n ∧ RowsZ (Zf h₀ fz) vs rs
 | .ro ns => ∃ vs n, o = listOf vs.toArray n ∧ IntsAre vs ns
 | .rrows rs => ∃ vs n, o = listOf vs.toArray n ∧ RowsZ (fun a o => (a, o) ∈ fz) vs rs
 | .fcell sv => ∃ v, o.data = .cell (some v) ∧ Rp ad sv v
 | .tup svs => ∃ vs : List Value, o = { cls := .type "tuple", data := .seq vs.toArray } ∧ RL ad svs vs
 | .ti ns => ∃ vs : List Value, o = { cls := .type "tuple", data := .seq vs.toArray } ∧ IntsAre vs ns
 | .ws n b nt cnt => ∃ objs, WsObjs w objs a n b nt cnt ∧ (a, o) ∈ objs ∧ ∀ q ∈ objs, Zf h₀ fz q.1 q.2
 | .nrm cnt b => ∃ (D : Addr) (cs : List Value) (t : Tok), o = { cls := .type "tuple", data := .seq #[.ref D, .int b t] } ∧ Zf h₀ fz D { cls := .type "tuple", data := .seq cs.toArray } ∧ IntsAre cs cnt
 | .fld x fs => Zf h₀ fz x (instObj 164 a) ∧ ∃ es, o = dictOf es fs.length ∧ FldE w ad fs es
 | .iter I D os i => a = I ∧ o = itO D i ∧ ∃ vs n, Zf h₀ fz D (listOf vs.toArray n) ∧ IntsAre vs os
 | .slt L oL => a = L ∧ ∃ sl, o = { oL with slots := sl }
 | .opn => True
 | .fn q os => a = q ∧ (∃ oc od fd sl, o = ⟨oc, od, .func fd, sl⟩) ∧ ∀ p ∈ os, Zf h₀ fz p.1 p.2
 | .junk => True
theorem Is.up {w : World} {h₀ : Heap} {fz fz' : List (Addr × Obj)} {ad ad' : List Addr} {so : SO} {a : Addr} {o : Obj} (l : Le ad ad') (z : ∀ p ∈ fz, p ∈ fz') (h : Is w h₀ fz ad so a o) : Is w h₀ fz' ad' so a o := by
 cases so with
 | rows rs => (refine el_EEA h fun vs n => ?_; try clear h; intro e h); exact ⟨vs, n, e, h.up fun a o => z _⟩
 | rrows rs => (refine el_EEA h fun vs n => ?_; try clear h; intro e h); exact ⟨vs, n, e, h.up fun a o => z _⟩
 | cell sv => cases sv with
  | u => exact h
  | _ => (refine el_EA h fun v => ?_; try clear h; intro e h); exact ⟨v, e, Rp.up l h⟩
 | tab P l c q cs => exact ⟨h.1, h.2.imp_right (ex4m fun _ _ _ _ _ h1 => ⟨h1.1.up z, h1.2.imp_right (z _)⟩)⟩
 | fcell sv => (refine el_EA h fun v => ?_; try clear h; intro e h); exact ⟨v, e, h.up l⟩
 | tup svs => (refine el_EA h fun vs => ?_; try clear h; intro e h); exact ⟨vs, e, h.up l⟩
 | ws n b nt cnt => (refine el_EAA h fun objs => ?_; try clear h; intro h1 h2 h3); exact ⟨objs, h1, h2, fun q hq => (h3 q hq).up z⟩
 | lrows rs => (refine el_EEA h fun vs n => ?_; try clear h; intro e h); exact ⟨vs, n, e, h.up fun a o q => q.up z⟩
 | nrm cnt b => (refine el_EEEAA h fun D cs t => ?_; try clear h; intro e h1 h2); exact ⟨D, cs, t, e, h1.up z, h2⟩
 | fn q os => exact ⟨h.1, h.2.1, fun p hp => (h.2.2 p hp).up z⟩
 | iter I D os i => (refine el_AAEEA h fun vs n => ?_; try clear h; intro e1 e2 h1 h2); exact ⟨e1, e2, vs, n, h1.up z, h2⟩
 | fld x fs => (refine el_AEA h fun es => ?_; try clear h; intro h1 e h2); exact ⟨h1.up z, es, e, h2.map (q := fun _ => true) (fun _ _ _ r => r.up l) (by simp)⟩
 | _ => exact h
noncomputable abbrev ledg (S : Sit) (nx fz : List (Addr × Obj)) : List (Addr × Obj) := nx ++ (fz ++ S.own)
structure Rel (S : Sit) (ad : List Addr) (μ : Mu) (ν : Nu) (m : Str → Option Value) (nx fz : List (Addr × Obj)) : Prop where
 mlen : μ.length = S.d.F.ns.length
 names : ∀ (i : Nat) (sv : SV) (x : Str), μ[i]? = some sv → S.d.F.ns[i]? = some x → sv = .u ∨ ∃ v, m x = some v ∧ Rp ad sv v
 len : ad.length = ν.length
 pl : ∀ (k : Nat) (so : SO), ν[k]? = some so → so ≠ .junk → ∃ a o, ad[k]? = some a ∧ Is S.w S.h₀ fz ad so a o ∧ if so.own = true then (a, o) ∈ nx else (so.fsh = true → (a, o) ∈ fz) ∧ Zf S.h₀ fz a o
 nod : (nx.map (·.1)).Nodup
 off : ∀ p ∈ nx, ∀ q ∈ fz ++ S.own, p.1 ≠ q.1
 offz : ∀ p ∈ fz, ∀ q ∈ S.own, p.1 ≠ q.1
 dis : ∀ (j k : Nat) (so so' : SO) (a : Addr), j ≠ k → ν[j]? = some so → ν[k]? = some so' → so.own = true → so'.own = true → ad[j]? = some a → ad[k]? = some a → False
 pin : ∀ p ∈ S.pin, p ∈ fz
 cells : ∀ p ∈ S.d.F.cs, ∃ c, S.env.cells.lookup p.2 = some c ∧ ad[p.1]? = some c
noncomputable def Loc (S : Sit) (m' : Str → Option Value) : Prop := (S.env.locals = S.L ∧ m' = S.fm) ∨ ∃ oC, (S.env.locals, oC) ∈ S.own ∧ LCg.NsObj oC m'
inductive Hd (S : Sit) (h : Heap) (ad : List Addr) (μ : Mu) (ν : Nu) : Prop
 | mk (m' : Str → Option Value) (nx fz : List (Addr × Obj)) (F : Fr S.h₀ S.L h S.fm) (N : News S.h₀ S.L h (ledg S nx fz)) (l : Loc S m') (R : Rel S ad μ ν m' nx fz)
section
variable {S : Sit} {h : Heap} {ad : List Addr} {μ : Mu} {ν : Nu} {m m' : Str → Option Value} {nx fz : List (Addr × Obj)}
noncomputable def SO.real : SO → Bool
 | .junk => false
 | _ => true
theorem real_ne {so : SO} (h : so.real = true) : so ≠ .junk := fun e => by rw [e] at h; exact Bool.false_ne_true h
theorem own_junk {so : SO} (h : so.own = true) : so ≠ .junk := fun e => by rw [e] at h; exact Bool.false_ne_true h
theorem Rel.own (R : Rel S ad μ ν m nx fz) {k : Nat} {so : SO} (hk : ν[k]? = some so) (ho : so.own = true) : ∃ a o, ad[k]? = some a ∧ Is S.w S.h₀ fz ad so a o ∧ (a, o) ∈ nx := by
 refine el_EEAA (R.pl k so hk (own_junk ho)) fun a o h1 h2 h3 => ?_
 exact ⟨a, o, h1, h2, (if_pos ho ▸ h3 :)⟩
theorem Rel.fro (R : Rel S ad μ ν m nx fz) {k : Nat} {so : SO} (hk : ν[k]? = some so) (hj : so ≠ .junk) (ho : so.own = false) : ∃ a o, ad[k]? = some a ∧ Is S.w S.h₀ fz ad so a o ∧ Zf S.h₀ fz a o := by
 refine el_EEAA (R.pl k so hk hj) fun a o h1 h2 h3 => ?_
 rw [ho, if_neg Bool.false_ne_true] at h3
 exact ⟨a, o, h1, h2, h3.2⟩
theorem fsh_own {so : SO} (h : so.fsh = true) : so.own = false ∧ so ≠ .junk := by cases so <;> first | (cases h; done) | exact ⟨rfl, fun e => by cases e⟩
theorem Rel.fsh (R : Rel S ad μ ν m nx fz) {k : Nat} {so : SO} (hk : ν[k]? = some so) (hf : so.fsh = true) : ∃ a o, ad[k]? = some a ∧ Is S.w S.h₀ fz ad so a o ∧ (a, o) ∈ fz := by
 refine el_EEAA (R.pl k so hk (fsh_own hf).2) fun a o h1 h2 h3 => ?_
 rw [(fsh_own hf).1, if_neg Bool.false_ne_true] at h3
 exact ⟨a, o, h1, h2, h3.1 hf⟩
theorem Zf.get (F : Fr S.h₀ S.L h m) (N : News S.h₀ S.L h (ledg S nx fz)) {a : Addr} {o : Obj} (z : Zf S.h₀ fz a o) : h.get? a = some o :=
 z.elim (fun x => F.keep _ _ x) fun x => (N _ (List.mem_append_right _ (List.mem_append_left _ x))).1
theorem nodup_split {pre post : List (Addr × Obj)} {D : Addr} {o : Obj} (h : ((pre ++ (D, o) :: post).map (·.1)).Nodup) : (∀ p ∈ pre, p.1 ≠ D) ∧ ∀ p ∈ post, p.1 ≠ D := by
 rw [List.map_append, List.map_cons, List.nodup_append] at h
 (refine el_AA h ?_; try clear h; intro _ h2 h3)
 rw [List.nodup_cons] at h2
 exact ⟨fun p hp => h3 _ (List.mem_map_of_mem hp) D List.mem_cons_self, fun p hp e => h2.1 (List.mem_map.mpr ⟨p, hp, e⟩)⟩
theorem UpdF.mid {D : Addr} {o : Obj} {post : List (Addr × Obj)} (h2 : ∀ p ∈ post, p.1 ≠ D) : ∀ (pre : List (Addr × Obj)), (∀ p ∈ pre, p.1 ≠ D) → UpdF D o (pre ++ (D, o) :: post) (fun o' => pre ++ (D, o') :: post) := by
 intro pre
 induction pre with
 | nil => intro _; exact .head h2
 | cons p r ih => intro h1; exact .tail (h1 p List.mem_cons_self) (ih fun q hq => h1 q (List.mem_cons_of_mem _ hq))
theorem updOf {D : Addr} {o o' : Obj} {l : List (Addr × Obj)} {f : Obj → List (Addr × Obj)} (U : UpdF D o l f) : Upd D o o' l (f o') := by
 induction U with
 | head h => exact .head h
 | tail h _ ih => exact .tail h ih
theorem Rel.setO {pre post : List (Addr × Obj)} {D : Addr} {o : Obj} (R : Rel S ad μ ν m (pre ++ (D, o) :: post) fz) {k : Nat} {so : SO} (hk : ν[k]? = some so) (ho : so.own = true) (hD : ad[k]? = some D) (o' : Obj) (so' : SO) (ho' : so'.own = true) (hI' : Is S.w S.h₀ fz ad so' D o') : Rel S ad μ (ν.set k so') m (pre ++ (D, o') :: post) fz := by
 have hm : (D, o) ∈ pre ++ (D, o) :: post := List.mem_append_right _ List.mem_cons_self
 have hkl : k < ν.length := (List.getElem?_eq_some_iff.mp hk).1
 have key : ∀ {j : Nat} {sj : SO}, (ν.set k so')[j]? = some sj → sj.own = true → ∃ sj', ν[j]? = some sj' ∧ sj'.own = true := fun {j sj} hj hjo => by
  rw [List.getElem?_set] at hj
  by_cases q : k = j
  ·exact ⟨so, q ▸ hk, ho⟩
  ·rw [if_neg q] at hj; exact ⟨sj, hj, hjo⟩
 refine ⟨R.mlen, R.names, by rw [List.length_set]; exact R.len, fun j sj hj hjj => ?_, ?_, fun p hp q hq => ?_, R.offz, fun i j si sj a hij hi hj hio hjo => ?_, R.pin, R.cells⟩
 ·rw [List.getElem?_set] at hj
  by_cases q : k = j
  ·subst q
   rw [if_pos rfl, if_pos hkl] at hj
   cases hj
   exact ⟨D, o', hD, hI', by rw [if_pos ho']; exact List.mem_append_right _ List.mem_cons_self⟩
  ·rw [if_neg q] at hj
   refine el_EEAA (R.pl j sj hj hjj) fun a oj ha hIj hmj => ?_
   refine ⟨a, oj, ha, hIj, ?_⟩
   by_cases hjo : sj.own = true
   ·rw [if_pos hjo] at hmj ⊢
    have hne : a ≠ D := fun z => R.dis j k sj so a (Ne.symm q) hj hk hjo ho ha (z ▸ hD)
    rcases List.mem_append.mp hmj with z | z
    ·exact List.mem_append_left _ z
    ·rcases List.mem_cons.mp z with z | z
     ·cases z; exact absurd rfl hne
     ·exact List.mem_append_right _ (List.mem_cons_of_mem _ z)
   ·rw [if_neg hjo] at hmj ⊢; exact hmj
 ·have := R.nod
  simpa using this
 ·have : p.1 ∈ (pre ++ (D, o) :: post).map (·.1) := by
   have := List.mem_map_of_mem (f := (·.1)) hp
   simpa using this
  refine el_EA (List.mem_map.mp this) fun p' hp' e => ?_
  exact e ▸ R.off p' hp' q hq
 ·refine el_EA (key hi hio) fun si' hi' hio' => ?_
  refine el_EA (key hj hjo) fun sj' hj' hjo' => ?_
  exact R.dis i j si' sj' a hij hi' hj' hio' hjo'
theorem Rel.upd (R : Rel S ad μ ν m nx fz) {k : Nat} {so : SO} (hk : ν[k]? = some so) (ho : so.own = true) :
  ∃ (D : Addr) (o : Obj) (f : Obj → List (Addr × Obj)), ad[k]? = some D ∧ (D, o) ∈ nx ∧ Is S.w S.h₀ fz ad so D o ∧ UpdF D o (ledg S nx fz) (fun o' => ledg S (f o') fz) ∧
   ∀ o' so', so'.own = true → Is S.w S.h₀ fz ad so' D o' → Rel S ad μ (ν.set k so') m (f o') fz := by
 refine el_EEAA (R.own hk ho) fun D o hD hI hm => ?_
 (refine el_EEr (List.append_of_mem hm) fun pre post z09 => ?_; subst z09)
 have hn := nodup_split R.nod
 refine ⟨D, o, fun o' => pre ++ (D, o') :: post, hD, hm, hI, ?_, fun o' so' ho' hI' => R.setO hk ho hD o' so' ho' hI'⟩
 have := UpdF.mid (o := o) (post := post ++ (fz ++ S.own)) (fun p hp => (List.mem_append.mp hp).elim (hn.2 p) fun hp => (Ne.symm (R.off _ hm p hp))) pre hn.1
 simpa [ledg, List.append_assoc] using this
theorem snoc_inv {α : Type} {l : List α} {a b : α} {k : Nat} (h : (l ++ [a])[k]? = some b) : l[k]? = some b ∨ (k = l.length ∧ b = a) := by
 rcases Nat.lt_or_ge k l.length with q | q
 ·rw [List.getElem?_append_left q] at h; exact .inl h
 ·rw [List.getElem?_append_right q] at h
  have hl := (List.getElem?_eq_some_iff.mp h).1
  rw [List.length_singleton] at hl
  have e : k = l.length := by grind only
  subst e
  rw [Nat.sub_self] at h; cases h; exact .inr ⟨rfl, rfl⟩
theorem lt_of_get {α : Type} {l : List α} {k : Nat} {a : α} (h : l[k]? = some a) : k < l.length := (List.getElem?_eq_some_iff.mp h).1
theorem Rel.add (R : Rel S ad μ ν m nx fz) {a : Addr} {o : Obj} {so : SO} {nx' fz' : List (Addr × Obj)} (z : ∀ p ∈ fz, p ∈ fz') (hI : so ≠ .junk → Is S.w S.h₀ fz' (ad ++ [a]) so a o)
  (hw : if so.own = true then nx' = (a, o) :: nx ∧ (∀ p ∈ nx, p.1 ≠ a) ∧ (∀ q ∈ fz' ++ S.own, a ≠ q.1) else nx' = nx ∧ (so = .junk ∨ ((so.fsh = true → (a, o) ∈ fz') ∧ Zf S.h₀ fz' a o))) (hoff : ∀ p ∈ nx, ∀ q ∈ fz' ++ S.own, p.1 ≠ q.1) (hoz : ∀ p ∈ fz', ∀ q ∈ S.own, p.1 ≠ q.1) : Rel S (ad ++ [a]) μ (ν ++ [so]) m nx' fz' := by
 have le : Le ad (ad ++ [a]) := ⟨_, rfl⟩
 have last : (ad ++ [a])[ν.length]? = some a := by rw [← R.len]; exact List.getElem?_concat_length
 have sub : ∀ p ∈ nx, p ∈ nx' := fun p hp => by
  by_cases ho : so.own = true
  ·rw [if_pos ho] at hw; rw [hw.1]; exact List.mem_cons_of_mem _ hp
  ·rw [if_neg ho] at hw; rw [hw.1]; exact hp
 have off2 : so.own = true → ∀ {k : Nat} {sk : SO}, ν[k]? = some sk → sk.own = true → (ad ++ [a])[k]? = some a → False := fun ho {k sk} h1 h2 h3 => by
  rw [if_pos ho] at hw
  refine el_EEAA (R.own h1 h2) fun b ob e1 _ e2 => ?_
  rw [le.get e1] at h3; cases h3
  exact hw.2.1 _ e2 rfl
 refine ⟨R.mlen, fun i sv x h1 h2 => (R.names i sv x h1 h2).imp_right fun q => q.imp fun v q => ⟨q.1, q.2.up le⟩, by rw [List.length_append, List.length_append, R.len]; rfl, fun k sk hk hj => ?_, ?_, fun p hp q hq => ?_, hoz, fun i j si sj b hij hi hj hio hjo hai haj => ?_, fun p hp => z _ (R.pin p hp), fun p hp => ?_⟩
 ·rcases snoc_inv hk with hk | ⟨rfl, rfl⟩
  ·refine el_EEAA (R.pl k sk hk hj) fun b ob h1 h2 h3 => ?_
   refine ⟨b, ob, le.get h1, h2.up le z, ?_⟩
   by_cases q : sk.own = true
   ·rw [if_pos q] at h3 ⊢; exact sub _ h3
   ·rw [if_neg q] at h3 ⊢; exact ⟨fun h => z _ (h3.1 h), h3.2.up z⟩
  ·refine ⟨a, o, last, hI hj, ?_⟩
   by_cases ho : sk.own = true
   ·rw [if_pos ho] at hw ⊢; rw [hw.1]; exact List.mem_cons_self
   ·rw [if_neg ho] at hw ⊢; exact hw.2.resolve_left hj
 ·by_cases ho : so.own = true
  ·rw [if_pos ho] at hw
   rw [hw.1, List.map_cons, List.nodup_cons]
   exact ⟨fun h => by refine el_EA (List.mem_map.mp h) fun p hp e => ?_; exact hw.2.1 p hp e, R.nod⟩
  ·rw [if_neg ho] at hw; rw [hw.1]; exact R.nod
 ·by_cases ho : so.own = true
  ·rw [if_pos ho] at hw
   rw [hw.1] at hp
   rcases List.mem_cons.mp hp with rfl | hp
   ·exact hw.2.2 q hq
   ·exact hoff p hp q hq
  ·rw [if_neg ho] at hw; rw [hw.1] at hp; exact hoff p hp q hq
 ·rcases snoc_inv hi with hi | ⟨rfl, rfl⟩
  ·rcases snoc_inv hj with hj | ⟨rfl, rfl⟩
   ·have e1 : ad[i]? = some b := by rw [← hai, List.getElem?_append_left (by rw [R.len]; exact lt_of_get hi)]
    have e2 : ad[j]? = some b := by rw [← haj, List.getElem?_append_left (by rw [R.len]; exact lt_of_get hj)]
    exact R.dis i j si sj b hij hi hj hio hjo e1 e2
   ·obtain rfl := Option.some.inj (last.symm.trans haj)
    rcases snoc_inv (a := sj) (l := ν) (k := i) (b := si) (by assumption) with hi | ⟨e, _⟩
    ·exact off2 hjo hi hio hai
    ·exact hij e
  ·rcases snoc_inv hj with hj | ⟨rfl, rfl⟩
   ·obtain rfl := Option.some.inj (last.symm.trans hai); exact off2 hio hj hjo haj
   ·exact hij rfl
 ·refine el_EA (R.cells p hp) fun c h1 h2 => ?_
  exact ⟨c, h1, le.get h2⟩
theorem Rel.more (R : Rel S ad μ ν m nx fz) {fz' : List (Addr × Obj)} (z : ∀ p ∈ fz, p ∈ fz') (hoff : ∀ p ∈ nx, ∀ q ∈ fz' ++ S.own, p.1 ≠ q.1) (hoz : ∀ p ∈ fz', ∀ q ∈ S.own, p.1 ≠ q.1) : Rel S ad μ ν m nx fz' := by
 refine ⟨R.mlen, R.names, R.len, fun k sk hk hj => ?_, R.nod, hoff, hoz, R.dis, fun p hp => z _ (R.pin p hp), R.cells⟩
 refine el_EEAA (R.pl k sk hk hj) fun b ob h1 h2 h3 => ?_
 refine ⟨b, ob, h1, h2.up Le.refl z, ?_⟩
 by_cases q : sk.own = true
 ·rw [if_pos q] at h3 ⊢; exact h3
 ·rw [if_neg q] at h3 ⊢; exact ⟨fun h => z _ (h3.1 h), h3.2.up z⟩
theorem Rel.sto (R : Rel S ad μ ν m nx fz) (nod : S.d.F.ns.Nodup) {i : Nat} {x : Str} {sv : SV} {v : Value} (hx : S.d.F.ns[i]? = some x) (h : Rp ad sv v) : Rel S ad (μ.set i sv) ν (fun y => if y = x then some v else m y) nx fz := by
 refine ⟨by rw [List.length_set]; exact R.mlen, fun j sj y hj hy => ?_, R.len, R.pl, R.nod, R.off, R.offz, R.dis, R.pin, R.cells⟩
 rw [List.getElem?_set] at hj
 by_cases q : i = j
 ·subst q
  rw [if_pos rfl, if_pos (by rw [R.mlen]; exact lt_of_get hx)] at hj
  cases hj
  obtain rfl := Option.some.inj (hx.symm.trans hy)
  exact .inr ⟨v, if_pos rfl, h⟩
 ·rw [if_neg q] at hj
  have hne : y ≠ x := fun e => by
   subst e
   obtain ⟨l1, e1⟩ := List.getElem?_eq_some_iff.mp hx
   obtain ⟨l2, e2⟩ := List.getElem?_eq_some_iff.mp hy
   exact q ((List.getElem_inj nod).mp (e1.trans e2.symm))
  exact (R.names j sj y hj hy).imp_right fun q => q.imp fun v' q => ⟨by rw [if_neg hne]; exact q.1, q.2⟩
noncomputable def maskM : List Bool → Mu → Mu
 | b :: bs, sv :: μ => (match b with | true => sv | false => .u) :: maskM bs μ
 | _, _ => []
noncomputable def maskN : List Bool → Nu → Nu
 | b :: bs, so :: ν => (match b with | true => so | false => .junk) :: maskN bs ν
 | _, _ => []
noncomputable def okI (n : Nat) : SV → Bool
 | .o k => Nat.blt k n
 | _ => true
noncomputable def okO (n : Nat) : SO → Bool
 | .cell sv => okI n sv
 | .fcell sv => okI n sv
 | .tup svs => svs.all (okI n)
 | .fld _ fs => fs.all fun p => okI n p.2
 | _ => true
noncomputable def allB {α : Type} (f : α → Bool) : List α → Bool
 | [] => true
 | a :: r => match f a with | true => allB f r | false => false
theorem allB_mem {α : Type} {f : α → Bool} {l : List α} (h : allB f l = true) : ∀ a ∈ l, f a = true := by
 induction l with
 | nil => intro a ha; cases ha
 | cons b r ih =>
  intro a ha
  unfold allB at h
  cases hb : f b with
  | false => rw [hb] at h; cases h
  | true =>
   rw [hb] at h
   rcases List.mem_cons.mp ha with rfl | ha
   ·exact hb
   ·exact ih h a ha
noncomputable def wkB (cs : List (Nat × Str)) (μ : Mu) (ν : Nu) : Bool := allB (okI ν.length) μ && (allB (okO ν.length) ν && allB (fun p => Nat.blt p.1 ν.length) cs)
theorem maskM_len : ∀ (bs : List Bool) (μ : Mu), (maskM bs μ).length = min bs.length μ.length := by
 intro bs
 induction bs with
 | nil => intro μ; simp [maskM]
 | cons b bs ih => intro μ; cases μ with
  | nil => rfl
  | cons a r => simp [maskM, ih]
theorem maskM_get : ∀ (bs : List Bool) (μ : Mu) {i : Nat} {sv : SV}, (maskM bs μ)[i]? = some sv → sv = .u ∨ μ[i]? = some sv := by
 intro bs
 induction bs with
 | nil => intro μ i sv h; cases h
 | cons b bs ih =>
  intro μ i sv h
  cases μ with
  | nil => cases h
  | cons a r =>
   cases i with
   | zero => cases b with
    | true => exact .inr h
    | false => cases h; exact .inl rfl
   | succ i => exact ih r h
theorem maskN_get : ∀ (bs : List Bool) (ν : Nu) {i : Nat} {so : SO}, (maskN bs ν)[i]? = some so → so = .junk ∨ ν[i]? = some so := by
 intro bs
 induction bs with
 | nil => intro μ i sv h; cases h
 | cons b bs ih =>
  intro μ i sv h
  cases μ with
  | nil => cases h
  | cons a r =>
   cases i with
   | zero => cases b with
    | true => exact .inr h
    | false => cases h; exact .inl rfl
   | succ i => exact ih r h
theorem maskN_len : ∀ (bs : List Bool) (ν : Nu), (maskN bs ν).length ≤ ν.length := by
 intro bs
 induction bs with
 | nil => intro ν; exact Nat.zero_le _
 | cons b bs ih => intro ν; cases ν with
  | nil => exact Nat.le_refl _
  | cons a r => exact Nat.succ_le_succ (ih r)
theorem take_get {ad : List Addr} {k n : Nat} {a : Addr} (h : ad[k]? = some a) (hk : k < n) : (ad.take n)[k]? = some a := by rw [List.getElem?_take, if_pos hk, h]
theorem of_take {ad : List Addr} {k n : Nat} {a : Addr} (h : (ad.take n)[k]? = some a) : ad[k]? = some a := by
 rw [List.getElem?_take] at h
 split at h
 ·exact h
 ·cases h
theorem Rp.take {n : Nat} {sv : SV} {v : Value} (q : okI n sv = true) (h : Rp ad sv v) : Rp (ad.take n) sv v := by
 cases sv with
 | o k => (refine el_EA h fun a => ?_; try clear h; intro h1 h2); exact ⟨a, take_get h1 (Nat.le_of_ble_eq_true q), h2⟩
 | _ => exact h
theorem RL.take {n : Nat} {svs : List SV} : ∀ {vs : List Value}, svs.all (okI n) = true → RL ad svs vs → RL (ad.take n) svs vs := by
 induction svs with
 | nil => intro vs _ h; exact h
 | cons a r ih =>
  intro vs q q19; (refine el_EEAA q19 fun v s => ?_; try clear q19; intro e h1 h2)
  rw [List.all_cons, Bool.and_eq_true] at q
  exact ⟨v, s, e, h1.take q.1, ih q.2 h2⟩
theorem Is.take {w : World} {h₀ : Heap} {fz : List (Addr × Obj)} {n : Nat} {so : SO} {a : Addr} {o : Obj} (q : okO n so = true) (h : Is w h₀ fz ad so a o) : Is w h₀ fz (ad.take n) so a o := by
 cases so with
 | cell sv => cases sv with
  | u => exact h
  | _ => (refine el_EA h fun v => ?_; try clear h; intro e h); exact ⟨v, e, Rp.take q h⟩
 | fcell sv => (refine el_EA h fun v => ?_; try clear h; intro e h); exact ⟨v, e, h.take q⟩
 | tup svs => (refine el_EA h fun vs => ?_; try clear h; intro e h); exact ⟨vs, e, h.take q⟩
 | fld x fs => (refine el_AEA h fun es => ?_; try clear h; intro h1 e h2); exact ⟨h1, es, e, h2.map (fun _ _ z r => r.take z) q⟩
 | _ => exact h
theorem Rel.weak (R : Rel S ad μ ν m nx fz) {bs cs : List Bool} (hl : bs.length = S.d.F.ns.length) (hb : wkB S.d.F.cs (maskM bs μ) (maskN cs ν) = true) : Rel S (ad.take (maskN cs ν).length) (maskM bs μ) (maskN cs ν) m nx fz := by
 rw [wkB, Bool.and_eq_true, Bool.and_eq_true] at hb
 (refine el_AA hb ?_; try clear hb; intro b1 b2 b3)
 have get : ∀ {k : Nat} {so : SO}, (maskN cs ν)[k]? = some so → so.own = true → ν[k]? = some so := fun h ho => (maskN_get cs ν h).resolve_left (own_junk ho)
 refine ⟨by rw [maskM_len, hl, R.mlen, Nat.min_self], fun i sv x h1 h2 => ?_, by rw [List.length_take, R.len]; exact Nat.min_eq_left (maskN_len cs ν), fun k so hk hj => ?_, R.nod, R.off, R.offz, fun i j si sj a hij hi hj hio hjo hai haj => ?_, R.pin, fun p hp => ?_⟩
 ·rcases maskM_get bs μ h1 with e | e
  ·exact .inl e
  ·exact (R.names i sv x e h2).imp_right fun q => q.imp fun v q => ⟨q.1, q.2.take (allB_mem b1 _ (List.mem_of_getElem? h1))⟩
 ·refine el_EEAA (R.pl k so ((maskN_get cs ν hk).resolve_left hj) hj) fun a o h1 h2 h3 => ?_
  exact ⟨a, o, take_get h1 (lt_of_get hk), h2.take (allB_mem b2 _ (List.mem_of_getElem? hk)), h3⟩
 ·exact R.dis i j si sj a hij (get hi hio) (get hj hjo) hio hjo (of_take hai) (of_take haj)
 ·refine el_EA (R.cells p hp) fun c h1 h2 => ?_
  exact ⟨c, h1, take_get h2 (Nat.le_of_ble_eq_true (allB_mem b3 p hp))⟩
end
end Mine
end
section
namespace Mine
open PySem PySem.W PySem.Calls PySem.Spec PyProof.Rows
noncomputable abbrev KP := Mu → Nu → Prop
noncomputable abbrev KV := SV → KP
set_option genCtorIdx false in
inductive SF where
 | next | brk | cont | ret (v : SV)
noncomputable def SF.ctorIdx (x : SF) : Nat := @SF.casesOn (fun _ => Nat) x 0 1 2 (fun _ => 3)
noncomputable abbrev KF := SF → KP
set_option genCtorIdx false in
mutual
inductive BO where
 | add | sub | mul | mod | div | shl | shr | band | bxor | pow
inductive CO where
 | eq | ne | lt | le | gt | ge | nin | isnt
end
noncomputable def BO.raw : BO → Operator
 | .add => .Add | .sub => .Sub | .mul => .Mult | .mod => .Mod | .div => .FloorDiv | .shl => .LShift | .shr => .RShift | .band => .BitAnd | .bxor => .BitXor | .pow => .Pow
noncomputable def CO.raw : CO → CmpOp
 | .eq => .Eq | .ne => .NotEq | .lt => .Lt | .le => .LtE | .gt => .Gt | .ge => .GtE | .nin => .NotIn | .isnt => .IsNot
noncomputable def B1.nm : B1 → Str
 | .len => Str.ofString "len" | .max => Str.ofString "max" | .min => Str.ofString "min" | .sorted => Str.ofString "sorted" | .sum => Str.ofString "sum" | .hex => Str.ofString "hex" | .tuple => Str.ofString "tuple"
 | .range => Str.ofString "range" | .reversed => Str.ofString "reversed" | .iter => Str.ofString "iter" | .next => Str.ofString "next" | .divmod => Str.ofString "divmod"
noncomputable def B1.val : B1 → Value
 | .len => .builtin "len" | .max => .builtin "max" | .min => .builtin "min" | .sorted => .builtin "sorted" | .sum => .builtin "sum" | .hex => .builtin "hex" | .tuple => .type "tuple"
 | .range => .type "range" | .reversed => .type "reversed" | .iter => .builtin "iter" | .next => .builtin "next" | .divmod => .builtin "divmod"
set_option genCtorIdx false in
mutual
inductive M0 where
 | pop | reverse | bits
inductive M1 where
 | append | extend | count | join
end
noncomputable def M0.nm : M0 → Str
 | .pop => Str.ofString "pop" | .reverse => Str.ofString "reverse" | .bits => Str.ofString "bit_length"
noncomputable def M1.nm : M1 → Str
 | .append => Str.ofString "append" | .extend => Str.ofString "extend" | .count => Str.ofString "count" | .join => Str.ofString "join"
set_option genCtorIdx false in
mutual
inductive At' where
 | n | nt | norm | simp
inductive Mt where
 | run | indent | less
end
noncomputable def At'.nm : At' → Str
 | .n => Str.ofString "n" | .nt => Str.ofString "nt" | .norm => Str.ofString "norm" | .simp => Str.ofString "is_simple"
noncomputable def Mt.nm : Mt → Str
 | .run => Str.ofString "longest_run_of_spaces" | .indent => Str.ofString "indent_level" | .less => Str.ofString "less"
noncomputable def Mt.ad : Mt → Nat
 | .run => 126 | .indent => 133 | .less => 154
set_option genCtorIdx false in
mutual
inductive CK where
 | ints | strs | rows
inductive NK where
 | lists | strs | rows
end
noncomputable def NK.so : NK → SO
 | .lists => .lrows [] | .strs => .strs [] | .rows => .rows []
set_option genCtorIdx false in
inductive T where
 | int (n : Int) (c e : Nat) | str (x : Str) (c e : Nat) | bool (b : Bool) (c e : Nat)
 | loc (i c e : Nat) | cel (i c e : Nat) | glo (i c e : Nat)
 | bin (o : BO) (l r : T) (c e : Nat) | neg (a : T) (c e : Nat) | inv (a : T) (c e : Nat)
 | cmp (o : CO) (l r : T) (c e : Nat) | not (a : T) (c e : Nat) | or (a b : T) (c e : Nat) | and (a b : T) (c e : Nat) | ife (t a b : T) (c e : Nat)
 | sub (o i : T) (c e : Nat) | last (o : T) (c1 e1 c2 c e : Nat) | sto (o b : T) (c1 e1 c e : Nat) | sfr (o b : T) (c1 e1 c e : Nat) | srev (o : T) (c2 c1 e1 c e : Nat)
 | nil (fz : Bool) (c e : Nat) | lst (a : T) (c e : Nat) | lstI (ns : List (Int × Nat × Nat)) (c e : Nat) | tup (a b : T) (c e : Nat) | dict (c e : Nat)
 | call1 (g : Nat) (a : T) (ef c e : Nat) | call2 (g : Nat) (a b : T) (ef c e : Nat) | b1 (i : Nat) (a : T) (ef c e : Nat) | b2 (i : Nat) (a b : T) (ef c e : Nat)
 | m0 (o : M0) (a : T) (ea c e : Nat) | m1 (o : M1) (a b : T) (ea c e : Nat)
 | comp (k : CK) (j : Nat) (elt it : T) (c e : Nat) | compR (k : CK) (j : Nat) (elt n : T) (i ef c1 e1 c e : Nat)
 | tupS (xs : List (Str × Nat × Nat)) (c e : Nat) | att (o : At') (a : T) (c e : Nat) | meth0 (o : Mt) (a : T) (ea c e : Nat) | meth1 (o : Mt) (a b : T) (ea c e : Nat) | call3 (g : Nat) (a b x : T) (ef c e : Nat)
 | compF (k : CK) (j : Nat) (elt tst it : T) (c e : Nat)
 | dget (a u v : T) (ea c e : Nat) | nilL (k : NK) (c e : Nat) | compO (j : Nat) (elt it : T) (c e : Nat)
 | callE2 (i : Nat) (a b : T) (ef c e : Nat) | callE3 (i : Nat) (a b x : T) (ef c e : Nat)
noncomputable def T.ctorIdx (x : T) : Nat := @T.casesOn (fun _ => Nat) x (fun _ _ _ => 0) (fun _ _ _ => 1) (fun _ _ _ => 2) (fun _ _ _ => 3) (fun _ _ _ => 4) (fun _ _ _ => 5) (fun _ _ _ _ _ => 6) (fun _ _ _ => 7) (fun _ _ _ => 8) (fun _ _ _ _ _ => 9) (fun _ _ _ => 10) (fun _ _ _ _ => 11) (fun _ _ _ _ => 12) (fun _ _ _ _ _ => 13) (fun _ _ _ _ => 14) (fun _ _ _ _ _ _ => 15) (fun _ _ _ _ _ _ => 16) (fun _ _ _ _ _ _ => 17) (fun _ _ _ _ _ _ => 18) (fun _ _ _ => 19) (fun _ _ _ => 20) (fun _ _ _ => 21) (fun _ _ _ _ => 22) (fun _ _ => 23) (fun _ _ _ _ _ => 24) (fun _ _ _ _ _ _ => 25) (fun _ _ _ _ _ => 26) (fun _ _ _ _ _ _ => 27) (fun _ _ _ _ _ => 28) (fun _ _ _ _ _ _ => 29) (fun _ _ _ _ _ _ => 30) (fun _ _ _ _ _ _ _ _ _ _ => 31) (fun _ _ _ => 32) (fun _ _ _ _ => 33) (fun _ _ _ _ _ => 34) (fun _ _ _ _ _ _ => 35) (fun _ _ _ _ _ _ _ => 36) (fun _ _ _ _ _ _ _ => 37) (fun _ _ _ _ _ _ => 38) (fun _ _ _ => 39) (fun _ _ _ _ _ => 40) (fun _ _ _ _ _ _ => 41) (fun _ _ _ _ _ _ _ => 42)
noncomputable def nmL (F : Fn) (i : Nat) : Str := match F.ns[i]? with | some x => x | none => Str.empty
noncomputable def nmG (F : Fn) (i : Nat) : Str := match F.gt[i]? with | some p => p.1 | none => Str.empty
noncomputable def nmB (F : Fn) (i : Nat) : Str := match F.bi[i]? with | some o => o.nm | none => Str.empty
noncomputable def nmC (F : Fn) (i : Nat) : Str := match F.cs[i]? with | some p => p.2 | none => Str.empty
noncomputable def cdOf (D : List CD) (j : Nat) : CD := match D[j]? with | some d => d | none => ⟨Str.empty, 0, 0, ⟨.function, [], false, false, []⟩, ⟨[], [], [], []⟩⟩
noncomputable def T.raw (l : Nat) (d : Df) : T → PySem.Expr
 | .int n c e => .Constant (.int n) 0 ⟨l, c, l, e⟩
 | .str x c e => .Constant (.str x) 0 ⟨l, c, l, e⟩
 | .bool b c e => .Constant (.bool b) 0 ⟨l, c, l, e⟩
 | .loc i c e => .Name (nmL d.F i) ⟨l, c, l, e⟩
 | .cel i c e => .Name (nmC d.F i) ⟨l, c, l, e⟩
 | .glo i c e => .Name (nmG d.F i) ⟨l, c, l, e⟩
 | .bin o a b c e => .BinOp (a.raw l d) o.raw (b.raw l d) ⟨l, c, l, e⟩
 | .neg a c e => .UnaryOp .USub (a.raw l d) ⟨l, c, l, e⟩
 | .inv a c e => .UnaryOp .Invert (a.raw l d) ⟨l, c, l, e⟩
 | .cmp o a b c e => .Compare (a.raw l d) [o.raw] [b.raw l d] ⟨l, c, l, e⟩
 | .not a c e => .UnaryOp .Not (a.raw l d) ⟨l, c, l, e⟩
 | .or a b c e => .BoolOp .Or [a.raw l d, b.raw l d] ⟨l, c, l, e⟩
 | .and a b c e => .BoolOp .And [a.raw l d, b.raw l d] ⟨l, c, l, e⟩
 | .ife t a b c e => .IfExp (t.raw l d) (a.raw l d) (b.raw l d) ⟨l, c, l, e⟩
 | .sub o i c e => .Subscript (o.raw l d) (i.raw l d) ⟨l, c, l, e⟩
 | .last o c1 e1 c2 c e => .Subscript (o.raw l d) (.UnaryOp .USub (.Constant (.int 1) 0 ⟨l, c2, l, e1⟩) ⟨l, c1, l, e1⟩) ⟨l, c, l, e⟩
 | .sto o b c1 e1 c e => .Subscript (o.raw l d) (.Slice none (some (b.raw l d)) none ⟨l, c1, l, e1⟩) ⟨l, c, l, e⟩
 | .sfr o b c1 e1 c e => .Subscript (o.raw l d) (.Slice (some (b.raw l d)) none none ⟨l, c1, l, e1⟩) ⟨l, c, l, e⟩
 | .srev o c2 c1 e1 c e => .Subscript (o.raw l d) (.Slice none none (some (.UnaryOp .USub (.Constant (.int 1) 0 ⟨l, c2, l, e1⟩) ⟨l, c1 + 2, l, e1⟩)) ⟨l, c1, l, e1⟩) ⟨l, c, l, e⟩
 | .nil _ c e => .List [] ⟨l, c, l, e⟩
 | .lst a c e => .List [a.raw l d] ⟨l, c, l, e⟩
 | .lstI ns c e => .List (ns.map fun p => .Constant (.int p.1) 0 ⟨l, p.2.1, l, p.2.2⟩) ⟨l, c, l, e⟩
 | .tup a b c e => .Tuple [a.raw l d, b.raw l d] 0 ⟨l, c, l, e⟩
 | .dict c e => .Dict [] [] ⟨l, c, l, e⟩
 | .call1 g a ef c e => .Call (.Name (nmG d.F g) ⟨l, c, l, ef⟩) [a.raw l d] [] ⟨l, c, l, e⟩
 | .call2 g a b ef c e => .Call (.Name (nmG d.F g) ⟨l, c, l, ef⟩) [a.raw l d, b.raw l d] [] ⟨l, c, l, e⟩
 | .b1 i a ef c e => .Call (.Name (nmB d.F i) ⟨l, c, l, ef⟩) [a.raw l d] [] ⟨l, c, l, e⟩
 | .b2 i a b ef c e => .Call (.Name (nmB d.F i) ⟨l, c, l, ef⟩) [a.raw l d, b.raw l d] [] ⟨l, c, l, e⟩
 | .m0 o a ea c e => .Call (.Attribute (a.raw l d) o.nm ⟨l, c, l, ea⟩) [] [] ⟨l, c, l, e⟩
 | .m1 o a b ea c e => .Call (.Attribute (a.raw l d) o.nm ⟨l, c, l, ea⟩) [b.raw l d] [] ⟨l, c, l, e⟩
 | .comp _ j elt it c e => .ListComp (elt.raw l { F := (cdOf d.D j).F }) [⟨.Name (cdOf d.D j).x ⟨l, (cdOf d.D j).c, l, (cdOf d.D j).e⟩, it.raw l d, [], 0⟩] (cdOf d.D j).sc ⟨l, c, l, e⟩
 | .compR _ j elt n i ef c1 e1 c e => .ListComp (elt.raw l { F := (cdOf d.D j).F }) [⟨.Name (cdOf d.D j).x ⟨l, (cdOf d.D j).c, l, (cdOf d.D j).e⟩, .Call (.Name (nmB d.F i) ⟨l, c1, l, ef⟩) [n.raw l d] [] ⟨l, c1, l, e1⟩, [], 0⟩] (cdOf d.D j).sc ⟨l, c, l, e⟩
 | .tupS xs c e => .Tuple (xs.map fun p => .Constant (.str p.1) 0 ⟨l, p.2.1, l, p.2.2⟩) 0 ⟨l, c, l, e⟩
 | .att o a c e => .Attribute (a.raw l d) o.nm ⟨l, c, l, e⟩
 | .meth0 o a ea c e => .Call (.Attribute (a.raw l d) o.nm ⟨l, c, l, ea⟩) [] [] ⟨l, c, l, e⟩
 | .meth1 o a b ea c e => .Call (.Attribute (a.raw l d) o.nm ⟨l, c, l, ea⟩) [b.raw l d] [] ⟨l, c, l, e⟩
 | .call3 g a b x ef c e => .Call (.Name (nmG d.F g) ⟨l, c, l, ef⟩) [a.raw l d, b.raw l d, x.raw l d] [] ⟨l, c, l, e⟩
 | .compF _ j elt tst it c e => .ListComp (elt.raw l { F := (cdOf d.D j).F }) [⟨.Name (cdOf d.D j).x ⟨l, (cdOf d.D j).c, l, (cdOf d.D j).e⟩, it.raw l d, [tst.raw l { F := (cdOf d.D j).F }], 0⟩] (cdOf d.D j).sc ⟨l, c, l, e⟩
 | .dget a u v ea c e => .Call (.Attribute (a.raw l d) (Str.ofString "get") ⟨l, c, l, ea⟩) [u.raw l d, v.raw l d] [] ⟨l, c, l, e⟩
 | .nilL _ c e => .List [] ⟨l, c, l, e⟩
 | .compO j elt it c e => .ListComp (elt.raw l { F := (cdOf d.D j).F }) [⟨.Name (cdOf d.D j).x ⟨l, (cdOf d.D j).c, l, (cdOf d.D j).e⟩, it.raw l d, [], 0⟩] (cdOf d.D j).sc ⟨l, c, l, e⟩
 | .callE2 i a b ef c e => .Call (.Name (nmC d.F i) ⟨l, c, l, ef⟩) [a.raw l d, b.raw l d] [] ⟨l, c, l, e⟩
 | .callE3 i a b x ef c e => .Call (.Name (nmC d.F i) ⟨l, c, l, ef⟩) [a.raw l d, b.raw l d, x.raw l d] [] ⟨l, c, l, e⟩
noncomputable def wI (a : SV) (k : Int → Prop) : Prop := match a with | .i n => k n | _ => False
noncomputable def wS (a : SV) (k : Str → Prop) : Prop := match a with | .s x => k x | _ => False
noncomputable def wB (a : SV) (k : Bool → Prop) : Prop := match a with | .b c => k c | _ => False
noncomputable def wO (a : SV) (ν : Nu) (k : Nat → SO → Prop) : Prop := match a with
 | .o j => (match ν[j]? with | some so => k j so | none => False)
 | _ => False
noncomputable def wL (a : SV) (ν : Nu) (k : List Int → Prop) : Prop := wO a ν fun _ so => match so with | .ints ns => k ns | .ro ns => k ns | _ => False
noncomputable def wOwn (a : SV) (ν : Nu) (k : Nat → List Int → Prop) : Prop := wO a ν fun j so => match so with | .ints ns => k j ns | _ => False
theorem wI_inv {a : SV} {k : Int → Prop} (h : wI a k) : ∃ n, a = .i n ∧ k n := by cases a <;> first | exact ⟨_, rfl, h⟩ | exact h.elim
theorem wS_inv {a : SV} {k : Str → Prop} (h : wS a k) : ∃ n, a = .s n ∧ k n := by cases a <;> first | exact ⟨_, rfl, h⟩ | exact h.elim
theorem wB_inv {a : SV} {k : Bool → Prop} (h : wB a k) : ∃ n, a = .b n ∧ k n := by cases a <;> first | exact ⟨_, rfl, h⟩ | exact h.elim
theorem wO_inv {a : SV} {ν : Nu} {k : Nat → SO → Prop} (h : wO a ν k) : ∃ j so, a = .o j ∧ ν[j]? = some so ∧ k j so := by
 cases a with
 | o j =>
  change (match ν[j]? with | some so => k j so | none => False) at h
  cases e : ν[j]? with
  | none => rw [e] at h; exact h.elim
  | some so => rw [e] at h; exact ⟨j, so, rfl, e, h⟩
 | _ => exact h.elim
theorem wL_inv {a : SV} {ν : Nu} {k : List Int → Prop} (h : wL a ν k) : ∃ j ns, a = .o j ∧ (ν[j]? = some (.ints ns) ∨ ν[j]? = some (.ro ns)) ∧ k ns := by
 (refine el_EERA (wO_inv h) fun j so z09 => ?_; subst z09; intro e h)
 cases so <;> first | exact ⟨j, _, rfl, .inl e, h⟩ | exact ⟨j, _, rfl, .inr e, h⟩ | exact h.elim
theorem wOwn_inv {a : SV} {ν : Nu} {k : Nat → List Int → Prop} (h : wOwn a ν k) : ∃ j ns, a = .o j ∧ ν[j]? = some (.ints ns) ∧ k j ns := by
 (refine el_EERA (wO_inv h) fun j so z09 => ?_; subst z09; intro e h)
 cases so <;> first | exact ⟨j, _, rfl, e, h⟩ | exact h.elim
theorem so_strs {so : SO} {k : List Str → Prop} (h : match so with | .strs x => k x | _ => False) : ∃ x, so = .strs x ∧ k x := by cases so <;> first | exact ⟨_, rfl, h⟩ | exact h.elim
theorem so_tup {so : SO} {k : List SV → Prop} (h : match so with | .tup x => k x | _ => False) : ∃ x, so = .tup x ∧ k x := by cases so <;> first | exact ⟨_, rfl, h⟩ | exact h.elim
theorem so_rows {so : SO} {k : List (List Int) → Prop} (h : match so with | .rows x => k x | _ => False) : ∃ x, so = .rows x ∧ k x := by cases so <;> first | exact ⟨_, rfl, h⟩ | exact h.elim
theorem so_lrows {so : SO} {k : List (List Int) → Prop} (h : match so with | .lrows x => k x | _ => False) : ∃ x, so = .lrows x ∧ k x := by cases so <;> first | exact ⟨_, rfl, h⟩ | exact h.elim
theorem so_dict {so : SO} {k : List (Int × Int) → Prop} (h : match so with | .dict x => k x | _ => False) : ∃ x, so = .dict x ∧ k x := by cases so <;> first | exact ⟨_, rfl, h⟩ | exact h.elim
theorem so_ro {so : SO} {k : List Int → Prop} (h : match so with | .ro x => k x | _ => False) : ∃ x, so = .ro x ∧ k x := by cases so <;> first | exact ⟨_, rfl, h⟩ | exact h.elim
theorem so_ints {so : SO} {k : List Int → Prop} (h : match so with | .ints x => k x | _ => False) : ∃ x, so = .ints x ∧ k x := by cases so <;> first | exact ⟨_, rfl, h⟩ | exact h.elim
theorem wO_of {α : Type} {c : α → SO} {K : Nat → SO → Prop} {k : Nat → α → Prop} {a : SV} {ν : Nu} (inv : ∀ j so, K j so → ∃ x, so = c x ∧ k j x) (h : wO a ν K) : ∃ j x, a = .o j ∧ ν[j]? = some (c x) ∧ k j x :=
 el_EEAA (wO_inv h) fun j so e q h => el_EA (inv j so h) fun x e1 h => ⟨j, x, e, e1 ▸ q, h⟩
theorem wO_strs {a : SV} {ν : Nu} {k : Nat → List Str → Prop} (h : wO a ν fun j so => match so with | .strs x => k j x | _ => False) : ∃ j x, a = .o j ∧ ν[j]? = some (.strs x) ∧ k j x := wO_of (fun _ _ => so_strs) h
theorem wO_tup {a : SV} {ν : Nu} {k : Nat → List SV → Prop} (h : wO a ν fun j so => match so with | .tup x => k j x | _ => False) : ∃ j x, a = .o j ∧ ν[j]? = some (.tup x) ∧ k j x := wO_of (fun _ _ => so_tup) h
theorem wO_rows {a : SV} {ν : Nu} {k : Nat → List (List Int) → Prop} (h : wO a ν fun j so => match so with | .rows x => k j x | _ => False) : ∃ j x, a = .o j ∧ ν[j]? = some (.rows x) ∧ k j x := wO_of (fun _ _ => so_rows) h
theorem wO_lrows {a : SV} {ν : Nu} {k : Nat → List (List Int) → Prop} (h : wO a ν fun j so => match so with | .lrows x => k j x | _ => False) : ∃ j x, a = .o j ∧ ν[j]? = some (.lrows x) ∧ k j x := wO_of (fun _ _ => so_lrows) h
theorem wO_dict {a : SV} {ν : Nu} {k : Nat → List (Int × Int) → Prop} (h : wO a ν fun j so => match so with | .dict x => k j x | _ => False) : ∃ j x, a = .o j ∧ ν[j]? = some (.dict x) ∧ k j x := wO_of (fun _ _ => so_dict) h
theorem wO_ro {a : SV} {ν : Nu} {k : Nat → List Int → Prop} (h : wO a ν fun j so => match so with | .ro x => k j x | _ => False) : ∃ j x, a = .o j ∧ ν[j]? = some (.ro x) ∧ k j x := wO_of (fun _ _ => so_ro) h
theorem wO_ints {a : SV} {ν : Nu} {k : Nat → List Int → Prop} (h : wO a ν fun j so => match so with | .ints x => k j x | _ => False) : ∃ j x, a = .o j ∧ ν[j]? = some (.ints x) ∧ k j x := wO_of (fun _ _ => so_ints) h
noncomputable def tokTab : List (Str × Int) := [(Str.ofString "!", 54), (Str.ofString "!=", 28), (Str.ofString "%", 24), (Str.ofString "%=", 40), (Str.ofString "&", 19), (Str.ofString "&=", 41), (Str.ofString "(", 7), (Str.ofString ")", 8), (Str.ofString "*", 16), (Str.ofString "**", 35), (Str.ofString "**=", 46), (Str.ofString "*=", 38), (Str.ofString "+", 14), (Str.ofString "+=", 36), (Str.ofString ",", 12), (Str.ofString "-", 15), (Str.ofString "-=", 37), (Str.ofString "->", 51), (Str.ofString ".", 23), (Str.ofString "...", 52), (Str.ofString "/", 17), (Str.ofString "//", 47), (Str.ofString "//=", 48), (Str.ofString "/=", 39), (Str.ofString ":", 11), (Str.ofString ":=", 53), (Str.ofString ";", 13), (Str.ofString "<", 20), (Str.ofString "<<", 33), (Str.ofString "<<=", 44), (Str.ofString "<=", 29), (Str.ofString "=", 22), (Str.ofString "==", 27), (Str.ofString ">", 21), (Str.ofString ">=", 30), (Str.ofString ">>", 34), (Str.ofString ">>=", 45), (Str.ofString "@", 49), (Str.ofString "@=", 50), (Str.ofString "[", 9), (Str.ofString "]", 10), (Str.ofString "^", 32), (Str.ofString "^=", 43), (Str.ofString "{", 25), (Str.ofString "|", 18), (Str.ofString "|=", 42), (Str.ofString "}", 26), (Str.ofString "~", 31)]
noncomputable def newI (ν : Nu) (ns : List Int) (K : SV → Nu → Prop) : Prop := K (.o ν.length) (ν ++ [.ints ns])
noncomputable def binS (o : BO) (a b : SV) (ν : Nu) (K : SV → Nu → Prop) : Prop := match o with
 | .add => (match a with
  | .i x => wI b fun y => K (.i (x + y)) ν
  | .s x => wS b fun y => x.length + y.length ≤ 16777216 ∧ K (.s (x ++ y)) ν
  | .o j => wL (.o j) ν fun ns => wL b ν fun ms => ns.length + ms.length ≤ 16777216 ∧ newI ν (ns ++ ms) K
  | _ => False)
 | .sub => wI a fun x => wI b fun y => K (.i (x - y)) ν
 | .mul => (match a with
  | .i x => wI b fun y => IntMulOk x y ∧ K (.i (x * y)) ν
  | .s x => wI b fun y => (x.length ≤ 16 ∧ -2 ^ 63 ≤ y ∧ y ≤ 1048576) ∧ K (.s (Txt.mul x y)) ν
  | .o j => wL (.o j) ν fun ns => wI b fun y => (-2 ^ 63 ≤ y ∧ y < 2 ^ 63 ∧ ns.length * y.toNat ≤ 2 ^ 24) ∧ newI ν (List.replicate y.toNat ns).flatten K
  | _ => False)
 | .mod => wI a fun x => wI b fun y => 0 < y ∧ K (.i (x % y)) ν
 | .div => wI a fun x => wI b fun y => (0 < y ∧ y < 1073741824) ∧ K (.i (x / y)) ν
 | .shl => wI a fun x => wI b fun y => (0 ≤ y ∧ y ≤ 1000000 ∧ Builtin.Int.intBits x ≤ 1000000) ∧ K (.i (x * 2 ^ y.toNat)) ν
 | .shr => wI a fun x => wI b fun y => 0 ≤ y ∧ K (.i (x.fdiv (2 ^ y.toNat))) ν
 | .band => wI a fun x => wI b fun y => K (.i (Builtin.bitAnd x y)) ν
 | .bxor => wI a fun x => wI b fun y => K (.i (Builtin.bitXor x y)) ν
 | .pow => wI a fun x => wI b fun y => (0 ≤ y ∧ y ≤ 1000000 ∧ x.natAbs < 2 ^ 64) ∧ K (.i (x ^ y.toNat)) ν
noncomputable def cmpS (o : CO) (a b : SV) (ν : Nu) (k : (p : Prop) → Decidable p → Prop) : Prop := match o with
 | .eq => (match a with
  | .i x => wI b fun y => k (x = y) inferInstance
  | .s x => wS b fun y => k (x = y) inferInstance
  | .o j => wO (.o j) ν fun _ so => (match so with
   | .strs xs => wO b ν fun _ so => (match so with | .ints ms => ms = [] ∧ (∀ x ∈ xs, PyData.strOk x = true) ∧ k (xs = []) inferInstance | _ => False)
   | .tup svs => wO b ν fun _ so => (match so with | .tup tvs => ∃ x y z w, svs = [.i x, .i y] ∧ tvs = [.i z, .i w] ∧ k (x = z ∧ y = w) inferInstance | _ => False)
   | _ => False)
  | _ => False)
 | .ne => (match a with
  | .i x => wI b fun y => k (x ≠ y) inferInstance
  | .s x => wS b fun y => k (x ≠ y) inferInstance
  | .o j => (match ν[j]? with
   | some (.nrm cnt x) => wO b ν fun _ so => (match so with | .tup svs => ∃ i y ms, svs = [.o i, .i y] ∧ ν[i]? = some (SO.tup (ms.map SV.i)) ∧ k (¬ (cnt = ms ∧ x = y)) inferInstance | _ => False)
   | _ => wL (.o j) ν fun ns => wL b ν fun ms => k (ns ≠ ms) inferInstance)
  | _ => False)
 | .lt => wI a fun x => wI b fun y => k (x < y) inferInstance
 | .le => wI a fun x => wI b fun y => k (x ≤ y) inferInstance
 | .gt => wI a fun x => wI b fun y => k (y < x) inferInstance
 | .ge => wI a fun x => wI b fun y => k (y ≤ x) inferInstance
 | .nin => (match a with
  | .s x => (match b with | .v (.ref c) => c = 22 ∧ k (tokTab.lookup x = none) inferInstance | _ => False)
  | .i x => wO b ν fun _ so => (match so with | .dict c => k (¬ kdfHas c x = true) inferInstance | _ => False)
  | .o j => wL (.o j) ν fun ns => wO b ν fun _ so => (match so with | .lrows rs => k (ns ∉ rs) inferInstance | _ => False)
  | _ => False)
 | .isnt => wB a fun x => wB b fun y => k (x ≠ y) inferInstance
noncomputable def itemS (a b : SV) (ν : Nu) (K : SV → Prop) : Prop := match a with
 | .o j => (match ν[j]? with
  | some (.ints ns) => wI b fun x => (0 ≤ x ∧ x < ns.length ∧ ns.length ≤ 16000000) ∧ K (.i (ns.getD x.toNat 0))
  | some (.ro ns) => wI b fun x => (0 ≤ x ∧ x < ns.length ∧ ns.length ≤ 16000000) ∧ K (.i (ns.getD x.toNat 0))
  | some (.ti ns) => wI b fun x => (0 ≤ x ∧ x < ns.length ∧ ns.length ≤ 16000000) ∧ K (.i (ns.getD x.toNat 0))
  | some (.dict c) => wI b fun x => kdfHas c x = true ∧ K (.i (kdfLook c x 0))
  | some (.tup svs) => wI b fun x => 0 ≤ x ∧ svs.length ≤ 100 ∧ ∃ sv, svs[x.toNat]? = some sv ∧ K sv
  | _ => False)
 | .v (.ref c) => wS b fun x => c = 22 ∧ ∃ n, tokTab.lookup x = some n ∧ K (.i n)
 | _ => False
noncomputable def b1S (o : B1) (a : SV) (ν : Nu) (K : SV → Nu → Prop) : Prop := match o with
 | .len => wO a ν fun _ so => (match so with
  | .ints ns => ns.length ≤ 16000000 ∧ K (.i ns.length) ν
  | .ro ns => ns.length ≤ 16000000 ∧ K (.i ns.length) ν
  | .ti ns => ns.length ≤ 16000 ∧ K (.i ns.length) ν
  | .lrows rs => rs.length ≤ 16000000 ∧ K (.i rs.length) ν
  | _ => False)
 | .max => wL a ν fun ns => 0 < ns.length ∧ ∀ M, M ∈ ns → (∀ a ∈ ns, a ≤ M) → K (.i M) ν
 | .sorted => wL a ν fun ns => ns.length < 64 ∧ ∀ ms : List Int, ms.Perm ns → ms.Pairwise (· ≤ ·) → newI ν ms K
 | .sum => wL a ν fun ns => K (.i ns.sum) ν
 | .hex => wI a fun n => (PySem.baseText "0x" 16 n).length ≤ sizeLine ∧ K (.s (PySem.baseText "0x" 16 n)) ν
 | .iter => wO a ν fun _ so => (match so with | .ro os => ∀ I D, K (.o ν.length) (ν ++ [.iter I D os 0]) | _ => False)
 | .next => wO a ν fun k so => (match so with | .iter I D os i => i < os.length ∧ K (.i (os.getD i 0)) (ν.set k (.iter I D os (i + 1))) | _ => False)
 | .tuple => wL a ν fun ns => ns.length ≤ 16384 ∧ K (.o ν.length) (ν ++ [.tup (ns.map SV.i)])
 | _ => False
noncomputable def b2S (o : B1) (a b : SV) (ν : Nu) (K : SV → Nu → Prop) : Prop := match o with
 | .max => wI a fun x => wI b fun y => K (.i (if y > x then y else x)) ν
 | .min => wI a fun x => wI b fun y => K (.i (if y < x then y else x)) ν
 | .divmod => wI a fun x => wI b fun y => (0 < y ∧ Builtin.Int.intBits y ≤ 4000) ∧ K (.o ν.length) (ν ++ [.tup [.i (x / y), .i (x % y)]])
 | _ => False
noncomputable def m0S (o : M0) (a : SV) (ν : Nu) (K : SV → Nu → Prop) : Prop := match o with
 | .pop => wOwn a ν fun k ns => (1 ≤ ns.length ∧ ns.length ≤ 16000000) ∧ K (.i (ns.getD (ns.length - 1) 0)) (ν.set k (.ints ns.dropLast))
 | .reverse => wOwn a ν fun k ns => ns.length ≤ 16000000 ∧ K (.v .none) (ν.set k (.ints ns.reverse))
 | .bits => wI a fun n => K (.i (Builtin.Int.intBits n)) ν
noncomputable def m1S (o : M1) (a b : SV) (ν : Nu) (K : SV → Nu → Prop) : Prop := match o with
 | .append => wO a ν fun k so => (match so with
  | .ints ns => wI b fun x => ns.length ≤ 16000000 ∧ K (.v .none) (ν.set k (.ints (ns ++ [x])))
  | .strs xs => wS b fun x => xs.length ≤ 16000000 ∧ K (.v .none) (ν.set k (.strs (xs ++ [x])))
  | .lrows rs => wO b ν fun _ so => (match so with | .ro ms => rs.length ≤ 16000000 ∧ K (.v .none) (ν.set k (.lrows (rs ++ [ms]))) | _ => False)
  | _ => False)
 | .extend => wO a ν fun k so => (match so with
  | .ints ns => wOwn b ν fun _ ms => ns.length + ms.length ≤ 16000000 ∧ K (.v .none) (ν.set k (.ints (ns ++ ms)))
  | .rows rs => wO b ν fun j so => (match so with | .rows qs => rs.length + qs.length ≤ 16000000 ∧ K (.v .none) (ν.set k (.rows (rs ++ qs))) | _ => False)
  | _ => False)
 | .count => wL a ν fun ns => wI b fun x => K (.i (ns.count x)) ν
 | .join => wS a fun x => wO b ν fun _ so => (match so with
  | .strs xs => (xs.map (·.length)).sum + xs.length * x.length ≤ 16777216 ∧ K (.s (Txt.join x xs)) ν
  | _ => False)
noncomputable def SO.isL (so : SO) : Bool := match so with | .ints _ => true | .strs _ => true | .rows _ => true | .ro _ => true | .lrows _ => true | _ => false
noncomputable def listB (a : SV) (ν : Nu) : Bool := match a with
 | .o j => (match ν[j]? with | some so => so.isL | none => false)
 | _ => false
theorem listB_inv {a : SV} {ν : Nu} (h : listB a ν = true) : ∃ j so, a = .o j ∧ ν[j]? = some so ∧ so.isL = true := by
 cases a with
 | o j =>
  change (match ν[j]? with | some so => so.isL | none => false) = true at h
  cases e : ν[j]? with
  | none => rw [e] at h; cases h
  | some so => rw [e] at h; exact ⟨j, so, rfl, e, h⟩
 | _ => cases h
noncomputable def isStr (a : SV) : Bool := match a with | .s _ => true | _ => false
noncomputable def recvB (o : M1) (a : SV) (ν : Nu) : Bool := match o with
 | .join => isStr a
 | .append => listB a ν
 | .extend => listB a ν
 | .count => listB a ν
noncomputable def truthS (a : SV) (ν : Nu) (k : (p : Prop) → Decidable p → Prop) : Prop := match a with
 | .i x => k (x ≠ 0) inferInstance
 | .b c => k (c = true) inferInstance
 | .o j => wL (.o j) ν fun ns => ns.length ≤ 16000000 ∧ k (ns ≠ []) inferInstance
 | _ => False
noncomputable def splitK (K : KV) (μ : Mu) (ν : Nu) (p : Prop) (_ : Decidable p) : Prop := (p → K (.b true) μ ν) ∧ (¬p → K (.b false) μ ν)
noncomputable def valK (K : KV) (μ : Mu) (ν : Nu) (p : Prop) (d : Decidable p) : Prop := K (.b (@decide p d)) μ ν
noncomputable def plainK (m : Bool) (K : KV) : KV := match m with
 | true => fun v μ ν => truthS v ν (splitK K μ ν)
 | false => K
noncomputable def ifB (v : SV) (t f : KP) : KP := match v with
 | .b c => (match c with | true => t | false => f)
 | _ => fun _ _ => False
noncomputable def dictA (a : Nat) : Bool := Nat.beq a 22 || Nat.beq a 88
noncomputable def gref (F : Fn) (g : Nat) : Option Addr := match F.gt[g]? with | some p => (match p.2 with | .ref q => (match dictA q with | true => none | false => some q) | _ => none) | none => none
noncomputable def roO : SO → SO
 | .ints ns => .ro ns
 | .cell sv => (match sv with | .u => .junk | sv => .fcell sv)
 | .strs _ | .rows _ | .dict _ | .raw _ _ | .tab _ _ _ _ _ | .lrows _ | .fld _ _ | .iter _ _ _ _ | .slt _ _ | .opn | .junk => .junk
 | so => so
noncomputable def compK (k : CK) (n : Nat) (el : Nat → KV → KP) (va : Nat → SV) (K : KV) : KP := fun μ ν => match k with
 | .ints => ∃ f : Nat → Int, (∀ i, i < n → el i (fun sv _ _ => sv = .i (f i)) [va i] (ν.map roO)) ∧ newI ν ((List.range n).map f) fun v ν => K v μ ν
 | .strs => ∃ f : Nat → Str, (∀ i, i < n → el i (fun sv _ _ => sv = .s (f i)) [va i] (ν.map roO)) ∧ K (.o ν.length) μ (ν ++ [.strs ((List.range n).map f)])
 | .rows => ∃ f : Nat → List Int, (∀ i, i < n → el i (fun sv _ ν' => ∃ k, sv = .o k ∧ ν'[k]? = some (.ints (f i))) [va i] (ν.map roO)) ∧ K (.o ν.length) μ (ν ++ [.rows ((List.range n).map f)])
noncomputable def tstK (b : Bool) (P : KP) : KV := fun v => match v with
 | .b c => (match c with | true => fun μ ν => b = true ∧ P μ ν | false => fun _ _ => b = false)
 | _ => fun _ _ => False
noncomputable def compKF (k : CK) (n : Nat) (tst el : KV → KP) (va : Nat → SV) (K : KV) : KP := fun μ ν => ∃ q : Nat → Bool, match k with
 | .ints => ∃ f : Nat → Int, (∀ i, i < n → tst (tstK (q i) (el (fun sv _ _ => sv = .i (f i)))) [va i] (ν.map roO)) ∧ newI ν (((List.range n).filter q).map f) fun v ν => K v μ ν
 | .strs => ∃ f : Nat → Str, (∀ i, i < n → tst (tstK (q i) (el (fun sv _ _ => sv = .s (f i)))) [va i] (ν.map roO)) ∧ K (.o ν.length) μ (ν ++ [.strs (((List.range n).filter q).map f)])
 | .rows => False
noncomputable def compKR (rs : List (List Int)) (el : KV → KP) (K : KV) : KP := fun μ ν => ∃ f : Nat → List Int, (∀ i, i < rs.length → el (fun sv _ ν' => ∃ k, sv = .o k ∧ ν'[k]? = some (.ints (f i))) [.o ν.length] (ν.map roO ++ [.ro (rs.getD i [])])) ∧ K (.o ν.length) μ (ν ++ [.rows ((List.range rs.length).map f)])
noncomputable def wsB (a : SV) (ν : Nu) : Bool := match a with
 | .o j => (match ν[j]? with | some (.ws _ _ _ _) => true | _ => false)
 | _ => false
noncomputable def dictB (a : SV) : Bool := match a with | .v (.ref c) => Nat.beq c 88 | _ => false
noncomputable def dgetS (a b : SV) (K : SV → Prop) : Prop := wI a fun k => wS b fun x => ∃ i : Nat, (i < 32 ∧ k = 2 ^ i ∧ x = PySem.baseText "0x" 16 k) ∧ K (.s (nameP i))
noncomputable def knownK (sv : SV) (K : KV) : KP := match sv with | .u => fun _ _ => False | .i n => K (.i n) | .s x => K (.s x) | .b c => K (.b c) | .v w => K (.v w) | .o k => K (.o k)
theorem knownK_inv {sv : SV} {K : KV} {μ : Mu} {ν : Nu} (h : knownK sv K μ ν) : sv ≠ .u ∧ K sv μ ν := by cases sv <;> first | exact h.elim | exact ⟨(fun e => by cases e), h⟩
noncomputable def fnS (k : Nat → Addr → KP) : KV := fun g μ ν => wO g ν fun j so => match so with | .fn q _ => k j q μ ν | _ => False
noncomputable def celS (d : Df) (i : Nat) (K : KV) : KP := fun μ ν => match d.F.cs[i]? with
 | some p => (match ν[p.1]? with | some (.cell sv) => knownK sv K μ ν | some (.fcell sv) => knownK sv K μ ν | _ => False)
 | none => False
noncomputable def stillS (ν : Nu) (k : Nat) (q : Addr) : Prop := ∃ os, ν[k]? = some (SO.fn q os)
noncomputable def svOf (v : Value) : SV := match v with | .int n _ => .i n | v => .v v
noncomputable def ev (d : Df) : T → Bool → KV → KP
 | .int n _ _, m, K => plainK m K (.i n)
 | .str x _ _, m, K => plainK m K (.s x)
 | .bool b _ _, m, K => plainK m K (.b b)
 | .loc i _ _, m, K => fun μ ν => match μ[i]? with | some sv => knownK sv (plainK m K) μ ν | none => False
 | .cel i _ _, m, K => fun μ ν => match d.F.cs[i]? with
  | some p => (match ν[p.1]? with | some (.cell sv) => knownK sv (plainK m K) μ ν | some (.fcell sv) => knownK sv (plainK m K) μ ν | _ => False)
  | none => False
 | .glo i _ _, m, K => match d.F.gt[i]? with | some p => plainK m K (svOf p.2) | none => fun _ _ => False
 | .bin o l r _ _, m, K => ev d l false fun a => ev d r false fun b μ ν => binS o a b ν fun v ν => plainK m K v μ ν
 | .neg a _ _, m, K => ev d a false fun a μ ν => wI a fun x => plainK m K (.i (-x)) μ ν
 | .inv a _ _, m, K => ev d a false fun a μ ν => wI a fun x => plainK m K (.i (-x - 1)) μ ν
 | .cmp o l r _ _, m, K => ev d l false fun a => ev d r false fun b μ ν => cmpS o a b ν (match m with | true => splitK K μ ν | false => valK K μ ν)
 | .not a _ _, m, K => match m with | true => ev d a true fun v => ifB v (K (.b false)) (K (.b true)) | false => fun _ _ => False
 | .or a b _ _, m, K => match m with | true => ev d a true fun v => ifB v (K (.b true)) (ev d b true K) | false => fun _ _ => False
 | .and a b _ _, m, K => match m with | true => ev d a true fun v => ifB v (ev d b true K) (K (.b false)) | false => fun _ _ => False
 | .ife t a b _ _, m, K => match m with | false => ev d t true fun v => ifB v (ev d a false K) (ev d b false K) | true => fun _ _ => False
 | .sub o i _ _, m, K => ev d o false fun a => ev d i false fun b μ ν => itemS a b ν fun v => plainK m K v μ ν
 | .last o _ _ _ _ _, m, K => ev d o false fun a μ ν => wOwn a ν fun _ ns => (1 ≤ ns.length ∧ ns.length ≤ 16000000) ∧ plainK m K (.i (ns.getD (ns.length - 1) 0)) μ ν
 | .sto o b _ _ _ _, m, K => ev d o false fun a => ev d b false fun b μ ν => wI b fun j => match a with
  | .s x => x.length ≤ 16000000 ∧ plainK m K (.s (Txt.slice x none (some j))) μ ν
  | .o i => wL (.o i) ν fun ns => (0 ≤ j ∧ ns.length ≤ 16000000) ∧ newI ν (ns.take j.toNat) fun v ν => plainK m K v μ ν
  | _ => False
 | .sfr o b _ _ _ _, m, K => ev d o false fun a => ev d b false fun b μ ν => wI b fun j => wS a fun x => x.length ≤ 16000000 ∧ plainK m K (.s (Txt.slice x (some j) none)) μ ν
 | .srev o _ _ _ _ _, m, K => ev d o false fun a μ ν => wL a ν fun ns => ns.length ≤ 16000000 ∧ newI ν ns.reverse fun v ν => plainK m K v μ ν
 | .nil fz _ _, m, K => fun μ ν => match fz with | false => newI ν [] fun v ν => plainK m K v μ ν | true => plainK m K (.o ν.length) μ (ν ++ [.rrows []])
 | .lst a _ _, m, K => ev d a false fun a μ ν => match a with
  | .i n => newI ν [n] fun v ν => plainK m K v μ ν
  | .o j => wO (.o j) ν fun _ so => (match so with | .rrows rs => rs = [] ∧ plainK m K (.o ν.length) μ (ν ++ [.rows [[]]]) | _ => False)
  | _ => False
 | .lstI ns _ _, m, K => fun μ ν => ns.length ≤ 100 ∧ newI ν (ns.map (·.1)) fun v ν => plainK m K v μ ν
 | .tup a b _ _, m, K => ev d a false fun a => ev d b false fun b μ ν => plainK m K (.o ν.length) μ (ν ++ [.tup [a, b]])
 | .dict _ _, m, K => fun μ ν => plainK m K (.o ν.length) μ (ν ++ [.dict []])
 | .call1 g a _ _ _, m, K => match gref d.F g with | some q => ev d a false fun a μ ν => d.C q [a] ν fun v ν => plainK m K v μ ν | none => fun _ _ => False
 | .call2 g a b _ _ _, m, K => match gref d.F g with | some q => ev d a false fun a => ev d b false fun b μ ν => d.C q [a, b] ν fun v ν => plainK m K v μ ν | none => fun _ _ => False
 | .b1 i a _ _ _, m, K => match d.F.bi[i]? with | some o => ev d a false fun a μ ν => b1S o a ν fun v ν => plainK m K v μ ν | none => fun _ _ => False
 | .b2 i a b _ _ _, m, K => match d.F.bi[i]? with | some o => ev d a false fun a => ev d b false fun b μ ν => b2S o a b ν fun v ν => plainK m K v μ ν | none => fun _ _ => False
 | .m0 o a _ _ _, m, K => ev d a false fun a μ ν => m0S o a ν fun v ν => plainK m K v μ ν
 | .m1 o a b _ _ _, m, K => ev d a false fun a μ ν => match recvB o a ν with | true => ev d b false (fun b μ ν => m1S o a b ν fun v ν => plainK m K v μ ν) μ ν | false => False
 | .comp k j elt it _ _, m, K => match d.D[j]? with | none => fun _ _ => False | some cd => ev d it false fun a μ ν => wL a ν fun ns => ns.length ≤ 16000000 ∧ compK k ns.length (fun _ K => ev { F := cd.F } elt false K) (fun i => .i (ns.getD i 0)) (plainK m K) μ ν
 | .compR k j elt n i _ _ _ _ _, m, K => match d.D[j]? with
  | none => fun _ _ => False
  | some cd => match d.F.bi[i]? with
   | some .range => ev d n false fun a μ ν => wI a fun x => (-2 ^ 62 ≤ x ∧ x ≤ 16000000) ∧ compK k x.toNat (fun _ K => ev { F := cd.F } elt false K) (fun i => .i (i : Int)) (plainK m K) μ ν
   | _ => fun _ _ => False
 | .tupS xs _ _, m, K => fun μ ν => xs.length ≤ 100 ∧ plainK m K (.o ν.length) μ (ν ++ [.tup (xs.map fun p => .s p.1)])
 | .att o a _ _, m, K => ev d a false fun a μ ν => wO a ν fun _ so => match so with
  | .ws n b nt cnt => (match o with
   | .n => plainK m K (.i n) μ ν
   | .nt => plainK m K (.i nt) μ ν
   | .norm => plainK m K (.o ν.length) μ (ν ++ [.nrm cnt b])
   | .simp => plainK m K (.b (decide ((cnt.length : Int) ≤ 1))) μ ν)
  | _ => False
 | .meth0 o a _ _ _, m, K => ev d a false fun a μ ν => match wsB a ν with | true => d.C o.ad [a] ν fun v ν => plainK m K v μ ν | false => False
 | .meth1 o a b _ _ _, m, K => ev d a false fun a μ ν => match wsB a ν with | true => ev d b false (fun b μ ν => d.C o.ad [a, b] ν fun v ν => plainK m K v μ ν) μ ν | false => False
 | .call3 g a b x _ _ _, m, K => match gref d.F g with | some q => ev d a false fun a => ev d b false fun b => ev d x false fun x μ ν => d.C q [a, b, x] ν fun v ν => plainK m K v μ ν | none => fun _ _ => False
 | .compF k j elt tst it _ _, m, K => match d.D[j]? with | none => fun _ _ => False | some cd => ev d it false fun a μ ν => wL a ν fun ns => ns.length ≤ 16000000 ∧ compKF k ns.length (fun K => ev { F := cd.F } tst true K) (fun K => ev { F := cd.F } elt false K) (fun i => .i (ns.getD i 0)) (plainK m K) μ ν
 | .dget a u v _ _ _, m, K => ev d a false fun sa μ ν => match dictB sa with | true => ev d u false (fun su => ev d v false fun sw μ ν => dgetS su sw fun r => plainK m K r μ ν) μ ν | false => False
 | .nilL k _ _, m, K => fun μ ν => plainK m K (.o ν.length) μ (ν ++ [k.so])
 | .compO j elt it _ _, m, K => match d.D[j]? with | none => fun _ _ => False | some cd => ev d it false fun a μ ν => wO a ν fun _ so => match so with
  | .rrows rs => rs.length ≤ 16000000 ∧ compKR rs (fun K => ev { F := cd.F } elt false K) (plainK m K) μ ν
  | _ => False
 | .callE2 i a b _ _ _, m, K => celS d i (fnS fun k q => ev d a false fun a => ev d b false fun b μ ν => stillS ν k q ∧ d.C q [a, b] ν fun v ν => plainK m K v μ ν)
 | .callE3 i a b x _ _ _, m, K => celS d i (fnS fun k q => ev d a false fun a => ev d b false fun b => ev d x false fun x μ ν => stillS ν k q ∧ d.C q [a, b, x] ν fun v ν => plainK m K v μ ν)
noncomputable def compRFS (d : Df) (k : CK) (j : Nat) (elt tst n : T) (i : Nat) (K : KV) : KP := match d.D[j]? with
 | none => fun _ _ => False
 | some cd => match d.F.bi[i]? with
  | some .range => ev d n false fun a μ ν => wI a fun x => (-2 ^ 62 ≤ x ∧ x ≤ 16000000) ∧ compKF k x.toNat (fun K => ev { F := cd.F } tst true K) (fun K => ev { F := cd.F } elt false K) (fun i => .i (i : Int)) K μ ν
  | _ => fun _ _ => False
noncomputable def rawRF (l : Nat) (d : Df) (j : Nat) (elt tst n : T) (i ef c1 e1 c e : Nat) : PySem.Expr := .ListComp (elt.raw l { F := (cdOf d.D j).F }) [⟨.Name (cdOf d.D j).x ⟨l, (cdOf d.D j).c, l, (cdOf d.D j).e⟩, .Call (.Name (nmB d.F i) ⟨l, c1, l, ef⟩) [n.raw l d] [] ⟨l, c1, l, e1⟩, [tst.raw l { F := (cdOf d.D j).F }], 0⟩] (cdOf d.D j).sc ⟨l, c, l, e⟩
end Mine
end
section
namespace Mine
open PySem PySem.W PySem.Calls PySem.Spec PyProof.Rows
noncomputable abbrev EF : Value → Shared → Prop := fun _ _ => False
noncomputable abbrev H39 (w : World) : Frag := Mine.pre.heap_1_1 w.params
noncomputable def Rdy (w : World) (h : Heap) : Prop := (H39 w).In h ∧ ∃ p loose mean mg mb, Top p loose mean mg mb h
theorem Rdy.keeps {w : World} {h h' : Heap} (r : Rdy w h) (k : h.StaysIn h') : Rdy w h' := el_AEEEEE r fun p lo me mg mb X T => ⟨X.keeps k, p, lo, me, mg, mb, T.keeps k⟩
noncomputable abbrev dbg : Str := Str.ofString "__debug__"
noncomputable def keptV (w : World) (v : Value) : Bool := match v with
 | .ref a => dictA a || keepIn (H39 w) (.ref a)
 | _ => true
structure NmOk (w : World) (env : Env) (F : Fn) : Prop where
 kind : env.scope.kind = .function
 g : env.globals = mainGlobals
 b : env.builtins = builtinsNs
 loc : ∀ x ∈ F.ns, env.kindOf x = some .local ∧ (x == dbg) = false
 cel : ∀ p ∈ F.cs, (env.kindOf p.2 = some .cell ∨ (env.kindOf p.2 = some .free ∧ (p.2 == Str.ofString "__classdict__") = false)) ∧ (p.2 == dbg) = false
 glo : ∀ p ∈ F.gt, env.kindOf p.1 = some .globalImplicit ∧ (p.1 == dbg) = false ∧ nsIn (H39 w) mainGlobals p.1 = some (some p.2) ∧ keptV w p.2 = true
 bi : ∀ o ∈ F.bi, env.kindOf o.nm = some .globalImplicit
noncomputable def At (s s' : Shared) : Prop := ∃ h tk, s' = { s with heap := h, toks := tk }
theorem At.refl {s : Shared} : At s s := ⟨s.heap, s.toks, rfl⟩
theorem At.trans {a b c : Shared} (x : At a b) (y : At b c) : At a c := el_EE x fun _ _ e => el_EE y fun h t e' => ⟨h, t, by rw [e', e]⟩
noncomputable abbrev wpS (S : Sit) {α : Type} (t : Sem α) (Q : α → Shared → Prop) (s : Shared) : Prop := wpAny (model P0 S.w) S.A t Q EF s
noncomputable def PX (S : Sit) (s : Shared) (ad : List Addr) (K : KV) (v : Value) (s' : Shared) : Prop := ∃ ad' sv μ' ν', At s s' ∧ Le ad ad' ∧ Hd S s'.heap ad' μ' ν' ∧ Rp ad' sv v ∧ K sv μ' ν'
noncomputable def CsOk (S : Sit) : Prop := ∀ q vs ν μ (K : KV) args s ad, S.d.C q vs ν (fun v ν => K v μ ν) → Hd S s.heap ad μ ν → RL ad vs args → wpS S (call (.ref q) args) (PX S s ad K) s
noncomputable def CompOk (S : Sit) (cd : CD) : Prop := ∃ cl, closureFor cd.sc S.env = pure cl ∧ (∀ y ∈ cd.sc.names, y.2 ≠ .cell) ∧ cd.sc.kind = .function ∧ (∀ y ∈ cd.sc.names, y.2 = .local → cd.sc.names.lookup y.1 = some .local) ∧ cd.sc.names.lookup cd.x = some .local ∧ cd.F.ns = [cd.x] ∧
 (∀ C, NmOk S.w (compEnvC cd.sc cl C S.env) cd.F) ∧ ∀ p ∈ cd.F.cs, p ∈ S.d.F.cs ∧ cl.lookup p.2 = S.env.cells.lookup p.2
structure Ok (S : Sit) : Prop where
 nm : NmOk S.w S.env S.d.F
 nod : S.d.F.ns.Nodup
 hnd : S.A.handled = none
 units : S.A.units + 66 < cLine
 rdy : Rdy S.w S.h₀
 cs : ∀ fm pin own, CsOk { S with fm := fm, pin := pin, own := own }
 comps : ∀ cd ∈ S.d.D, CompOk S cd
theorem Ok.u64 {S : Sit} (O : Ok S) : S.A.units + 64 < cLine := Nat.lt_of_le_of_lt (Nat.add_le_add_left (by decide) _) O.units
noncomputable abbrev Ev (S : Sit) (e : PySem.Expr) (f : KV → KP) : Prop := ∀ (K : KV) (μ : Mu) (ν : Nu) (s : Shared) (ad : List Addr), f K μ ν → Hd S s.heap ad μ ν → wpS S (eval e S.env) (PX S s ad K) s
noncomputable abbrev Ts (S : Sit) (e : PySem.Expr) (f : KV → KP) : Prop := ∀ (K : KV) (μ : Mu) (ν : Nu) (s : Shared) (ad : List Addr), f K μ ν → Hd S s.heap ad μ ν → wpS S (isTrue e S.env (eval e S.env)) (fun c => PX S s ad K (.bool c)) s
section
variable {S : Sit} {s s' : Shared} {ad ad' : List Addr} {μ : Mu} {ν : Nu} {K : KV} {a b sv : SV} {v va vb : Value} {h' : Heap} {tk' : Nat}
theorem PX.here (H : Hd S h' ad μ ν) (r : Rp ad sv v) (k : K sv μ ν) : PX S s ad K v { s with heap := h', toks := tk' } := ⟨ad, sv, μ, ν, ⟨h', tk', rfl⟩, Le.refl, H, r, k⟩
theorem PX.up {s'' : Shared} (a : At s s') (l : Le ad ad') (z : PX S s' ad' K v s'') : PX S s ad K v s'' := el_EEEEAA z fun ad2 sv μ' ν' a2 l2 r => ⟨ad2, sv, μ', ν', a.trans a2, l.trans l2, r⟩
theorem wpU {t : Sem Value} (a : At s s') (l : Le ad ad') (h : wpS S t (PX S s' ad' K) s') : wpS S t (PX S s ad K) s' := wpAny_mono h (fun _ _ x => x.up a l) fun _ _ x => x
theorem bnd {t : Sem Value} {Q : Value → Shared → Prop} (h : wpS S t (PX S s ad K) s) (f : ∀ v s' ad' sv μ ν, At s s' → Le ad ad' → Hd S s'.heap ad' μ ν → Rp ad' sv v → K sv μ ν → Q v s') : wpS S t Q s :=
 wpAny_mono h (fun _ _ h => el_EEEEAAAA h fun ad' sv μ' ν' a l H r k => f _ _ ad' sv μ' ν' a l H r k) fun _ _ x => x
theorem bndT {t : Sem Bool} {Q : Bool → Shared → Prop} (h : wpS S t (fun c => PX S s ad K (.bool c)) s) (f : ∀ c s' ad' sv μ ν, At s s' → Le ad ad' → Hd S s'.heap ad' μ ν → Rp ad' sv (.bool c) → K sv μ ν → Q c s') : wpS S t Q s :=
 wpAny_mono h (fun _ _ h => el_EEEEAAAA h fun ad' sv μ' ν' a l H r k => f _ _ ad' sv μ' ν' a l H r k) fun _ _ x => x
theorem ifB_inv {c : Bool} {t f : KP} (r : Rp ad sv (.bool c)) (h : ifB sv t f μ ν) : if c = true then t μ ν else f μ ν := by
 cases sv with
 | b d =>
  have e : Value.bool c = Value.bool d := r
  cases e
  cases c <;> exact h
 | _ => exact h.elim
theorem rpI {n : Int} {t : Tok} : Rp ad (.i n) (.int n t) := ⟨_, rfl⟩
theorem rpS {x : Str} {t : Tok} : Rp ad (.s x) (.str x t) := ⟨_, rfl⟩
theorem rpO {k : Nat} {a : Addr} (h : ad[k]? = some a) : Rp ad (.o k) (.ref a) := ⟨_, h, rfl⟩
theorem Hd.own {m' : Str → Option Value} {nx fz : List (Addr × Obj)} {x : Addr} {o : Obj} {so : SO} (R : Rel S ad μ ν m' nx fz) (l : Loc S m') (ho : so.own = true) (F' : Fr S.h₀ S.L h' S.fm) (N' : News S.h₀ S.L h' ((x, o) :: ledg S nx fz)) (lt : ∀ p ∈ ledg S nx fz, p.1 ≠ x) (hI : Is S.w S.h₀ fz (ad ++ [x]) so x o) :
  Hd S h' (ad ++ [x]) μ (ν ++ [so]) :=
 ⟨m', (x, o) :: nx, fz, F', N', l, R.add (fun _ h => h) (fun _ => hI) (by rw [if_pos ho]; exact ⟨rfl, fun p hp => lt p (List.mem_append_left _ hp), fun q hq => Ne.symm (lt q (List.mem_append_right _ hq))⟩) R.off R.offz⟩
theorem Hd.fro {m' : Str → Option Value} {nx fz : List (Addr × Obj)} {x : Addr} {o : Obj} {so : SO} (R : Rel S ad μ ν m' nx fz) (l : Loc S m') (ho : so.own = false) (F' : Fr S.h₀ S.L h' S.fm) (N' : News S.h₀ S.L h' ((x, o) :: ledg S nx fz)) (lt : ∀ p ∈ ledg S nx fz, p.1 ≠ x) (hI : Is S.w S.h₀ ((x, o) :: fz) (ad ++ [x]) so x o) :
  Hd S h' (ad ++ [x]) μ (ν ++ [so]) :=
 ⟨m', nx, (x, o) :: fz, F', fun p hp => N' p (by simp only [ledg, List.cons_append, List.mem_append, List.mem_cons] at hp ⊢; rcases hp with h | h | h | h <;> simp [h]), l,
  R.add (fun _ h => List.mem_cons_of_mem _ h) (fun _ => hI) (by rw [if_neg (by rw [ho]; exact Bool.false_ne_true)]; exact ⟨rfl, .inr ⟨fun _ => List.mem_cons_self, .inr List.mem_cons_self⟩⟩) (fun p hp q hq => (List.mem_cons.mp hq).elim (fun e => by rw [e]; exact lt p (List.mem_append_left _ hp)) fun hq => R.off p hp q hq)
   fun p hp q hq => (List.mem_cons.mp hp).elim (fun e => by rw [e]; exact Ne.symm (lt q (List.mem_append_right _ (List.mem_append_right _ hq)))) fun hp => R.offz p hp q hq⟩
theorem Hd.see {m' : Str → Option Value} {nx fz : List (Addr × Obj)} {x : Addr} {o : Obj} {so : SO} (R : Rel S ad μ ν m' nx fz) (l : Loc S m') (ho : so.own = false) (hf : so.fsh = false) (F' : Fr S.h₀ S.L h' S.fm) (N' : News S.h₀ S.L h' (ledg S nx fz)) (z : Zf S.h₀ fz x o) (hI : Is S.w S.h₀ fz (ad ++ [x]) so x o) :
  Hd S h' (ad ++ [x]) μ (ν ++ [so]) :=
 ⟨m', nx, fz, F', N', l, R.add (fun _ h => h) (fun _ => hI) (by rw [if_neg (by rw [ho]; exact Bool.false_ne_true)]; exact ⟨rfl, .inr ⟨(fun q => by rw [hf] at q; cases q), z⟩⟩) R.off R.offz⟩
theorem Hd.len (H : Hd S h' ad μ ν) : ad.length = ν.length := by obtain ⟨_, _, _, _, _, _, R⟩ := H; exact R.len
theorem PX.new {so : SO} {x : Addr} (hl : ad.length = ν.length) (H : Hd S h' (ad ++ [x]) μ (ν ++ [so])) (k : K (.o ν.length) μ (ν ++ [so])) : PX S s ad K (.ref x) { s with heap := h', toks := tk' } :=
 ⟨ad ++ [x], _, μ, _, ⟨h', tk', rfl⟩, ⟨_, rfl⟩, H, rpO (by rw [← hl]; exact List.getElem?_concat_length), k⟩
theorem isI {w : World} {h₀ : Heap} {fz : List (Addr × Obj)} {x : Addr} {ns : List Int} {vs : List Value} {n : Nat} (h : IntsAre vs ns) : Is w h₀ fz ad (.ints ns) x (listOf vs.toArray n) := ⟨_, _, rfl, h⟩
theorem ltne {l : List (Addr × Obj)} {x : Addr} (h : ∀ p ∈ l, p.1 < x) : ∀ p ∈ l, p.1 ≠ x := fun p hp => Nat.ne_of_lt (h p hp)
theorem Hd.get {h : Heap} (H : Hd S h ad μ ν) {k : Nat} {so : SO} (hk : ν[k]? = some so) (hj : so.real = true) (hv : Rp ad (.o k) v) : ∃ a o fz, v = .ref a ∧ h.get? a = some o ∧ Is S.w S.h₀ fz ad so a o ∧ ∀ b ob, Zf S.h₀ fz b ob → h.get? b = some ob := by
 obtain ⟨m', nx, fz, F, N, l, R⟩ := H
 (refine el_EAr hv fun a z09 => ?_; try clear hv; subst z09; intro ha)
 refine el_EEAA (R.pl k so hk (real_ne hj)) fun a' o e1 e2 e3 => ?_
 obtain rfl := Option.some.inj (ha.symm.trans e1)
 refine ⟨a, o, fz, rfl, ?_, e2, fun b ob z => z.get F N⟩
 by_cases q : so.own = true
 ·rw [if_pos q] at e3; exact (N _ (List.mem_append_left _ e3)).1
 ·rw [if_neg q] at e3; exact e3.2.get F N
theorem RL.two {x y : Int} {vs : List Value} (r : RL ad [.i x, .i y] vs) : ∃ t u, vs = [.int x t, .int y u] := by
 (refine el_EERAbEreEERAbErer r fun v s t v2 s2 u z09 z19 z29 z39 z49 => ?_; try clear r; subst z09; subst z19; subst z29; subst z39; subst z49)
 exact ⟨t, u, rfl⟩
theorem Hd.isL {k : Nat} {ns : List Int} (H : Hd S s.heap ad μ ν) (hk : ν[k]? = some (.ints ns) ∨ ν[k]? = some (.ro ns)) (hr : Rp ad (.o k) va) : ∃ D vs, va = .ref D ∧ s.heap.IsList D vs.toArray ∧ IntsAre vs ns := by
 have : ∃ so : SO, ν[k]? = some so ∧ so.real = true ∧ ∀ fz a o, Is S.w S.h₀ fz ad so a o → ∃ vs n, o = listOf vs.toArray n ∧ IntsAre vs ns := hk.elim (fun h => ⟨_, h, rfl, fun _ _ _ i => i⟩) fun h => ⟨_, h, rfl, fun _ _ _ i => i⟩
 (refine el_EAA this fun so => ?_; try clear this; intro h1 h2 h3)
 (refine el_EEERAA (H.get h1 h2 hr) fun a o fz z09 => ?_; subst z09; intro g i _)
 (refine el_EER (h3 _ _ _ i) fun vs n z09 => ?_; subst z09; intro hi)
 exact ⟨_, vs, rfl, ⟨_, g, rfl, _, rfl⟩, hi⟩
theorem Loc.ns {m' : Str → Option Value} {nx fz : List (Addr × Obj)} {h : Heap} (l : Loc S m') (F : Fr S.h₀ S.L h S.fm) (N : News S.h₀ S.L h (ledg S nx fz)) : h.Ns S.env.locals m' := by
 rcases l with ⟨e, rfl⟩ | ⟨oC, hm, hC⟩
 ·rw [e]; exact F.ns
 ·exact hC.ns (N _ (List.mem_append_right _ (List.mem_append_right _ hm))).1
theorem load_loc (O : NmOk S.w S.env S.d.F) {i : Nat} {pos : Pos} (hi : μ[i]? = some sv) (k : K sv μ ν) (hu : sv ≠ .u) (H : Hd S s.heap ad μ ν) : wpS S (loadName S.env (nmL S.d.F i)) (PX S s ad K) s := by
 obtain ⟨m', nx, fz, F, N, l, R⟩ := H
 have hx : S.d.F.ns[i]? = some (nmL S.d.F i) := by
  have : i < S.d.F.ns.length := by rw [← R.mlen]; exact lt_of_get hi
  unfold nmL
  rw [List.getElem?_eq_getElem this]
 refine el_EA ((R.names i sv _ hi hx).resolve_left hu) fun v hv r => ?_
 exact wpAny_loadName_local O.kind (O.loc _ (List.mem_of_getElem? hx)).1 (l.ns F N) hv (PX.here (s := s) ⟨m', nx, fz, F, N, l, R⟩ r k)
theorem load_cel (O : NmOk S.w S.env S.d.F) {i : Nat} {p : Nat × Str} (hi : S.d.F.cs[i]? = some p) (hc : ν[p.1]? = some (.cell sv) ∨ ν[p.1]? = some (.fcell sv)) (k : K sv μ ν) (hu : sv ≠ .u) (H : Hd S s.heap ad μ ν) : wpS S (loadName S.env p.2) (PX S s ad K) s := by
 obtain ⟨m', nx, fz, F, N, l, R⟩ := H
 refine el_EA (R.cells p (List.mem_of_getElem? hi)) fun c h1 h2 => ?_
 have : ∃ o v, s.heap.get? c = some o ∧ o.data = .cell (some v) ∧ Rp ad sv v := by
  rcases hc with hc | hc
  ·refine el_EEAA (R.own hc rfl) fun D o h3 h4 h5 => ?_
   obtain rfl := Option.some.inj (h2.symm.trans h3)
   have : ∃ v, o.data = .cell (some v) ∧ Rp ad sv v := by
    cases sv with
    | u => exact absurd rfl hu
    | _ => exact h4
   (refine el_EA this fun v => ?_; try clear this; intro hd r)
   exact ⟨o, v, (N _ (List.mem_append_left _ h5)).1, hd, r⟩
  ·refine el_EEAAbEAe (R.fro hc (fun e => by cases e) rfl) fun D o v h3 hd r h5 => ?_
   obtain rfl := Option.some.inj (h2.symm.trans h3)
   exact ⟨o, v, h5.get F N, hd, r⟩
 (refine el_EEAA this fun o v => ?_; try clear this; intro ho hd r)
 have key := PX.here (s := s) (tk' := s.toks) ⟨m', nx, fz, F, N, l, R⟩ r k
 exact (O.cel _ (List.mem_of_getElem? hi)).1.elim (fun q => wpAny_loadName_cell O.kind q h1 ⟨o, ho, hd⟩ key) fun q => wpAny_loadName_free O.kind q.1 h1 ⟨o, ho, hd⟩ key q.2
theorem ev_glo (O : Ok S) {p : Str × Value} (hp : p ∈ S.d.F.gt) {pos : Pos} {Q : Value → Shared → Prop} (h : Q p.2 s) (H : Hd S s.heap ad μ ν) : wpS S (eval (.Name p.1 pos) S.env) Q s := by
 obtain ⟨m', nx, fz, F, N, l, R⟩ := H
 refine el_AEEEEE (O.rdy) fun pp lo me mg mb X T => ?_
 refine el_AAA (O.nm.glo p hp) fun g1 g2 g3 _ => ?_
 exact Name_function_global O.nm.kind g1 (loadGlobal_global (env := S.env) (O.nm.g ▸ (T.keeps F.keep).g) (mg_of X T.g g3) h) g2
theorem B1.ok (w : World) : ∀ o : B1, (o.nm == dbg) = false ∧ nsIn (H39 w) mainGlobals o.nm = some none ∧ bootBuiltins o.nm = some o.val ∧ o.nm ≠ Str.ofString "__name__" := by
 intro o; cases o <;> exact ⟨by decide, rfl, rfl, by decide⟩
theorem ev_bi (O : Ok S) {o : B1} (hp : o ∈ S.d.F.bi) {pos : Pos} {Q : Value → Shared → Prop} (h : Q o.val s) (H : Hd S s.heap ad μ ν) : wpS S (eval (.Name o.nm pos) S.env) Q s := by
 obtain ⟨m', nx, fz, F, N, l, R⟩ := H
 refine el_AEEEEE (O.rdy) fun pp lo me mg mb X T => ?_
 refine el_AAA (B1.ok S.w o) fun g1 g2 g3 g4 => ?_
 exact Name_function_global O.nm.kind (O.nm.bi o hp) (loadGlobal_builtin (env := S.env) (O.nm.g ▸ (T.keeps F.keep).g) (mg_none_of X T.g g2) (O.nm.b ▸ (T.keeps F.keep).b) ((T.builtins _ g4).trans g3) h) g1
theorem Hd.upd {k : Nat} {so : SO} (H : Hd S s.heap ad μ ν) (hk : ν[k]? = some so) (ho : so.own = true) (hr : Rp ad (.o k) va) :
  ∃ (D : Addr) (m' : Str → Option Value) (nx fz : List (Addr × Obj)) (o : Obj) (f : Obj → List (Addr × Obj)), va = .ref D ∧ Fr S.h₀ S.L s.heap S.fm ∧ News S.h₀ S.L s.heap (ledg S nx fz) ∧ Rel S ad μ ν m' nx fz ∧ (D, o) ∈ ledg S nx fz ∧ Is S.w S.h₀ fz ad so D o ∧ UpdF D o (ledg S nx fz) (fun o' => ledg S (f o') fz) ∧
   ∀ (o' : Obj) (so' : SO) (h' : Heap), so'.own = true → Is S.w S.h₀ fz ad so' D o' → Fr S.h₀ S.L h' S.fm → News S.h₀ S.L h' (ledg S (f o') fz) → Hd S h' ad μ (ν.set k so') := by
 obtain ⟨m', nx, fz, F, N, l, R⟩ := H
 (refine el_EAr hr fun x z09 => ?_; try clear hr; subst z09; intro e)
 refine el_EEEAAAA (R.upd hk ho) fun D o f h1 h2 h3 h4 h5 => ?_
 obtain rfl := Option.some.inj (e.symm.trans h1)
 exact ⟨_, m', nx, fz, o, f, rfl, F, N, R, List.mem_append_left _ h2, h3, h4, fun o' so' h' ho' hI' F' N' => ⟨m', f o', fz, F', N', l, h5 o' so' ho' hI'⟩⟩
theorem ints_snoc {vs : List Value} {ns : List Int} (hi : IntsAre vs ns) (h : 1 ≤ ns.length) : ∃ vs0 t, vs = vs0 ++ [.int (ns.getD (ns.length - 1) 0) t] ∧ IntsAre vs0 ns.dropLast := by
 (refine el_EEEERR (IntsAre.snoc_inv hi (fun e => by subst e; cases h)) fun vs0 gs0 g t z09 z19 => ?_; subst z09; subst z19; intro hi0)
 refine ⟨vs0, t, ?_, by rw [List.dropLast_concat]; exact hi0⟩
 simp [List.getD_eq_getElem?_getD]
theorem alloc {t : Sem Value} {ns : List Int} (H : Hd S s.heap ad μ ν) (k : newI ν ns fun v ν => K v μ ν)
  (h : ∀ nx, Fr S.h₀ S.L s.heap S.fm → News S.h₀ S.L s.heap nx → (∀ D vs n h' tk, Fr S.h₀ S.L h' S.fm → News S.h₀ S.L h' ((D, listOf vs.toArray n) :: nx) → (∀ p ∈ nx, p.1 ≠ D) → IntsAre vs ns → PX S s ad K (.ref D) { s with heap := h', toks := tk }) → wpS S t (PX S s ad K) s) : wpS S t (PX S s ad K) s := by
 obtain ⟨m', nx, fz, F, N, l, R⟩ := H
 exact h _ F N fun D vs n h' tk F' N' hne hi => PX.new R.len (Hd.own R l rfl F' N' hne (isI hi)) k
theorem ii {k : Int → Int → Prop} (h : wI a fun x => wI b fun y => k x y) (ha : Rp ad a va) (hb : Rp ad b vb) : ∃ x y t u, va = .int x t ∧ vb = .int y u ∧ k x y := by
 (refine el_ER (wI_inv h) fun x z09 => ?_; subst z09; intro h1)
 (refine el_ER (wI_inv h1) fun y z09 => ?_; subst z09; intro h2)
 obtain ⟨t, rfl⟩ := ha; obtain ⟨u, rfl⟩ := hb
 exact ⟨x, y, t, u, rfl, rfl, h2⟩
theorem bin_sound {o : BO} (h : binS o a b ν fun v ν => K v μ ν) (H : Hd S s.heap ad μ ν) (ha : Rp ad a va) (hb : Rp ad b vb) : wpS S (binaryOp o.raw va vb) (PX S s ad K) s := by
 cases o with
 | add =>
  cases a with
  | i x =>
   (refine el_ER (wI_inv (show wI b _ from h)) fun y z09 => ?_; subst z09; intro h)
   obtain ⟨t, rfl⟩ := ha; obtain ⟨u, rfl⟩ := hb
   exact add_int (PX.here (s := s) H rpI h)
  | s x =>
   (refine el_ER (wS_inv (show wS b _ from h)) fun y z09 => ?_; subst z09; intro h)
   obtain ⟨t, rfl⟩ := ha; obtain ⟨u, rfl⟩ := hb
   exact add_str (fun t' tk => PX.here (s := s) H rpS h.2) (by rw [sizeLine_eq]; exact h.1)
  | o j =>
   refine el_EEAA (wL_inv (show wL (.o j) ν _ from h)) fun j1 ns e1 h1 h => ?_
   cases e1
   (refine el_EERA (wL_inv h) fun j2 ms z09 => ?_; subst z09; intro h2 h)
   (refine el_EERA (H.isL h1 ha) fun D vs z09 => ?_; subst z09; intro hl hi)
   (refine el_EERA (H.isL h2 hb) fun D2 ws z09 => ?_; subst z09; intro hl2 hi2)
   exact alloc H h.2 fun nx F N fin => kmk_add_ints F N hl hl2 hi hi2 (fun D us h' F' N' lt hi' => fin D us 0 h' s.toks F' N' (ltne lt) hi') (by rw [sizeLine_eq]; exact h.1)
  | _ => exact h.elim
 | sub => (refine el_EEEERR (ii h ha hb) fun x y t u z09 z19 => ?_; subst z09; subst z19; intro h); exact PyProof.Rows.sub_int (PX.here (s := s) H rpI h)
 | mul =>
  cases a with
  | i x =>
   (refine el_ER (wI_inv (show wI b _ from h)) fun y z09 => ?_; subst z09; intro h)
   obtain ⟨t, rfl⟩ := ha; obtain ⟨u, rfl⟩ := hb
   exact mul_int (PX.here (s := s) H rpI h.2) h.1
  | s x =>
   (refine el_ER (wI_inv (show wI b _ from h)) fun y z09 => ?_; subst z09; intro h)
   obtain ⟨t, rfl⟩ := ha; obtain ⟨u, rfl⟩ := hb
   exact KXi.mul rfl h.1.1 h.1.2.1 h.1.2.2 fun t' k _ _ => PX.here (s := s) H rpS h.2
  | o j =>
   refine el_EEAA (wL_inv (show wL (.o j) ν _ from h)) fun j1 ns e1 h1 h => ?_
   cases e1
   (refine el_ER (wI_inv h) fun y z09 => ?_; subst z09; intro h)
   (refine el_EERA (H.isL h1 ha) fun D vs z09 => ?_; subst z09; intro hl hi)
   obtain ⟨u, rfl⟩ := hb
   exact alloc H h.2 fun nx F N fin => KM.mul F N hl hi h.1.1 h.1.2.1 (by rw [hi.length]; exact h.1.2.2) fun l h' F' N' lt hi' _ _ _ _ _ => fin l _ _ h' s.toks F' N' (ltne lt) hi'
  | _ => exact h.elim
 | mod =>
  (refine el_EEEERR (ii h ha hb) fun x y t u z09 z19 => ?_; subst z09; subst z19; intro h)
  refine mod_int' (Int.ne_of_gt h.1) (PX.here (s := s) H rpI ?_)
  rw [Int.fmod_eq_emod_of_nonneg _ (Int.le_of_lt h.1)]; exact h.2
 | div =>
  (refine el_EEEERR (ii h ha hb) fun x y t u z09 z19 => ?_; subst z09; subst z19; intro h)
  refine floordiv_int (Int.ne_of_gt h.1.1) (PX.here (s := s) H rpI ?_) (.inl (PyProof.noPylong_small (by have := h.1; omega)))
  rw [Int.fdiv_eq_ediv_of_nonneg _ (Int.le_of_lt h.1.1)]; exact h.2
 | shl => (refine el_EEEERR (ii h ha hb) fun x y t u z09 z19 => ?_; subst z09; subst z19; intro h); exact lshift_int h.1.1 (kbm_shl h.1.2.2 h.1.2.1 (by decide)) (PX.here (s := s) H rpI h.2)
 | shr => (refine el_EEEERR (ii h ha hb) fun x y t u z09 z19 => ?_; subst z09; subst z19; intro h); exact rshift_int h.1 (PX.here (s := s) H rpI h.2)
 | band => (refine el_EEEERR (ii h ha hb) fun x y t u z09 z19 => ?_; subst z09; subst z19; intro h); exact and_int (PX.here (s := s) H rpI h)
 | bxor => (refine el_EEEERR (ii h ha hb) fun x y t u z09 z19 => ?_; subst z09; subst z19; intro h); exact xor_int (PX.here (s := s) H rpI h)
 | pow => (refine el_EEEERR (ii h ha hb) fun x y t u z09 z19 => ?_; subst z09; subst z19; intro h); exact pow_int_small h.1.1 h.1.2.1 h.1.2.2 (PX.here (s := s) H rpI h.2)
end
end Mine
end
section
set_option tactic.hygienic true
namespace Mine
open PySem PySem.W PySem.Calls PySem.Spec PyProof.Rows
noncomputable def tokD (l : List (Str × Int)) : List (Str × KTD.Dat) := l.map fun p => (p.1, KTD.Dat.flat (.int p.2))
theorem tok_look (w : World) : KTD.tabLook (KTD.datLooks fun b => List.lookup b (H39 w)) (fun b => List.lookup b (H39 w)) 22 (tokD tokTab) = true := by rfl
theorem lookup_if {α : Type} (y : Str) (n : α) (r : List (Str × α)) (x : Str) : ((y, n) :: r).lookup x = if x = y then some n else r.lookup x := by
 rw [List.lookup_cons]
 by_cases q : x = y
 ·subst q; simp
 ·simp [q, beq_false_of_ne q]
theorem tok_keys (x : Str) : ∀ l : List (Str × Int), KTD.inKeys x (tokD l) = (l.lookup x).isSome := by
 intro l
 induction l with
 | nil => rfl
 | cons p r ih =>
  show (decide (x = p.1) || KTD.inKeys x (tokD r)) = _
  rw [lookup_if, ih]
  by_cases q : x = p.1 <;> simp [q]
theorem tok_each {h : Heap} {x : Str} {P : Value → Prop} (l : List (Str × Int)) : (∀ n, l.lookup x = some n → ∀ t, P (.int n t)) → KTD.EachL h x P (tokD l) := by
 induction l with
 | nil => intro _; trivial
 | cons p r ih =>
  intro k
  cases r with
  | nil => exact fun e => KTD.opened_int (k p.2 (by rw [lookup_if, if_pos e]))
  | cons p' r =>
   show (if decide (x = p.1) = true then _ else KTD.EachL h x P (tokD (p' :: r)))
   by_cases q : x = p.1
   ·rw [if_pos (decide_eq_true q)]; exact KTD.opened_int (k p.2 (by rw [lookup_if, if_pos q]))
   ·rw [if_neg (by simpa using q)]; exact ih fun m hm => k m (by rw [lookup_if, if_neg q]; exact hm)
noncomputable abbrev nmV : PySem.Expr := .Name dbg ⟨0, 0, 0, 0⟩
theorem lt_go (o r : Value) : letTemporaryGo nmV o r = pure () := rfl
theorem nmTurn {prog : Program} {w : World} {A : Around} {E : Value → Shared → Prop} {s : Shared} {value slice : PySem.Expr} {o i : Value} {Q : Value → Shared → Prop} (h : wpAny (model prog w) A (subscriptTail nmV slice o i) Q E s) : wpAny (model prog w) A (subscriptTail value slice o i) Q E s := kba_turn (lt_go o) h
theorem beq_dec {α : Type} [DecidableEq α] (x y : α) : (x == y) = decide (x = y) := by by_cases h : x = y <;> simp [h]
theorem bne_dec {α : Type} [DecidableEq α] (x y : α) : (x != y) = decide (x ≠ y) := by by_cases h : x = y <;> simp [h]
noncomputable def plainE : PySem.Expr → Bool
 | .Slice _ _ _ _ => false
 | .Starred _ _ => false
 | .Set _ _ _ => false
 | _ => true
theorem T.plain (l : Nat) (d : Df) : ∀ t : T, plainE (t.raw l d) = true := by intro t; cases t <;> rfl
theorem star1 {e : PySem.Expr} (h : plainE e = true) (r : List PySem.Expr) (env : Env) : starEach (e :: r) env = (false, eval e env) :: starEach r env := by cases e <;> first | rfl | cases h
theorem any2 {e : PySem.Expr} (h : plainE e = true) (pos : Pos) (env : Env) : ((backTo pos (starEach [e] env)).any fun x => x.1) = false := by rw [star1 h]; rfl
theorem subd {e : PySem.Expr} (h : plainE e = true) (o i : Value) : subscripted e false o i = operate [o, i] (getItem o i) := by cases e <;> first | rfl | cases h
theorem beh {e : PySem.Expr} (h : plainE e = true) (op : CmpOp) : behindInMarks op e = false := by cases e <;> first | rfl | cases h
theorem fsi {e : PySem.Expr} (h : plainE e = true) (env : Env) (x : Value) : foldedSetIterable e env x = pure x := by cases e <;> first | rfl | cases h
theorem same_strs : ∀ ns ms : List Str, PySem.Spec.sameAll (ns.map PyData.str) (ms.map PyData.str) = decide (ns = ms)
 | [], [] => by simp [PySem.Spec.sameAll]
 | [], _ :: _ => by simp [PySem.Spec.sameAll]
 | _ :: _, [] => by simp [PySem.Spec.sameAll]
 | n :: r, k :: q => by
  simp only [List.map_cons, PySem.Spec.sameAll, PySem.Spec.same, same_strs r q]
  by_cases h : n = k <;> simp [h]
theorem depth_strs : ∀ ns : List Str, PyData.depthAll (ns.map PyData.str) = 0
 | [] => rfl
 | _ :: r => by simp [PyData.depthAll, PyData.depth, depth_strs r]
theorem shaped_strs {ns : List Str} (h : ∀ x ∈ ns, PyData.strOk x = true) : SeqAt.shaped (.list (ns.map PyData.str)) = true := by
 show (PyData.canLay0 (.list (ns.map PyData.str)) && decide (PyData.depth (.list (ns.map PyData.str)) ≤ 64)) = true
 rw [Bool.and_eq_true]
 refine ⟨?_, decide_eq_true ?_⟩
 ·simp only [PyData.canLay0]
  rw [canLayAll_strs', List.all_eq_true]; exact h
 ·simp only [PyData.depth, depth_strs]; exact Nat.succ_pos _
theorem eq_strs {prog : Program} {A : Around} {w : World} {E : Value → Shared → Prop} {s : Shared} {Q : Value → Shared → Prop} {a b : Addr} {vs us : List Value} {ns ms : List Str} (hl : s.heap.IsList a vs.toArray) (hi : StrsAre vs ns) (hl' : s.heap.IsList b us.toArray) (hi' : StrsAre us ms) (hn : ∀ x ∈ ns, PyData.strOk x = true) (hm : ∀ x ∈ ms, PyData.strOk x = true) (hu : A.units + 64 < cLine)
  (h : Q (.bool (decide (ns = ms))) s) : wpAny (model prog w) A (compareOp .Eq (.ref a) (.ref b)) Q E s :=
 eq_dataH_same (reads_newData hl hi.carried) (reads_newData hl' hi'.carried) (shaped_strs hn) (shaped_strs hm) hu (SeqAt.noMix_of_shape (.list .str) rfl _ _ (list_map_has fun _ => rfl) (list_map_has fun _ => rfl)) (by simp only [PySem.Spec.same]; rw [same_strs]; exact h)
theorem noPy {a b : Int} (h : Builtin.Int.intBits b ≤ 4000) : Builtin.divisionGoesByPylong a b = false := by
 refine PyProof.noPylong_of_log2 ?_
 have h1 := intBits_le_iff.mp h
 by_cases h0 : b.natAbs = 0
 ·rw [h0]; decide
 ·exact (Nat.log2_lt h0).mpr (Nat.lt_trans h1 (Nat.pow_lt_pow_right (by decide) (by decide)))
theorem rows_reads {h : Heap} {rs : List (List Int)} : ∀ {vs : List Value}, RowsZ (fun a o => h.get? a = some o) vs rs → ∃ as, ReadsAll h vs (rs.map fun r => PyData.list (r.map PyData.int)) as := by
 induction rs with
 | nil => rintro vs rfl; exact ⟨[], .nil⟩
 | cons r rs ih =>
  intro vs q19; (refine el_EEEERAA q19 fun a ws k tl z09 => ?_; try clear q19; subst z09; intro h1 h2 h3)
  obtain ⟨as, h4⟩ := ih h3
  exact ⟨_, .cons (reads_newData (ys := ws) ⟨_, h1, rfl, _, rfl⟩ h2.carried) h4⟩
theorem count_rows (ns : List Int) : ∀ rs : List (List Int), decide (PySem.Spec.countIn (.list (ns.map PyData.int)) (rs.map fun r => PyData.list (r.map PyData.int)) ≠ 0) = decide (ns ∈ rs) ∧ 0 ≤ PySem.Spec.countIn (.list (ns.map PyData.int)) (rs.map fun r => PyData.list (r.map PyData.int)) := by
 intro rs
 induction rs with
 | nil => exact ⟨rfl, Int.le_refl 0⟩
 | cons r rs ih =>
  have e : PySem.Spec.same (.list (r.map PyData.int)) (.list (ns.map PyData.int)) = decide (r = ns) := by simp only [PySem.Spec.same]; exact same_ints r ns
  have e2 : PySem.Spec.countIn (.list (ns.map PyData.int)) ((r :: rs).map fun r => PyData.list (r.map PyData.int)) = (if r = ns then 1 else 0) + PySem.Spec.countIn (.list (ns.map PyData.int)) (rs.map fun r => PyData.list (r.map PyData.int)) := by
   rw [List.map_cons, PySem.Spec.countIn, e]; simp
  rw [e2]
  have h1 := decide_eq_decide.mp ih.1
  by_cases q : r = ns
  ·subst q
   rw [if_pos rfl]
   exact ⟨decide_eq_decide.mpr ⟨fun _ => List.mem_cons_self, fun _ => by have := ih.2; lia⟩, by have := ih.2; lia⟩
  ·rw [if_neg q, Int.zero_add]
   exact ⟨decide_eq_decide.mpr (h1.trans ⟨fun h => List.mem_cons_of_mem _ h, fun h => (List.mem_cons.mp h).resolve_left (fun e => q e.symm)⟩), ih.2⟩
theorem shaped_rows (rs : List (List Int)) : SeqAt.shaped (.list (rs.map fun r => PyData.list (r.map PyData.int))) = true := by
 have h1 : ∀ rs : List (List Int), PyData.canLayAll0 (rs.map fun r => PyData.list (r.map PyData.int)) = true ∧ PyData.depthAll (rs.map fun r => PyData.list (r.map PyData.int)) ≤ 1 := by
  intro rs
  induction rs with
  | nil => exact ⟨rfl, Nat.zero_le _⟩
  | cons r rs ih =>
   simp only [List.map_cons, PyData.canLayAll0, PyData.canLay0, PyData.depthAll, PyData.depth, ke_canLayAll0, ke_depthAll, ih.1, Bool.and_self, true_and]
   have := ih.2
   lia
 simp only [SeqAt.shaped, PyData.canLay0, PyData.depth, (h1 rs).1, Bool.true_and]
 exact decide_eq_true (by have := (h1 rs).2; exact Nat.lt_of_le_of_lt (by assumption) (by decide))
theorem shaped_rows' (ns : List Int) : SeqAt.shaped (.list (ns.map PyData.int)) = true := by
 simp [SeqAt.shaped, PyData.canLay0, PyData.depth, ke_canLayAll0, ke_depthAll]
theorem reads_pair {h : Heap} {a : Addr} {x y : Int} {t u : Tok} (ha : h.get? a = some { cls := .type "tuple", data := .seq #[.int x t, .int y u] }) : Reads h (.ref a) (.tuple [.int x, .int y]) [] :=
 .tuple ha rfl rfl (.cons (as := []) (.int _ _) (.cons (as := []) (.int _ _) .nil))
theorem reads_norm {h : Heap} {a D : Addr} {cs : List Value} {ns : List Int} {x : Int} {t : Tok} (ha : h.get? a = some { cls := .type "tuple", data := .seq #[.ref D, .int x t] }) (hD : h.get? D = some { cls := .type "tuple", data := .seq cs.toArray }) (hc : IntsAre cs ns) :
  Reads h (.ref a) (.tuple [.tuple (ns.map PyData.int), .int x]) [] :=
 .tuple ha rfl rfl (.cons (as := []) (.tuple hD rfl rfl ((ke_carried hc).reads h)) (.cons (as := []) (.int _ _) .nil))
theorem shaped_norm (ns : List Int) (x : Int) : SeqAt.shaped (.tuple [.tuple (ns.map PyData.int), .int x]) = true := by
 simp [SeqAt.shaped, PyData.canLay0, PyData.canLayAll0, PyData.depth, PyData.depthAll, ke_canLayAll0, ke_depthAll]
theorem shaped_pair (x y : Int) : SeqAt.shaped (.tuple [.int x, .int y]) = true := by
 simp [SeqAt.shaped, PyData.canLay0, PyData.canLayAll0, PyData.depth, PyData.depthAll]
section
variable {S : Sit} {s s' : Shared} {ad ad' : List Addr} {μ : Mu} {ν : Nu} {K : KV} {a b sv : SV} {v va vb : Value} {h' : Heap} {tk' : Nat}
theorem truth_sound {k : (p : Prop) → Decidable p → Prop} (h : truthS a ν k) (H : Hd S s.heap ad μ ν) (ha : Rp ad a va) {Q : Bool → Shared → Prop} (hq : ∀ p d tk, k p d → Q (@decide p d) { s with toks := tk }) : wpS S (truthy va) Q s := by
 cases a with
 | i x => obtain ⟨t, rfl⟩ := ha; exact truthy_int (by rw [bne_dec]; exact hq _ _ s.toks h)
 | b c => cases (show va = .bool c from ha); exact wpAny_truthy_bool (by have := hq _ _ s.toks h; rw [Bool.decide_eq_true] at this; exact this)
 | o j =>
  refine el_EEAA (wL_inv (show wL (.o j) ν _ from h)) fun j1 ns e1 h1 h => ?_
  cases e1
  (refine el_EERA (H.isL h1 ha) fun D vs z09 => ?_; subst z09; intro hl hi)
  exact truthy_ints_fit hl hi (by lia) (by have := hq _ _ (s.toks + 1 + 1) h.2; rw [show decide (ns ≠ []) = decide (0 < ns.length) from by cases ns <;> simp] at this; exact this)
 | _ => exact h.elim
theorem split_px {p : Prop} {d : Decidable p} (h : splitK K μ ν p d) (H : Hd S h' ad μ ν) : PX S s ad K (.bool (@decide p d)) { s with heap := h', toks := tk' } := by
 cases d with
 | isTrue q => exact PX.here H (show Rp ad (.b true) (.bool true) from rfl) (h.1 q)
 | isFalse q => exact PX.here H (show Rp ad (.b false) (.bool false) from rfl) (h.2 q)
theorem so_eq {so : SO} {k1 : List Str → Prop} {k2 : List SV → Prop} (h : match so with | .strs xs => k1 xs | .tup svs => k2 svs | _ => False) : (∃ xs, so = .strs xs ∧ k1 xs) ∨ ∃ svs, so = .tup svs ∧ k2 svs := by cases so <;> first | exact .inl ⟨_, rfl, h⟩ | exact .inr ⟨_, rfl, h⟩ | exact h.elim
section
variable {j : Nat} {k : (p : Prop) → Decidable p → Prop} {Q : Value → Shared → Prop}
theorem cmp_strs (O : Ok S) (H : Hd S s.heap ad μ ν) {xs : List Str} (hj : ν[j]? = some (.strs xs)) (ha : Rp ad (.o j) va) (hb : Rp ad b vb) (h : wO b ν fun _ so => match so with | .ints ms => ms = [] ∧ (∀ x ∈ xs, PyData.strOk x = true) ∧ k (xs = []) inferInstance | _ => False) (hq : ∀ p d tk, k p d → Q (.bool (@decide p d)) { s with toks := tk }) :
  wpS S (compareOp .Eq va vb) Q s := by
 refine Classical.byContradiction fun hn => ?_
 (refine el_EERARA (wO_ints h) fun j2 ms z09 z19 => ?_; subst z09; subst z19; intro h2 hx h3)
 (refine el_EEERAAbEERe (H.get hj rfl ha) fun D _ _ vs n z09 z19 => ?_; subst z09; subst z19; intro g hi _)
 (refine el_EEERAAbEERe (H.get h2 rfl hb) fun D2 _ _ _ n2 z09 z19 => ?_; subst z09; subst z19; intro g2 hi2 _)
 cases hi2
 exact hn (eq_strs ⟨_, g, rfl, _, rfl⟩ hi ⟨_, g2, rfl, _, rfl⟩ .nil hx (fun _ h => nomatch h) O.u64 (hq _ _ s.toks h3))
theorem same_pair (x y z w : Int) : @decide (x = z ∧ y = w) inferInstance = PySem.Spec.same (.tuple [.int x, .int y]) (.tuple [.int z, .int w]) := by simp [PySem.Spec.same, PySem.Spec.sameAll, beq_dec]
theorem cmp_tup (O : Ok S) (H : Hd S s.heap ad μ ν) {svs : List SV} (hj : ν[j]? = some (.tup svs)) (ha : Rp ad (.o j) va) (hb : Rp ad b vb) (h : wO b ν fun _ so => match so with | .tup tvs => ∃ x y z w, svs = [.i x, .i y] ∧ tvs = [.i z, .i w] ∧ k (x = z ∧ y = w) inferInstance | _ => False) (hq : ∀ p d tk, k p d → Q (.bool (@decide p d)) { s with toks := tk }) :
  wpS S (compareOp .Eq va vb) Q s := by
 refine Classical.byContradiction fun hn => ?_
 (refine el_EERAEEEERR (wO_tup h) fun j2 tvs x y z w z09 z19 z29 => ?_; subst z09; subst z19; subst z29; intro h2 h3)
 (refine el_EEERAAbERe (H.get hj rfl ha) fun D _ _ vs z09 z19 => ?_; subst z09; subst z19; intro g r _)
 (refine el_EEERAAbERe (H.get h2 rfl hb) fun D2 _ _ vs2 z09 z19 => ?_; subst z09; subst z19; intro g2 r2 _)
 (refine el_EEr (r.two) fun t u z09 => ?_; subst z09)
 (refine el_EEr (r2.two) fun t2 u2 z09 => ?_; subst z09)
 exact hn (eq_dataH_same (reads_pair g) (reads_pair g2) (shaped_pair _ _) (shaped_pair _ _) O.u64 rfl (same_pair x y z w ▸ hq _ _ s.toks h3))
theorem same_norm (cnt ms : List Int) (x y : Int) : @decide (¬ (cnt = ms ∧ x = y)) inferInstance = !PySem.Spec.same (.tuple [.tuple (cnt.map PyData.int), .int x]) (.tuple [.tuple (ms.map PyData.int), .int y]) := by simp [PySem.Spec.same, PySem.Spec.sameAll, same_ints, beq_dec]
theorem cmp_norm (O : Ok S) (H : Hd S s.heap ad μ ν) {cnt : List Int} {x : Int} (hj : ν[j]? = some (.nrm cnt x)) (ha : Rp ad (.o j) va) (hb : Rp ad b vb) (h : wO b ν fun _ so => match so with | .tup svs => ∃ i y ms, svs = [.o i, .i y] ∧ ν[i]? = some (SO.tup (ms.map SV.i)) ∧ k (¬ (cnt = ms ∧ x = y)) inferInstance | _ => False) (hq : ∀ p d tk, k p d → Q (.bool (@decide p d)) { s with toks := tk }) :
  wpS S (compareOp .NotEq va vb) Q s := by
 refine Classical.byContradiction fun hn => ?_
 (refine el_EERAEEERA (wO_tup h) fun j2 svs i y ms z09 z19 => ?_; subst z09; subst z19; intro h2 h4 h3)
 obtain ⟨D, _, _, rfl, g, ⟨D1, cs, t, rfl, z1, hi⟩, z⟩ := H.get hj rfl ha
 obtain ⟨D2, _, _, rfl, g2, ⟨_, rfl, v3, r3, rfl, r5, v4, r4, rfl, ⟨t4, rfl⟩, rfl⟩, _⟩ := H.get h2 rfl hb
 (refine el_EEERAAbERe (H.get h4 rfl r5) fun D4 _ _ vs4 z09 z19 => ?_; subst z09; subst z19; intro g4 hi4 _)
 exact hn (ne_dataH_same (reads_norm g (z _ _ z1) hi) (reads_norm g2 g4 (RL.ints.mp hi4)) (shaped_norm _ _) (shaped_norm _ _) O.u64 (by simp [PySem.SeqAt.noMix, PySem.SeqAt.noMixAll, noMix_ints]) (same_norm cnt ms x y ▸ hq _ _ s.toks h3))
theorem cmp_lists (O : Ok S) (H : Hd S s.heap ad μ ν) (ha : Rp ad a va) (hb : Rp ad b vb) (h : wL a ν fun ns => wL b ν fun ms => k (ns ≠ ms) inferInstance) (hq : ∀ p d tk, k p d → Q (.bool (@decide p d)) { s with toks := tk }) : wpS S (compareOp .NotEq va vb) Q s := by
 refine Classical.byContradiction fun hn => ?_
 (refine el_EERA (wL_inv h) fun j1 ns z09 => ?_; subst z09; intro h1 h)
 (refine el_EERA (wL_inv h) fun j2 ms z09 => ?_; subst z09; intro h2 h)
 (refine el_EERA (H.isL h1 ha) fun D vs z09 => ?_; subst z09; intro hl hi)
 (refine el_EERA (H.isL h2 hb) fun D2 ws z09 => ?_; subst z09; intro hl2 hi2)
 exact hn (ke_ne_ints hl hl2 hi hi2 O.u64 (by have := hq _ _ s.toks h; simpa using this))
theorem cmp_tok (O : Ok S) (H : Hd S s.heap ad μ ν) {x : Str} (ha : Rp ad (.s x) va) (hb : Rp ad b vb) (h : match (generalizing := false) b with | .v (.ref c) => c = 22 ∧ k (tokTab.lookup x = none) inferInstance | _ => False) (hq : ∀ p d tk, k p d → Q (.bool (@decide p d)) { s with toks := tk }) : wpS S (compareOp .NotIn va vb) Q s := by
 obtain ⟨t, rfl⟩ := ha
 obtain ⟨c, rfl, rfl, hk⟩ : ∃ c, b = .v (.ref c) ∧ c = 22 ∧ k (tokTab.lookup x = none) inferInstance := by
  cases b with
  | v w => cases w <;> first | exact ⟨_, rfl, h⟩ | exact h.elim
  | _ => exact h.elim
 cases (show vb = .ref 22 from hb)
 obtain ⟨m', nx, fz, F, N, l, R⟩ := H
 refine KTD.notin_text ⟨kt_text_in O.rdy.1 (tok_look S.w), F.keep⟩ ?_
 rw [tok_keys, show (!(tokTab.lookup x).isSome) = decide (tokTab.lookup x = none) from by cases tokTab.lookup x <;> rfl]
 exact hq _ _ (s.toks + 1) hk
theorem cmp_dict (H : Hd S s.heap ad μ ν) {x : Int} (ha : Rp ad (.i x) va) (hb : Rp ad b vb) (h : wO b ν fun _ so => match so with | .dict c => k (¬ kdfHas c x = true) inferInstance | _ => False) (hq : ∀ p d tk, k p d → Q (.bool (@decide p d)) { s with toks := tk }) : wpS S (compareOp .NotIn va vb) Q s := by
 obtain ⟨t, rfl⟩ := ha
 (refine el_EERA (wO_dict h) fun j c z09 => ?_; subst z09; intro hj h)
 obtain ⟨m', nx, fz, F, N, l, R⟩ := H
 refine el_EEAAbAEAe (R.own hj rfl) fun D o kvs h1 hs h2 h3 h4 => ?_
 (refine el_EAr hb fun D' z09 => ?_; try clear hb; subst z09; intro e)
 obtain rfl := Option.some.inj (h1.symm.trans e)
 exact kdf_notin (TabAt.ofNews N (List.mem_append_left _ h4) hs h2 h3) (by have := hq _ _ (s.toks + 1) h; simpa using this)
theorem nin_rows (ns : List Int) (rs : List (List Int)) : @decide (ns ∉ rs) inferInstance = !decide (PySem.Spec.countIn (.list (ns.map PyData.int)) (rs.map fun r => PyData.list (r.map PyData.int)) ≠ 0) := by rw [(count_rows ns rs).1]; simp
theorem cmp_rows (O : Ok S) (H : Hd S s.heap ad μ ν) (ha : Rp ad a va) (hb : Rp ad b vb) (h : wL a ν fun ns => wO b ν fun _ so => match so with | .lrows rs => k (ns ∉ rs) inferInstance | _ => False) (hq : ∀ p d tk, k p d → Q (.bool (@decide p d)) { s with toks := tk }) : wpS S (compareOp .NotIn va vb) Q s := by
 refine Classical.byContradiction fun hn => ?_
 (refine el_EERA (wL_inv h) fun j1 ns z09 => ?_; subst z09; intro h1 h)
 (refine el_EERA (wO_lrows h) fun j2 rs z09 => ?_; subst z09; intro h2 h)
 (refine el_EERA (H.isL h1 ha) fun D vs z09 => ?_; subst z09; intro hl hi)
 (refine el_EEERAAbEERe (H.get h2 rfl hb) fun D2 _ _ vs2 n2 z09 z19 => ?_; subst z09; subst z19; intro g hi2 z)
 obtain ⟨as, hr⟩ := rows_reads (RowsZ.up z hi2)
 exact hn (notIn_list_dataH (.list g rfl rfl hr) (reads_newData hl hi.carried) (shaped_rows rs) (shaped_rows' ns) (Nat.lt_of_succ_lt O.units) (fun y hy => by (refine el_EAr (List.mem_map.mp hy) fun r z09 => ?_; subst z09; intro _); simp [PySem.SeqAt.noMix, noMix_ints]) (nin_rows ns rs ▸ hq _ _ s.toks h))
theorem cmp_ints (H : Hd S s.heap ad μ ν) {p : Int → Int → Prop} {d : ∀ x y, Decidable (p x y)} {op : CmpOp} (ha : Rp ad a va) (hb : Rp ad b vb) (h : wI a fun x => wI b fun y => k (p x y) (d x y)) (f : ∀ x y t u, Q (.bool (@decide (p x y) (d x y))) s → wpS S (compareOp op (.int x t) (.int y u)) Q s) (hq : ∀ p d tk, k p d → Q (.bool (@decide p d)) { s with toks := tk }) : wpS S (compareOp op va vb) Q s := by
 (refine el_EEEERR (ii h ha hb) fun x y t u z09 z19 => ?_; subst z09; subst z19; intro h)
 exact f x y t u (hq _ _ s.toks h)
theorem cmp_text (H : Hd S s.heap ad μ ν) {x : Str} {p : Str → Prop} {d : ∀ y, Decidable (p y)} {op : CmpOp} (ha : Rp ad (.s x) va) (hb : Rp ad b vb) (h : wS b fun y => k (p y) (d y)) (f : ∀ y t u, Q (.bool (@decide (p y) (d y))) s → wpS S (compareOp op (.str x t) (.str y u)) Q s) (hq : ∀ p d tk, k p d → Q (.bool (@decide p d)) { s with toks := tk }) : wpS S (compareOp op va vb) Q s := by
 (refine el_ER (wS_inv h) fun y z09 => ?_; subst z09; intro h)
 obtain ⟨t, rfl⟩ := ha
 obtain ⟨u, rfl⟩ := hb
 exact f y t u (hq _ _ s.toks h)
end
theorem cmp_sound (O : Ok S) {o : CO} {k : (p : Prop) → Decidable p → Prop} (h : cmpS o a b ν k) (H : Hd S s.heap ad μ ν) (ha : Rp ad a va) (hb : Rp ad b vb) {Q : Value → Shared → Prop} (hq : ∀ p d tk, k p d → Q (.bool (@decide p d)) { s with toks := tk }) :
  wpS S (compareOp o.raw va vb) Q s := by
 cases o with
 | eq =>
  cases a with
  | i x => exact cmp_ints H ha hb (show wI (.i x) fun x => wI b fun y => k (x = y) inferInstance from h) (fun _ _ _ _ => eq_int) hq
  | s x => exact cmp_text H ha hb (show wS b fun y => k (x = y) inferInstance from h) (fun y t u q => eq_str (by rw [beq_dec]; exact q)) hq
  | o j =>
   unfold cmpS at h
   refine el_EEAA (wO_inv h) fun j1 so e1 h1 h => ?_
   cases e1
   rcases so_eq h with ⟨xs, rfl, h⟩ | ⟨svs, rfl, h⟩
   ·exact cmp_strs O H h1 ha hb h hq
   ·exact cmp_tup O H h1 ha hb h hq
  | _ => exact h.elim
 | ne =>
  cases a with
  | i x => exact cmp_ints H ha hb (show wI (.i x) fun x => wI b fun y => k (x ≠ y) inferInstance from h) (fun _ _ _ _ q => ne_int (by rw [bne_dec]; exact q)) hq
  | s x => exact cmp_text H ha hb (show wS b fun y => k (x ≠ y) inferInstance from h) (fun y t u q => ne_str (by rw [bne_dec]; exact q)) hq
  | o j =>
   unfold cmpS at h
   dsimp only at h
   split at h
   ·rename_i cnt x hj
    exact cmp_norm O H hj ha hb h hq
   ·exact cmp_lists O H ha hb h hq
  | _ => exact h.elim
 | lt => exact cmp_ints H ha hb h (fun _ _ _ _ => lt_int) hq
 | le => exact cmp_ints H ha hb h (fun _ _ _ _ => le_int) hq
 | gt => exact cmp_ints H ha hb h (fun _ _ _ _ => gt_int) hq
 | ge => exact cmp_ints H ha hb h (fun _ _ _ _ => ge_int) hq
 | nin =>
  cases a with
  | s x => exact cmp_tok O H ha hb h hq
  | i x => exact cmp_dict H ha hb h hq
  | o j => exact cmp_rows O H ha hb h hq
  | _ => exact h.elim
 | isnt =>
  (refine el_ER (wB_inv (show wB a _ from h)) fun x z09 => ?_; subst z09; intro h1)
  (refine el_ER (wB_inv h1) fun y z09 => ?_; subst z09; intro h2)
  cases (show va = .bool x from ha); cases (show vb = .bool y from hb)
  exact isnot_bool (by rw [bne_dec]; exact hq _ _ s.toks h2)
theorem RL.at {ad : List Addr} {svs : List SV} : ∀ {vs : List Value} {k : Nat} {sv : SV}, RL ad svs vs → svs[k]? = some sv → ∃ v, vs[k]? = some v ∧ Rp ad sv v := by
 induction svs with
 | nil => intro vs k sv _ e; cases e
 | cons a r ih =>
  intro vs k sv q19; (refine el_EERA q19 fun v s z09 => ?_; try clear q19; subst z09; intro h1 h2); intro e
  cases k with
  | zero => cases e; exact ⟨v, rfl, h1⟩
  | succ k => refine el_EA (ih h2 (show r[k]? = some sv from e)) fun v' q1 q2 => ?_; exact ⟨v', q1, q2⟩
theorem item_sound (O : Ok S) {value slice : PySem.Expr} {P : SV → Prop} (h : itemS a b ν P) (H : Hd S s.heap ad μ ν) (ha : Rp ad a va) (hb : Rp ad b vb) (hs : plainE slice = true)
  {Q : Value → Shared → Prop} (hq : ∀ r v tk, P r → Rp ad r v → Q v { s with toks := tk }) : wpS S (subscriptTail value slice va vb) Q s := by
 refine nmTurn ?_
 have key : ∀ {ns : List Int} {k : Nat}, ν[k]? = some (.ints ns) ∨ ν[k]? = some (.ro ns) → (wI b fun x => (0 ≤ x ∧ x < ns.length ∧ ns.length ≤ 16000000) ∧ P (.i (ns.getD x.toNat 0))) → Rp ad (.o k) va → wpS S (subscriptTail nmV slice va vb) Q s := by
  intro ns k hk h ha
  (refine el_ERAbAAe (wI_inv h) fun x z09 => ?_; subst z09; intro h1 h2 h3 hP)
  obtain ⟨u, rfl⟩ := hb
  (refine el_EERA (H.isL hk ha) fun D vs z09 => ?_; subst z09; intro hl hi)
  exact item_list_ints hl hi h1 h2 (by lia) (fun t => hq _ _ s.toks hP rpI) (subd hs _ _) (lt_go _)
 cases a with
 | o j =>
  unfold itemS at h
  dsimp only at h
  cases hn : ν[j]? with
  | none => rw [hn] at h; exact h.elim
  | some so =>
   rw [hn] at h
   cases so with
   | «ints» ns => exact key (.inl hn) h ha
   | ro ns => exact key (.inr hn) h ha
   | ti ns =>
    (refine el_ERAbAAe (wI_inv (show wI b _ from h)) fun x z09 => ?_; subst z09; intro h1 h2 h3 hP)
    obtain ⟨m', nx, fz, F, N, l, R⟩ := H
    (refine el_EEAAbERe (R.fro hn (fun e => by cases e) rfl) fun D o vs z09 => ?_; subst z09; intro e1 hi e3)
    (refine el_EAr ha fun D' z09 => ?_; try clear ha; subst z09; intro e)
    obtain rfl := Option.some.inj (e1.symm.trans e)
    obtain ⟨u, rfl⟩ := hb
    have hl := hi.length
    obtain ⟨t, ht⟩ := hi.get x.toNat ns[x.toNat] (by simp)
    exact item_tupleT (l := vs) ⟨_, e3.get F N, rfl, _, rfl⟩ (by lia) (by lia) (seqIndex_of h1 (by lia)) ht (hq _ _ s.toks hP (by rw [show ns.getD x.toNat 0 = ns[x.toNat] from by rw [List.getD_eq_getElem?_getD, List.getElem?_eq_getElem (by lia)]; rfl]; exact rpI)) (subd hs _ _)
   | dict c =>
    (refine el_ERA (wI_inv (show wI b _ from h)) fun x z09 => ?_; subst z09; intro h1 hP)
    obtain ⟨m', nx, fz, F, N, l, R⟩ := H
    refine el_EEAAbAEAe (R.own hn rfl) fun D o kvs e1 hsy h2 h3 h4 => ?_
    (refine el_EAr ha fun D' z09 => ?_; try clear ha; subst z09; intro e)
    obtain rfl := Option.some.inj (e1.symm.trans e)
    obtain ⟨u, rfl⟩ := hb
    exact kdf_item (TabAt.ofNews N (List.mem_append_left _ h4) hsy h2 h3) h1 (fun t => hq _ _ (s.toks + 1) hP rpI) (subd hs _ _) (lt_go _)
   | tup svs =>
    (refine el_ERAAEA (wI_inv (show wI b _ from h)) fun x sv z09 => ?_; subst z09; intro h0 h1 h2 hP)
    obtain ⟨m', nx, fz, F, N, l, R⟩ := H
    (refine el_EEAAbERe (R.fro hn (fun e => by cases e) rfl) fun D o vs z09 => ?_; subst z09; intro e1 hi e3)
    (refine el_EAr ha fun D' z09 => ?_; try clear ha; subst z09; intro e)
    obtain rfl := Option.some.inj (e1.symm.trans e)
    obtain ⟨u, rfl⟩ := hb
    have hl := hi.len
    refine el_EA (hi.at h2) fun v e4 r => ?_
    have hlt := lt_of_get h2
    exact item_tupleT (l := vs) (j := x.toNat) ⟨_, e3.get F N, rfl, _, rfl⟩ (by lia) (by lia) (seqIndex_of h0 (by lia)) e4 (hq _ _ s.toks hP r) (subd hs _ _)
   | _ => exact h.elim
 | v w =>
  cases w with
  | ref c =>
   (refine el_ERREA (wS_inv (show wS b _ from h)) fun x n z09 z19 => ?_; subst z09; subst z19; intro h1 hP)
   cases (show va = .ref 22 from ha)
   obtain ⟨t, rfl⟩ := hb
   obtain ⟨m', nx, fz, F, N, l, R⟩ := H
   exact KTD.item_text ⟨kt_text_in O.rdy.1 (tok_look S.w), F.keep⟩ (by rw [tok_keys, h1]; rfl) (tok_each _ fun m hm t => by obtain rfl := Option.some.inj (h1.symm.trans hm); exact hq _ _ _ hP rpI) (subd hs _ _) (lt_go _)
  | _ => exact h.elim
 | _ => exact h.elim
theorem b1_sound (O : Ok S) {o : B1} (h : b1S o a ν fun v ν => K v μ ν) (H : Hd S s.heap ad μ ν) (ha : Rp ad a va) : wpS S (call o.val [va]) (PX S s ad K) s := by
 cases o with
 | len =>
  (refine el_EERA (wO_inv (show wO a ν _ from h)) fun j so z09 => ?_; subst z09; intro hj h)
  have key : ∀ {ns : List Int}, ν[j]? = some (.ints ns) ∨ ν[j]? = some (.ro ns) → ns.length ≤ 16000000 → K (.i ns.length) μ ν → wpS S (call (.builtin "len") [va]) (PX S s ad K) s := fun hk h1 hK => by
   (refine el_EERA (H.isL hk ha) fun D ws z09 => ?_; subst z09; intro hl hi)
   exact len_ints_fit hl hi (by exact Nat.lt_of_le_of_lt (by assumption) (by decide)) (PX.here (s := s) H rpI hK)
  cases so with
  | «ints» ns => exact key (.inl hj) h.1 h.2
  | ro ns => exact key (.inr hj) h.1 h.2
  | ti ns =>
   obtain ⟨m', nx, fz, F, N, l, R⟩ := H
   (refine el_EEAAbERe (R.fro hj (fun e => by cases e) rfl) fun D o vs z09 => ?_; subst z09; intro e1 hi e3)
   (refine el_EAr ha fun D' z09 => ?_; try clear ha; subst z09; intro e)
   obtain rfl := Option.some.inj (e1.symm.trans e)
   have z : vs.toArray.size = ns.length := by rw [List.size_toArray]; exact hi.length
   refine PySem.P.len_tuple (e3.get F N) (by rw [z]; have := h.1; lia) ?_
   rw [z]
   exact PX.here (s := s) ⟨m', nx, fz, F, N, l, R⟩ rpI h.2
  | lrows rs =>
   obtain ⟨m', nx, fz, F, N, l, R⟩ := H
   (refine el_EEAAbEERe (R.own hj rfl) fun D o vs n z09 => ?_; subst z09; intro e1 hi e3)
   (refine el_EAr ha fun D' z09 => ?_; try clear ha; subst z09; intro e)
   obtain rfl := Option.some.inj (e1.symm.trans e)
   have z : vs.toArray.size = rs.length := by rw [List.size_toArray]; exact hi.len
   refine Calls.call_len_list (items := vs.toArray) ⟨_, (N _ (List.mem_append_left _ e3)).1, rfl, _, rfl⟩ (by rw [z]; have := h.1; lia) ?_
   rw [z]
   exact PX.here (s := s) ⟨m', nx, fz, F, N, l, R⟩ rpI h.2
  | _ => exact h.elim
 | max =>
  obtain ⟨j, ns, rfl, hk, h1, h2⟩ := wL_inv (show wL a ν _ from h)
  (refine el_EERA (H.isL hk ha) fun D ws z09 => ?_; subst z09; intro hl hi)
  obtain ⟨m', nx, fz, F, N, l, R⟩ := H
  exact kso_max F N hl hi h1 O.hnd fun h' M t tk F' N' hM hle => PX.here (s := s) ⟨m', nx, fz, F', N', l, R⟩ rpI (h2 M hM hle)
 | sorted =>
  obtain ⟨j, ns, rfl, hk, h1, h2⟩ := wL_inv (show wL a ν _ from h)
  (refine el_EERA (H.isL hk ha) fun D ws z09 => ?_; subst z09; intro hl hi)
  obtain ⟨m', nx, fz, F, N, l, R⟩ := H
  exact kso_sorted F N hl hi h1 fun D' vs' ns' c h' F' N' hlt hi' _ hp hs _ => PX.new R.len (Hd.own R l rfl F' N' (ltne hlt) (isI hi')) (h2 ns' hp hs)
 | sum =>
  (refine el_EERA (wL_inv (show wL a ν _ from h)) fun j ns z09 => ?_; subst z09; intro hk h1)
  (refine el_EERA (H.isL hk ha) fun D ws z09 => ?_; subst z09; intro hl hi)
  obtain ⟨m', nx, fz, F, N, l, R⟩ := H
  exact sumK O.hnd F N hl hi fun h' tk t' F' N' => PX.here (s := s) ⟨m', nx, fz, F', N', l, R⟩ rpI h1
 | hex =>
  (refine el_ERA (wI_inv (show wI a _ from h)) fun n z09 => ?_; subst z09; intro h1 h2)
  obtain ⟨t, rfl⟩ := ha
  exact PySem.P.hex_of_int (PX.here (s := s) H rpS h2) h1
 | iter =>
  (refine el_EERA (wO_ro (show wO a ν _ from h)) fun j os z09 => ?_; subst z09; intro hj h)
  obtain ⟨m', nx, fz, F, N, l, R⟩ := H
  (refine el_EEAAbEERe (R.fro hj (fun e => by cases e) rfl) fun D o vs n z09 => ?_; subst z09; intro e1 hi e3)
  (refine el_EAr ha fun D' z09 => ?_; clear ha; subst z09; intro e2)
  obtain rfl := Option.some.inj (e1.symm.trans e2)
  exact my_iter F N ⟨_, e3.get F N, rfl, _, rfl⟩ fun I h' F' N' lt => PX.new (tk' := s.toks) R.len (Hd.own (so := .iter I D os 0) R l rfl F' N' (ltne lt) ⟨rfl, rfl, vs, n, e3, hi⟩) (h I D)
 | next =>
  (refine el_EERA (wO_inv (show wO a ν _ from h)) fun j so z09 => ?_; subst z09; intro hj h)
  cases so with
  | iter I D os i =>
   obtain ⟨m', nx, fz, F, N, l, R⟩ := H
   obtain ⟨I', o, f, g1, g2, ⟨rfl, rfl, vs, n, z, hi⟩, g4, g5⟩ := R.upd hj rfl
   (refine el_EAr ha fun I2 z09 => ?_; try clear ha; subst z09; intro e2)
   obtain rfl := Option.some.inj (g1.symm.trans e2)
   have hx : os[i]? = some (os.getD i 0) := by rw [List.getD_eq_getElem?_getD, List.getElem?_eq_getElem h.1]; rfl
   obtain ⟨t, hv⟩ := hi.get i _ hx
   exact my_next F N (updOf g4) ⟨_, z.get F N, rfl, _, rfl⟩ hv fun h' F' N' => PX.here (sv := .i _) (tk' := s.toks) ⟨m', _, fz, F', N', l, g5 _ (.iter I' D os (i + 1)) rfl ⟨rfl, rfl, vs, n, z, hi⟩⟩ ⟨t, rfl⟩ h.2
  | _ => exact h.elim
 | tuple =>
  obtain ⟨j, ns, rfl, hk, h1, h2⟩ := wL_inv (show wL a ν _ from h)
  (refine el_EERA (H.isL hk ha) fun D ws z09 => ?_; subst z09; intro hl hi)
  obtain ⟨m', nx, fz, F, N, l, R⟩ := H
  exact kde_tupleOf F N hl (by rw [List.size_toArray, hi.length]; exact h1) rfl fun D h' F' N' hlt => PX.new (tk' := s.toks) R.len (Hd.fro (so := .tup (ns.map SV.i)) R l rfl F' N' (ltne hlt) ⟨ws, rfl, RL.ints.mpr hi⟩) h2
 | _ => exact h.elim
theorem b2_sound (O : Ok S) {o : B1} (h : b2S o a b ν fun v ν => K v μ ν) (H : Hd S s.heap ad μ ν) (ha : Rp ad a va) (hb : Rp ad b vb) : wpS S (call o.val [va, vb]) (PX S s ad K) s := by
 cases o with
 | max =>
  (refine el_EEEERR (ii (k := fun x y => K (.i (if y > x then y else x)) μ ν) h ha hb) fun x y t u z09 z19 => ?_; subst z09; subst z19; intro h)
  obtain ⟨m', nx, fz, F, N, l, R⟩ := H
  exact max_two_N O.hnd F N fun h' tk F' N' => PX.here (s := s) ⟨m', nx, fz, F', N', l, R⟩ rpI h
 | min =>
  (refine el_EEEERR (ii (k := fun x y => K (.i (if y < x then y else x)) μ ν) h ha hb) fun x y t u z09 z19 => ?_; subst z09; subst z19; intro h)
  obtain ⟨m', nx, fz, F, N, l, R⟩ := H
  exact min_two_N O.hnd F N fun h' tk F' N' => PX.here (s := s) ⟨m', nx, fz, F', N', l, R⟩ rpI h
 | divmod =>
  (refine el_EEEERR (ii (k := fun x y => (0 < y ∧ Builtin.Int.intBits y ≤ 4000) ∧ K (.o ν.length) μ (ν ++ [SO.tup [.i (x / y), .i (x % y)]])) (show wI a _ from h) ha hb) fun x y t u z09 z19 => ?_; subst z09; subst z19; intro h)
  obtain ⟨m', nx, fz, F, N, l, R⟩ := H
  refine divmod_N F N (Int.ne_of_gt h.1.1) (fun h' F' N' => ?_) (.inl (noPy h.1.2))
  rw [Int.fdiv_eq_ediv_of_nonneg _ (Int.le_of_lt h.1.1), Int.fmod_eq_emod_of_nonneg _ (Int.le_of_lt h.1.1)] at N'
  exact PX.new (tk' := s.toks + 1 + 1) R.len (Hd.fro (so := .tup [.i (x / y), .i (x % y)]) R l rfl F' N' (fun p hp => Nat.ne_of_lt (Heap.lt_size (N p hp).1)) ⟨_, rfl, _, _, rfl, ⟨_, rfl⟩, _, _, rfl, ⟨_, rfl⟩, rfl⟩) h.2
 | _ => exact h.elim
end
end Mine
end
section
namespace Mine
open PySem PySem.W PySem.Calls PySem.Spec PyProof.Rows
theorem my_reverse {prog : Program} {w : World} {A : Around} {E : Value → Shared → Prop} {s : Shared} {h₀ : Heap} {L D : Addr} {m : Str → Option Value} {news news' : List (Addr × Obj)} {vs : List Value} {n : Nat} {Q : Value → Shared → Prop} (F : Fr h₀ L s.heap m) (N : News h₀ L s.heap news) (U : Upd D (listOf vs.toArray n) (listOf vs.reverse.toArray n) news news') (hz : vs.length ≤ 16000000)
  (h : ∀ h', Fr h₀ L h' m → News h₀ L h' news' → Q .none { s with heap := h' }) : wpAny (model prog w) A (call (.builtin "list.reverse") [.ref D]) Q E s :=
 kl_reverse (its := vs.toArray) F N rfl U (by rw [sizeLine_eq]; show vs.length ≤ _; exact Nat.le_trans (by assumption) (by decide)) h
theorem attr_raw (l : Nat) (d : Df) (name : Str) (env : Env) (W : Sem Value) : ∀ t : T, attributeBase (t.raw l d) name env W = W := by intro t; cases t <;> rfl
theorem form0 {l : Nat} {d : Df} (t : T) (name : Str) (c ea e : Nat) (env : Env) :
  eval (.Call (.Attribute (t.raw l d) name ⟨l, c, l, ea⟩) [] [] ⟨l, c, l, e⟩) env = (do
      let ov ← eval (t.raw l d) env
      standAt (Pos.mk l c l ea).atName
      let (f, first) ← holding [ov] (getMethod ov name (do return (← importBound (t.raw l d) env).getD true))
      callWith ⟨l, c, l, e⟩ f first (backTo ⟨l, c, l, e⟩ (starEach [] env)) []) := by
 show (do
   let ov ← attributeBase (t.raw l d) name env (eval (t.raw l d) env)
   standAt (Pos.mk l c l ea).atName
   let (f, first) ← holding [ov] (getMethod ov name (do return (← importBound (t.raw l d) env).getD true))
   let callPos ← (if (l == l) = true then pure ⟨l, c, l, e⟩ else _ : Sem Pos)
   callWith callPos f first (backTo ⟨l, c, l, e⟩ []) []) = _
 rw [attr_raw, if_pos (beq_self_eq_true l)]; rfl
theorem form1 {l : Nat} {d d' : Df} (t a : T) (name : Str) (c ea e : Nat) (env : Env) :
  eval (.Call (.Attribute (t.raw l d) name ⟨l, c, l, ea⟩) [a.raw l d'] [] ⟨l, c, l, e⟩) env = (do
      let ov ← eval (t.raw l d) env
      standAt (Pos.mk l c l ea).atName
      let (f, first) ← holding [ov] (getMethod ov name (do return (← importBound (t.raw l d) env).getD true))
      callWith ⟨l, c, l, e⟩ f first (backTo ⟨l, c, l, e⟩ (starEach [a.raw l d'] env)) []) := by
 rw [star1 (T.plain l d' a)]
 show (do
   let ov ← attributeBase (t.raw l d) name env (eval (t.raw l d) env)
   standAt (Pos.mk l c l ea).atName
   methodCall (t.raw l d) name ⟨l, c, l, ea⟩ ⟨l, c, l, e⟩ env ov 1 (backTo ⟨l, c, l, e⟩ (starEach [a.raw l d'] env)) (backToKw ⟨l, c, l, e⟩ [])) = _
 rw [star1 (T.plain l d' a)]
 show (do
   let ov ← attributeBase (t.raw l d) name env (eval (t.raw l d) env)
   standAt (Pos.mk l c l ea).atName
   let (f, first) ← holding [ov] (getMethod ov name (do return (← importBound (t.raw l d) env).getD true))
   let callPos ← (if (l == l) = true then pure ⟨l, c, l, e⟩ else _ : Sem Pos)
   callWith callPos f first (backTo ⟨l, c, l, e⟩ [(false, eval (a.raw l d') env)]) []) = _
 rw [attr_raw, if_pos (beq_self_eq_true l)]; rfl
noncomputable def flagD : List (Int × PyData) := (List.range 10).map fun i => ((2 ^ i : Int), PyData.str (nameT.getD i ⟨#[]⟩))
theorem flag_at {i : Nat} (h : i < 32) : KTD.datumAt ((2 : Int) ^ i) flagD = nameT[i]?.map PyData.str :=
 List.map_inj_left.mp (show (List.range 32).map (fun i : Nat => KTD.datumAt ((2 : Int) ^ i) flagD) = (List.range 32).map (fun i => nameT[i]?.map PyData.str) from rfl) i (List.mem_range.mpr h)
theorem flag_get {w : World} {E : Value → Shared → Prop} {s : Shared} {Q : Value → Shared → Prop} {prog : Program} {A : Around} {k : Int} {t u : Tok} {i : Nat} (K : KTD.Keyed s.heap 88 flagD) (hi : i < 32) (hk : k = 2 ^ i) (h : ∀ t', Q (.str (nameP i) t') { s with toks := s.toks + 1 }) :
  wpAny (model prog w) A (call (.builtin "dict.get") [.ref 88, .int k t, .str (PySem.baseText "0x" 16 k) u]) Q E s := by
 subst hk
 refine call_get2_intTab (K prog w) (PyProof.V.Flat.str _ _) (fun v hv => ?_)
 rw [KTD.lookup_keyed, flag_at hi] at hv
 unfold nameP at h
 cases e : nameT[i]? with
 | none =>
  rw [e] at h hv
  obtain ⟨t', rfl⟩ := PyProof.V.Flat.str_inv hv
  exact h t'
 | some x =>
  rw [e] at h hv
  obtain ⟨t', rfl⟩ := PyProof.V.Flat.str_inv hv
  exact h t'
theorem flag_look (w : World) : KTD.keyedLook (fun b => List.lookup b (H39 w)) 88 flagD = true := by rfl
theorem form2 {l : Nat} {d d' : Df} (t a b : T) (name : Str) (c ea e : Nat) (env : Env) :
  eval (.Call (.Attribute (t.raw l d) name ⟨l, c, l, ea⟩) [a.raw l d', b.raw l d'] [] ⟨l, c, l, e⟩) env = (do
      let ov ← eval (t.raw l d) env
      standAt (Pos.mk l c l ea).atName
      let (f, first) ← holding [ov] (getMethod ov name (do return (← importBound (t.raw l d) env).getD true))
      callWith ⟨l, c, l, e⟩ f first (backTo ⟨l, c, l, e⟩ (starEach [a.raw l d', b.raw l d'] env)) []) := by
 rw [star1 (T.plain l d' a), star1 (T.plain l d' b)]
 show (do
   let ov ← attributeBase (t.raw l d) name env (eval (t.raw l d) env)
   standAt (Pos.mk l c l ea).atName
   methodCall (t.raw l d) name ⟨l, c, l, ea⟩ ⟨l, c, l, e⟩ env ov 2 (backTo ⟨l, c, l, e⟩ (starEach [a.raw l d', b.raw l d'] env)) (backToKw ⟨l, c, l, e⟩ [])) = _
 rw [star1 (T.plain l d' a), star1 (T.plain l d' b)]
 show (do
   let ov ← attributeBase (t.raw l d) name env (eval (t.raw l d) env)
   standAt (Pos.mk l c l ea).atName
   let (f, first) ← holding [ov] (getMethod ov name (do return (← importBound (t.raw l d) env).getD true))
   let callPos ← (if (l == l) = true then pure ⟨l, c, l, e⟩ else _ : Sem Pos)
   callWith callPos f first (backTo ⟨l, c, l, e⟩ [(false, eval (a.raw l d') env), (false, eval (b.raw l d') env)]) []) = _
 rw [attr_raw, if_pos (beq_self_eq_true l)]; rfl
section
variable {S : Sit} {s s' : Shared} {ad ad' : List Addr} {μ : Mu} {ν : Nu} {K : KV} {a b sv : SV} {v va vb : Value} {h' : Heap} {tk' : Nat}
theorem m0_sound {o : M0} {pos : Pos} {pl : Sem Bool} (h : m0S o a ν fun v ν => K v μ ν) (H : Hd S s.heap ad μ ν) (ha : Rp ad a va) :
  wpS S (getMethod va o.nm pl) (fun fx s₂ => wpS S (callWith pos fx.1 fx.2 (backTo pos (starEach [] S.env)) []) (PX S s ad K) s₂) s := by
 cases o with
 | pop =>
  (refine el_EERAA (wOwn_inv (show wOwn a ν _ from h)) fun k ns z09 => ?_; subst z09; intro hk h1 h2)
  (refine el_EEEEEERAAAAAbEEReA (H.upd hk rfl ha) fun D m' nx fz o f vs n z09 z19 => ?_; subst z09; subst z19; intro F N R hm hi U fin)
  refine kl_method N hm PySem.F.slot_list_pop PySem.F.type_list_pop (callWith_method0 ?_)
  (refine el_EER (ints_snoc hi h1.1) fun vs0 t z09 => ?_; subst z09; intro hi0)
  have hz := hi0.length
  rw [List.length_dropLast] at hz
  exact my_pop F N (updOf U) (by grind only) fun h' F' N' => PX.here (s := s) (tk' := s.toks) (fin _ _ h' rfl (isI hi0) F' N') rpI h2
 | reverse =>
  (refine el_EERAA (wOwn_inv (show wOwn a ν _ from h)) fun k ns z09 => ?_; subst z09; intro hk h1 h2)
  (refine el_EEEEEERAAAAAbEEReA (H.upd hk rfl ha) fun D m' nx fz o f vs n z09 z19 => ?_; subst z09; subst z19; intro F N R hm hi U fin)
  refine kl_method N hm PySem.F.slot_list_reverse PySem.F.type_list_reverse (callWith_method0 ?_)
  exact my_reverse F N (updOf U) (by rw [hi.length]; assumption) fun h' F' N' => PX.here (s := s) (tk' := s.toks) (sv := .v .none) (fin _ (.ints ns.reverse) h' rfl (isI hi.reverse) F' N') rfl h2
 | bits =>
  (refine el_ER (wI_inv (show wI a _ from h)) fun n z09 => ?_; subst z09; intro h1)
  obtain ⟨t, rfl⟩ := ha
  exact getMethod_int_bit_length (callWith_method0 (call_int_bit_length (PX.here (s := s) H rpI h1)))
theorem Is.list {w : World} {h₀ : Heap} {fz : List (Addr × Obj)} {so : SO} {x : Addr} {o : Obj} (h : so.isL = true) (i : Is w h₀ fz ad so x o) : ∃ vs n, o = listOf vs n := by cases so <;> first | (cases h; done) | exact i.elim fun vs i => i.elim fun n i => ⟨_, n, i.1⟩
theorem isL_real {so : SO} (h : so.isL = true) : so.real = true := by cases so <;> first | rfl | cases h
theorem list_meth (H : Hd S s.heap ad μ ν) (hb : listB a ν = true) (ha : Rp ad a va) {pl : Sem Bool} {name : Str} {id : String} (slot : Slot "list" name id) (hty : typeOf (.builtin id) = pure (.type "method_descriptor")) {Q : Value × List Value → Shared → Prop} (hQ : Q (.builtin id, [va]) s) : wpS S (getMethod va name pl) Q s := by
 refine el_EERA (listB_inv hb) fun j so z => ?_
 subst z
 intro hj hso
 refine el_EEEAAA (H.get hj (isL_real hso) ha) fun x o fz e g i z => ?_
 subst e
 refine el_EE (i.list hso) fun vs n e => ?_
 exact getMethod_builtin ⟨_, g, e ▸ rfl⟩ PySem.F.plainAttrs_list slot hty (fun a q => by cases q; exact ⟨_, g, e ▸ rfl⟩) hQ
section
variable {k : Nat} {so so' : SO} {x : Value}
theorem app_gen (H : Hd S s.heap ad μ ν) (hk : ν[k]? = some so) (ho : so.own = true) (ho' : so'.own = true) (hr : Rp ad (.o k) va)
  (hI : ∀ m' nx fz D o, Rel S ad μ ν m' nx fz → Is S.w S.h₀ fz ad so D o → ∃ (vs : List Value) (n : Nat), o = listOf vs.toArray n ∧ vs.length ≤ 16000000 ∧ ∀ n', Is S.w S.h₀ fz ad so' D (listOf (vs ++ [x]).toArray n')) (kk : K (.v .none) μ (ν.set k so')) : wpS S (call (.builtin "list.append") [va, x]) (PX S s ad K) s := by
 refine el_EEEEEEAAAAAAA (H.upd hk ho hr) fun D m' nx fz o f e F N R hm i U fin => ?_
 refine el_EEAA (hI _ _ _ _ _ R i) fun vs n e2 hl h2 => ?_
 subst e e2
 exact append_K F N (updOf U) (fun h' F' N' => PX.here (s := s) (tk' := s.toks) (sv := .v .none) (fin _ so' h' ho' (by rw [List.push_toArray]; exact h2 _) F' N') rfl kk) (by rw [List.size_toArray, sizeLine_eq]; exact Nat.le_trans hl (by decide))
theorem ext_gen {j : Nat} {sj : SO} {vb : Value} (H : Hd S s.heap ad μ ν) (hk : ν[k]? = some so) (ho : so.own = true) (ho' : so'.own = true) (hr : Rp ad (.o k) va) (hj : ν[j]? = some sj) (oj : sj.own = true) (hrj : Rp ad (.o j) vb)
  (hI : ∀ fz D o B ob, Is S.w S.h₀ fz ad so D o → Is S.w S.h₀ fz ad sj B ob → ∃ (vs : List Value) (n : Nat) (ws : List Value) (n2 : Nat), o = listOf vs.toArray n ∧ ob = listOf ws.toArray n2 ∧ vs.length + ws.length ≤ 16000000 ∧ ∀ n', Is S.w S.h₀ fz ad so' D (listOf (vs ++ ws).toArray n')) (kk : K (.v .none) μ (ν.set k so')) : wpS S (call (.builtin "list.extend") [va, vb]) (PX S s ad K) s := by
 refine el_EEEEEEAAAAAAA (H.upd hk ho hr) fun D m' nx fz o f e F N R hm i U fin => ?_
 refine el_EEAA (R.own hj oj) fun B ob e1 i2 e3 => ?_
 refine el_EA hrj fun B' q1 q2 => ?_
 refine el_EEEEAAA (hI _ _ _ _ _ i i2) fun vs n ws n2 e2 e4 hl h2 => ?_
 obtain rfl := Option.some.inj (e1.symm.trans q1)
 subst e q2 e2 e4
 exact my_extend F N (List.mem_append_left _ e3) (updOf U) hl fun h' F' N' => PX.here (s := s) (tk' := s.toks) (sv := .v .none) (fin _ so' h' ho' (h2 _) F' N') rfl kk
end
theorem so_app {so : SO} {k1 : List Int → Prop} {k2 : List Str → Prop} {k3 : List (List Int) → Prop} (h : match so with | .ints ns => k1 ns | .strs xs => k2 xs | .lrows rs => k3 rs | _ => False) : (∃ ns, so = .ints ns ∧ k1 ns) ∨ (∃ xs, so = .strs xs ∧ k2 xs) ∨ ∃ rs, so = .lrows rs ∧ k3 rs := by cases so <;> first | exact .inl ⟨_, rfl, h⟩ | exact .inr (.inl ⟨_, rfl, h⟩) | exact .inr (.inr ⟨_, rfl, h⟩) | exact h.elim
theorem so_ext {so : SO} {k1 : List Int → Prop} {k2 : List (List Int) → Prop} (h : match so with | .ints ns => k1 ns | .rows rs => k2 rs | _ => False) : (∃ ns, so = .ints ns ∧ k1 ns) ∨ ∃ rs, so = .rows rs ∧ k2 rs := by cases so <;> first | exact .inl ⟨_, rfl, h⟩ | exact .inr ⟨_, rfl, h⟩ | exact h.elim
section
variable {vb : Value}
theorem m1_append (h0 : m1S .append a b ν fun v ν => K v μ ν) (H : Hd S s.heap ad μ ν) (ha : Rp ad a va) (r : Rp ad b vb) : wpS S (call (.builtin "list.append") [va, vb]) (PX S s ad K) s := by
 refine el_EERA (wO_inv (show wO a ν _ from h0)) fun k so z => ?_
 clear h0
 subst z
 intro hk h
 rcases so_app h with h | h | h
 ·refine el_EA h fun ns z h1 => ?_
  refine el_EA (wI_inv (show wI b _ from h1)) fun x q h2 => ?_
  clear h1 h
  subst q z
  exact app_gen (so' := .ints (ns ++ [x])) H hk rfl rfl ha (fun _ _ _ _ _ _ i => el_EEA i fun vs n e hi => ⟨vs, n, e, hi.length ▸ h2.1, fun n' => ⟨_, n', rfl, r.elim fun t e => e ▸ hi.append (.cons _ _ .nil)⟩⟩) h2.2
 ·refine el_EA h fun ns z h1 => ?_
  refine el_EA (wS_inv (show wS b _ from h1)) fun x q h2 => ?_
  clear h1 h
  subst q z
  exact app_gen (so' := .strs (ns ++ [x])) H hk rfl rfl ha (fun _ _ _ _ _ _ i => el_EEA i fun vs n e hi => ⟨vs, n, e, (StrsAre.length hi).symm ▸ h2.1, fun n' => ⟨_, n', rfl, r.elim fun t e => e ▸ kct_snoc hi⟩⟩) h2.2
 ·refine el_EA h fun rs z h1 => ?_
  refine el_EEAA (wO_ro h1) fun j ms q hj h2 => ?_
  clear h1 h
  subst q z
  exact app_gen (so' := .lrows (rs ++ [ms])) H hk rfl rfl ha (fun _ _ _ _ _ R i => el_EEA i fun vs n e hi => ⟨vs, n, e, hi.len.symm ▸ h2.1, fun n' => ⟨_, n', rfl, by
   refine el_EEAAbEEAe (R.fro hj (real_ne rfl) rfl) fun B ob ws k2 e1 q hi2 e3 => ?_
   refine el_EA r fun B' e4 q4 => ?_
   obtain rfl := Option.some.inj (e1.symm.trans e4)
   subst q q4
   exact RowsZ.app (show RowsZ _ [.ref B] [ms] from ⟨B, ws, k2, [], rfl, e3, hi2, rfl⟩) hi⟩⟩) h2.2
theorem m1_extend (h0 : m1S .extend a b ν fun v ν => K v μ ν) (H : Hd S s.heap ad μ ν) (ha : Rp ad a va) (r : Rp ad b vb) : wpS S (call (.builtin "list.extend") [va, vb]) (PX S s ad K) s := by
 refine el_EERA (wO_inv (show wO a ν _ from h0)) fun k so z => ?_
 clear h0
 subst z
 intro hk h
 rcases so_ext h with h | h
 ·refine el_EA h fun ns z h1 => ?_
  refine el_EEAA (wOwn_inv (show wOwn b ν _ from h1)) fun j ms q hj h2 => ?_
  clear h1 h
  subst q z
  exact ext_gen (so' := .ints (ns ++ ms)) H hk rfl rfl ha hj rfl r (fun _ _ _ _ _ i i2 => el_EEA i fun vs n e hi => el_EEA i2 fun ws n2 e2 hi2 => ⟨vs, n, ws, n2, e, e2, hi.length ▸ hi2.length ▸ h2.1, fun n' => ⟨_, n', rfl, hi.append hi2⟩⟩) h2.2
 ·refine el_EA h fun rs z h1 => ?_
  refine el_EEAA (wO_rows h1) fun j qs q hj h2 => ?_
  clear h1 h
  subst q z
  exact ext_gen (so' := .rows (rs ++ qs)) H hk rfl rfl ha hj rfl r (fun _ _ _ _ _ i i2 => el_EEA i fun vs n e hi => el_EEA i2 fun ws n2 e2 hi2 => ⟨vs, n, ws, n2, e, e2, hi.len.symm ▸ hi2.len.symm ▸ h2.1, fun n' => ⟨_, n', rfl, hi2.app hi⟩⟩) h2.2
theorem m1_count (h0 : m1S .count a b ν fun v ν => K v μ ν) (H : Hd S s.heap ad μ ν) (ha : Rp ad a va) (r : Rp ad b vb) : wpS S (call (.builtin "list.count") [va, vb]) (PX S s ad K) s := by
 refine el_EEAA (wL_inv (show wL a ν _ from h0)) fun j ns z hk h => ?_
 refine el_EA (wI_inv h) fun x q h => ?_
 clear h0
 subst z q
 refine el_EEAA (H.isL hk ha) fun D ws z hl hi => ?_
 refine Exists.elim r fun t q => ?_
 subst z q
 exact count_list_ints hl hi (PX.here (s := s) H rpI h)
theorem m1_join {x : Str} (h0 : m1S .join (.s x) b ν fun v ν => K v μ ν) (H : Hd S s.heap ad μ ν) {t : Tok} (r : Rp ad b vb) : wpS S (call (.builtin "str.join") [.str x t, vb]) (PX S s ad K) s := by
 refine el_EEAA (wO_strs (show wO b ν _ from h0)) fun j xs z hj h => ?_
 clear h0
 subst z
 refine el_EEEAAA (H.get hj rfl r) fun B o fz q g i _ => ?_
 refine el_EEA i fun ws k2 e hi2 => ?_
 subst q e
 exact join_list (items := ws.toArray) ⟨_, g, rfl, _, rfl⟩ hi2 h.1 fun t' k => PX.here (s := s) H rpS h.2
end
theorem m1_get {o : M1} {pl : Sem Bool} (h : recvB o a ν = true) (H : Hd S s.heap ad μ ν) (ha : Rp ad a va) : ∃ id, (∀ Q : Value × List Value → Shared → Prop, Q (.builtin id, [va]) s → wpS S (getMethod va o.nm pl) Q s) ∧
  ∀ {K : KV} {μ : Mu} {ν : Nu} {b : SV} {vb : Value} {s : Shared} {ad' : List Addr}, Le ad ad' → (m1S o a b ν fun v ν => K v μ ν) → Hd S s.heap ad' μ ν → Rp ad' b vb → wpS S (call (.builtin id) [va, vb]) (PX S s ad' K) s := by
 cases o with
 | append => exact ⟨"list.append", fun Q => list_meth H h ha slot_list_append PySem.F.type_list_append, fun l h H r => m1_append h H (ha.up l) r⟩
 | extend => exact ⟨"list.extend", fun Q => list_meth H h ha PySem.F.slot_list_extend PySem.F.type_list_extend, fun l h H r => m1_extend h H (ha.up l) r⟩
 | count => exact ⟨"list.count", fun Q => list_meth H h ha PySem.F.slot_list_count PySem.F.type_list_count, fun l h H r => m1_count h H (ha.up l) r⟩
 | join =>
  cases a with
  | s x => exact Exists.elim ha fun t q => q ▸ ⟨"str.join", fun Q hQ => PySem.GM.join hQ, fun l h H r => m1_join h H r⟩
  | _ => exact absurd (show false = true from h) Bool.false_ne_true
end
end Mine
end
section
namespace Mine
open PySem PySem.W PySem.Calls PySem.Spec PyProof.Rows
section
variable {S : Sit} {s s' : Shared} {ad ad' : List Addr} {μ : Mu} {ν : Nu} {K : KV} {a b sv : SV} {v va vb : Value} {h h' : Heap} {tk' : Nat} {m m' : Str → Option Value} {nx fz : List (Addr × Obj)}
noncomputable abbrev Sit.el (S : Sit) (cd : CD) (cl : List (Str × Addr)) (C : Addr) (pin own : List (Addr × Obj)) : Sit := { S with env := compEnvC cd.sc cl C S.env, d := { F := cd.F }, pin := pin, own := own }
theorem roO_own (so : SO) : (roO so).own = false := by
 cases so with
 | cell sv => cases sv <;> rfl
 | _ => rfl
theorem roO_fsh {so : SO} (h : (roO so).fsh = true) : so.fsh = true := by
 cases so with
 | cell sv => cases sv <;> cases h
 | _ => first | exact h | cases h
theorem okEl (O : Ok S) {cd : CD} {cl : List (Str × Addr)} (hn : ∀ C, NmOk S.w (compEnvC cd.sc cl C S.env) cd.F) (h1 : cd.F.ns = [cd.x]) (C : Addr) (pin own : List (Addr × Obj)) : Ok (S.el cd cl C pin own) :=
 ⟨hn C, by show cd.F.ns.Nodup; rw [h1]; exact List.nodup_cons.mpr ⟨List.not_mem_nil, List.nodup_nil⟩, O.hnd, O.units, O.rdy, fun _ _ _ _ _ _ _ _ _ _ _ h => h.elim, fun _ h => nomatch h⟩
theorem relEl (R : Rel S ad μ ν m' nx fz) {cd : CD} {cl : List (Str × Addr)} {C : Addr} {pin own : List (Addr × Obj)} {m₂ : Str → Option Value} (h1 : cd.F.ns = [cd.x]) (hx : m₂ cd.x = some v) (r : Rp ad sv v) (hp1 : ∀ q ∈ nx, q ∈ pin) (hp2 : ∀ q ∈ fz, q ∈ pin) (hoz : ∀ p ∈ pin, ∀ q ∈ own, p.1 ≠ q.1)
  (hc : ∀ p ∈ cd.F.cs, p ∈ S.d.F.cs ∧ cl.lookup p.2 = S.env.cells.lookup p.2) : Rel (S.el cd cl C pin own) ad [sv] (ν.map roO) m₂ [] pin := by
 refine ⟨by show 1 = cd.F.ns.length; rw [h1]; rfl, fun i sv' x e1 e2 => ?_, by rw [List.length_map]; exact R.len, fun k so hk hj => ?_, List.nodup_nil, (fun _ h => nomatch h), hoz, fun j k so so' a _ hj _ ho => ?_, fun _ h => h, fun p hpc => ?_⟩
 ·change cd.F.ns[i]? = some x at e2
  rw [h1] at e2
  cases i with
  | zero => cases e1; cases e2; exact .inr ⟨v, hx, r⟩
  | succ i => cases e1
 ·rw [List.getElem?_map] at hk
  cases e : ν[k]? with
  | none => rw [e] at hk; cases hk
  | some so₀ =>
   rw [e] at hk; cases hk
   have hj₀ : so₀ ≠ .junk := fun q => by rw [q] at hj; exact hj rfl
   refine el_EEAA (R.pl k so₀ e hj₀) fun a o e1 e2 e3 => ?_
   refine ⟨a, o, e1, ?_, ?_⟩
   ·cases so₀ with
    | «ints» ns => exact e2
    | cell sv => cases sv with
     | u => exact absurd rfl hj
     | _ => exact e2
    | ro ns => exact e2
    | rrows rs => exact Is.up Le.refl hp2 e2
    | fcell sv => exact e2
    | tup svs => exact e2
    | ti ns => exact e2
    | ws n b nt cnt => exact Is.up Le.refl hp2 e2
    | nrm cnt b => exact Is.up Le.refl hp2 e2
    | fn q os => exact Is.up Le.refl hp2 e2
    | _ => exact absurd rfl hj
   ·rw [if_neg (by rw [roO_own]; exact Bool.false_ne_true)]
    by_cases ho : so₀.own = true
    ·rw [if_pos ho] at e3; exact ⟨fun _ => hp1 _ e3, .inr (hp1 _ e3)⟩
    ·rw [if_neg ho] at e3; exact ⟨fun h => hp2 _ (e3.1 (roO_fsh h)), e3.2.up hp2⟩
 ·rw [List.getElem?_map] at hj
  cases e : ν[j]? with
  | none => rw [e] at hj; cases hj
  | some so₀ => rw [e] at hj; cases hj; exact absurd ho (by rw [roO_own]; exact Bool.false_ne_true)
 ·obtain ⟨q1, q2⟩ := hc p hpc
  refine el_EA (R.cells p q1) fun c e1 e2 => ?_
  exact ⟨c, q2.trans e1, e2⟩
noncomputable def Res (k : CK) (fz : List (Addr × Obj)) (fI : Nat → Int) (fS : Nat → Str) (fR : Nat → List Int) (is : List Nat) (ys : List Value) : Prop := match k with
 | .ints => IntsAre ys (is.map fI)
 | .strs => StrsAre ys (is.map fS)
 | .rows => RowsZ (fun a o => (a, o) ∈ fz) ys (is.map fR)
noncomputable def Elt (k : CK) (fI : Nat → Int) (fS : Nat → Str) (fR : Nat → List Int) (i : Nat) : KV := fun sv _ ν' => match k with
 | .ints => sv = .i (fI i)
 | .strs => sv = .s (fS i)
 | .rows => ∃ j, sv = .o j ∧ ν'[j]? = some (.ints (fR i))
theorem RowsZ.at {Z : Addr → Obj → Prop} {rs : List (List Int)} : ∀ {vs : List Value}, RowsZ Z vs rs → ∀ (i : Nat) (v : Value), vs[i]? = some v → ∃ a ws k, v = .ref a ∧ Z a (listOf ws.toArray k) ∧ IntsAre ws (rs.getD i []) := by
 induction rs with
 | nil => rintro vs rfl i v e; cases e
 | cons r rs ih =>
  intro vs q19; (refine el_EEEERAA q19 fun a ws k tl z09 => ?_; try clear q19; subst z09; intro h1 h2 h3); intro i v e
  cases i with
  | zero => cases e; exact ⟨a, ws, k, rfl, h1, h2⟩
  | succ i => exact ih h3 i v e
theorem Res.zero {k : CK} {fI : Nat → Int} {fS : Nat → Str} {fR : Nat → List Int} : Res k fz fI fS fR [] [] := by
 cases k
 ·exact .nil
 ·exact .nil
 ·exact rfl
theorem Res.up {k : CK} {fI : Nat → Int} {fS : Nat → Str} {fR : Nat → List Int} {is : List Nat} {ys : List Value} {ext : List (Addr × Obj)} (h : Res k fz fI fS fR is ys) : Res k (ext ++ fz) fI fS fR is ys := by
 cases k with
 | rows => exact RowsZ.up (fun a o => List.mem_append_right _) h
 | _ => exact h
theorem Res.succ {k : CK} {fI : Nat → Int} {fS : Nat → Str} {fR : Nat → List Int} {i : Nat} {is : List Nat} {ys : List Value} {y : Value} {nx' fz' : List (Addr × Obj)} (h : Res k fz fI fS fR is ys) (R : Rel S ad' μ ν m nx' fz') (r : Rp ad' sv y) (e : Elt k fI fS fR i sv μ ν) :
  ∃ ext, (∀ q ∈ ext, q ∈ nx') ∧ Res k (ext ++ fz) fI fS fR (is ++ [i]) (ys ++ [y]) := by
 cases k with
 | «ints» =>
  cases (show sv = .i (fI i) from e)
  obtain ⟨t, rfl⟩ := r
  exact ⟨[], (fun _ h => nomatch h), by show IntsAre _ _; rw [List.map_append]; exact IntsAre.append h (.cons _ _ .nil)⟩
 | «strs» =>
  cases (show sv = .s (fS i) from e)
  obtain ⟨t, rfl⟩ := r
  exact ⟨[], (fun _ h => nomatch h), by show StrsAre _ _; rw [List.map_append]; exact kct_snoc h⟩
 | rows =>
  (refine el_ER e fun j z09 => ?_; try clear e; subst z09; intro hj)
  (refine el_EAr r fun x z09 => ?_; try clear r; subst z09; intro e1)
  (refine el_EEAAbEERe (R.own hj rfl) fun D o vs n z09 => ?_; subst z09; intro e2 hi e3)
  obtain rfl := Option.some.inj (e1.symm.trans e2)
  refine ⟨[(x, listOf vs.toArray n)], fun q hq => by rw [List.mem_singleton.mp hq]; exact e3, ?_⟩
  show RowsZ _ _ _
  rw [List.map_append]
  exact RowsZ.app (show RowsZ _ [.ref x] [fR i] from ⟨x, vs, n, [], rfl, List.mem_cons_self, hi, rfl⟩) (RowsZ.up (fun a o => List.mem_cons_of_mem _) h)
noncomputable def compE (k : CK) (is : List Nat) (fI : Nat → Int) (fS : Nat → Str) (fR : Nat → List Int) (K : KV) (μ : Mu) (ν : Nu) : Prop := match k with
 | .ints => newI ν (is.map fI) fun v ν => K v μ ν
 | .strs => K (.o ν.length) μ (ν ++ [.strs (is.map fS)])
 | .rows => K (.o ν.length) μ (ν ++ [.rows (is.map fR)])
theorem compK_inv {k : CK} {n : Nat} {el : Nat → KV → KP} {va : Nat → SV} (h : compK k n el va K μ ν) : ∃ fI fS fR, (∀ i, i < n → el i (Elt k fI fS fR i) [va i] (ν.map roO)) ∧ compE k (List.range n) fI fS fR K μ ν := by
 cases k with
 | «ints» => (refine el_EA h fun f => ?_; try clear h; intro h1 h2); exact ⟨f, fun _ => Str.empty, fun _ => [], h1, h2⟩
 | «strs» => (refine el_EA h fun f => ?_; try clear h; intro h1 h2); exact ⟨fun _ => 0, f, fun _ => [], h1, h2⟩
 | rows => (refine el_EA h fun f => ?_; try clear h; intro h1 h2); exact ⟨fun _ => 0, fun _ => Str.empty, f, h1, h2⟩
theorem compKF_inv {k : CK} {n : Nat} {tst el : KV → KP} {va : Nat → SV} (h : compKF k n tst el va K μ ν) : ∃ q fI fS fR, (∀ i, i < n → tst (tstK (q i) (el (Elt k fI fS fR i))) [va i] (ν.map roO)) ∧ compE k ((List.range n).filter q) fI fS fR K μ ν := by
 obtain ⟨q, h⟩ := h
 cases k with
 | «ints» => (refine el_EA h fun f => ?_; try clear h; intro h1 h2); exact ⟨q, f, fun _ => Str.empty, fun _ => [], h1, h2⟩
 | «strs» => (refine el_EA h fun f => ?_; try clear h; intro h1 h2); exact ⟨q, fun _ => 0, f, fun _ => [], h1, h2⟩
 | rows => exact h.elim
noncomputable def JC (S : Sit) (ad : List Addr) (μ : Mu) (ν : Nu) (m' : Str → Option Value) (nx fz : List (Addr × Obj)) (k : CK) (fI : Nat → Int) (fS : Nat → Str) (fR : Nat → List Int) (is : List Nat) (ys : List Value) (nw : List (Addr × Obj)) : Prop :=
 ∃ fz', nw = ledg S nx fz' ∧ (∀ q ∈ fz, q ∈ fz') ∧ Rel S ad μ ν m' nx fz' ∧ Loc S m' ∧ Res k fz' fI fS fR is ys
theorem comp_hoz {J : Addr} {oJ : Obj} {C : Addr} {oC : Obj} {D : Addr} {oD : Obj} {fz1 : List (Addr × Obj)} (R : Rel S ad μ ν m' nx fz1) (off : LCg.Off3 J C D (ledg S nx fz1)) : ∀ p ∈ nx ++ fz1, ∀ q ∈ (J, oJ) :: (C, oC) :: (D, oD) :: S.own, p.1 ≠ q.1 := fun p hp q hq => by
 have o3 := off.mem
 have hp' : p ∈ ledg S nx fz1 := (List.mem_append.mp hp).elim (List.mem_append_left _) fun h => List.mem_append_right _ (List.mem_append_left _ h)
 simp only [List.mem_cons] at hq
 rcases hq with rfl | rfl | rfl | hq
 ·exact (o3 p hp').1
 ·exact (o3 p hp').2.1
 ·exact (o3 p hp').2.2
 ·exact (List.mem_append.mp hp).elim (fun h => R.off p h q (List.mem_append_right _ hq)) fun h => R.offz p h q hq
theorem comp_done {cd : CD} {cl : List (Str × Addr)} {J : Addr} {oJ : Obj} {C : Addr} {oC : Obj} {D : Addr} {oD : Obj} {fz1 fz2 nx2 ext : List (Addr × Obj)} {ad2 : List Addr} {μ2 : Mu} {ν2 : Nu} {m3 : Str → Option Value} {tk tk2 : Nat} {h2 : Heap} {Sr : List (Addr × Obj) → Prop} {y : Value} {X : Value → List (Addr × Obj) → Prop}
  (hS : ∀ l, (∀ q ∈ ledg S nx fz, q ∈ l) → Sr l) (hz : ∀ q ∈ fz, q ∈ fz1) (R : Rel S ad μ ν m' nx fz1) (off : LCg.Off3 J C D (ledg S nx fz1))
  (F2 : Fr S.h₀ S.L h2 S.fm) (N2 : News S.h₀ S.L h2 (nx2 ++ (fz2 ++ ((J, oJ) :: (C, oC) :: (D, oD) :: S.own)))) (R2 : Rel (S.el cd cl C (nx ++ fz1) ((J, oJ) :: (C, oC) :: (D, oD) :: S.own)) ad2 μ2 ν2 m3 nx2 fz2) (x1 : ∀ q ∈ ext, q ∈ nx2)
  (hX : (∀ q ∈ fz, q ∈ ext ++ fz1) → Rel S ad μ ν m' nx (ext ++ fz1) → X y (ledg S nx (ext ++ fz1))) : LCg.CompEnd S.h₀ S.L S.fm { s with heap := h, toks := tk } J oJ C oC D oD Sr X y { ({ s with heap := h, toks := tk } : Shared) with heap := h2, toks := tk2 } := by
 have hoz := comp_hoz (oJ := oJ) (oC := oC) (oD := oD) R off
 have o3 := off.mem
 have pin : ∀ q ∈ nx ++ fz1, q ∈ fz2 := R2.pin
 have own : ∀ q ∈ (J, oJ) :: (C, oC) :: (D, oD) :: S.own, q ∈ nx2 ++ (fz2 ++ ((J, oJ) :: (C, oC) :: (D, oD) :: S.own)) := fun q hq => List.mem_append_right _ (List.mem_append_right _ hq)
 have mem : ∀ q ∈ ledg S nx (ext ++ fz1), q ∈ ext ∨ q ∈ nx ++ fz1 ∨ q ∈ S.own := fun q hq => by
  simp only [ledg, List.mem_append] at hq ⊢; grind
 refine ⟨h2, tk2, ledg S nx (ext ++ fz1), rfl, F2, fun q hq => N2 q ?_, LCg.Off3.of fun q hq => ?_, hS _ fun q hq => ?_, hX (fun q hq => List.mem_append_right _ (hz q hq)) (R.more (fun q hq => List.mem_append_right _ hq) (fun p hp q hq => ?_) (fun p hp q hq => ?_))⟩
 ·simp only [List.mem_cons] at hq
  rcases hq with rfl | rfl | rfl | hq
  ·exact own _ List.mem_cons_self
  ·exact own _ (List.mem_cons_of_mem _ List.mem_cons_self)
  ·exact own _ (List.mem_cons_of_mem _ (List.mem_cons_of_mem _ List.mem_cons_self))
  ·rcases mem q hq with hq | hq | hq
   ·exact List.mem_append_left _ (x1 q hq)
   ·exact List.mem_append_right _ (List.mem_append_left _ (pin q hq))
   ·exact own _ (List.mem_cons_of_mem _ (List.mem_cons_of_mem _ (List.mem_cons_of_mem _ hq)))
 ·rcases mem q hq with hq | hq | hq
  ·have := fun p hp => R2.off q (x1 q hq) p (List.mem_append_right _ hp)
   exact ⟨this _ List.mem_cons_self, this _ (List.mem_cons_of_mem _ List.mem_cons_self), this _ (List.mem_cons_of_mem _ (List.mem_cons_of_mem _ List.mem_cons_self))⟩
  ·exact ⟨hoz q hq _ List.mem_cons_self, hoz q hq _ (List.mem_cons_of_mem _ List.mem_cons_self), hoz q hq _ (List.mem_cons_of_mem _ (List.mem_cons_of_mem _ List.mem_cons_self))⟩
  ·exact o3 q (List.mem_append_right _ (List.mem_append_right _ hq))
 ·simp only [ledg, List.mem_append] at hq ⊢; have := hz q; grind
 ·rcases List.mem_append.mp hq with hq | hq
  ·rcases List.mem_append.mp hq with hq | hq
   ·exact Ne.symm (R2.off q (x1 q hq) p (List.mem_append_left _ (pin p (List.mem_append_left _ hp))))
   ·exact R.off p hp q (List.mem_append_left _ hq)
  ·exact R.off p hp q (List.mem_append_right _ hq)
 ·rcases List.mem_append.mp hp with hp | hp
  ·exact R2.off p (x1 p hp) q (List.mem_append_right _ (List.mem_cons_of_mem _ (List.mem_cons_of_mem _ (List.mem_cons_of_mem _ hq))))
  ·exact R.offz p hp q hq
theorem comp_start {cd : CD} {cl : List (Str × Addr)} (h1 : cd.F.ns = [cd.x]) (hc : ∀ p ∈ cd.F.cs, p ∈ S.d.F.cs ∧ cl.lookup p.2 = S.env.cells.lookup p.2) (r : Rp ad sv v) {J : Addr} {oJ : Obj} {C : Addr} {oC : Obj} {D : Addr} {oD : Obj} {m₂ : Str → Option Value} {fz1 : List (Addr × Obj)} (R : Rel S ad μ ν m' nx fz1) (hC : LCg.NsObj oC m₂) (hx : m₂ cd.x = some v)
  (F : Fr S.h₀ S.L h S.fm) (N : News S.h₀ S.L h ((J, oJ) :: (C, oC) :: (D, oD) :: ledg S nx fz1)) (off : LCg.Off3 J C D (ledg S nx fz1)) : Hd (S.el cd cl C (nx ++ fz1) ((J, oJ) :: (C, oC) :: (D, oD) :: S.own)) h ad [sv] (ν.map roO) :=
 ⟨m₂, [], _, F, fun q hq => N q (by simp only [ledg, List.nil_append, List.mem_append, List.mem_cons] at hq ⊢; grind), .inr ⟨oC, List.mem_cons_of_mem _ List.mem_cons_self, hC⟩, relEl R h1 hx r (fun q hq => List.mem_append_left _ hq) (fun q hq => List.mem_append_right _ hq) (comp_hoz R off) hc⟩
theorem comp_turn (O : Ok S) {cd : CD} {cl : List (Str × Addr)} (hn : ∀ C, NmOk S.w (compEnvC cd.sc cl C S.env) cd.F) (h1 : cd.F.ns = [cd.x]) (hc : ∀ p ∈ cd.F.cs, p ∈ S.d.F.cs ∧ cl.lookup p.2 = S.env.cells.lookup p.2)
  {k : CK} {fI : Nat → Int} {fS : Nat → Str} {fR : Nat → List Int} {i : Nat} {is : List Nat} {ys : List Value} {nw : List (Addr × Obj)} {e : PySem.Expr} {f : KV → KP} (I : ∀ S' : Sit, Ok S' → S'.d = { F := cd.F } → Ev S' e f) (hel : f (Elt k fI fS fR i) [sv] (ν.map roO)) (r : Rp ad sv v)
  {J : Addr} {oJ : Obj} {C : Addr} {oC : Obj} {D : Addr} {m₂ : Str → Option Value} {tk : Nat} {E' : Value → Shared → Prop} {Sr : List (Addr × Obj) → Prop} (hS : ∀ l, (∀ q ∈ ledg S nx fz, q ∈ l) → Sr l)
  (hJ : JC S ad μ ν m' nx fz k fI fS fR is ys nw) (hC : LCg.NsObj oC m₂) (hx : m₂ cd.x = some v) (F : Fr S.h₀ S.L h S.fm) (N : News S.h₀ S.L h ((J, oJ) :: (C, oC) :: (D, LCg.lst ys) :: nw)) (off : LCg.Off3 J C D nw) :
  wpAny (model P0 S.w) S.A (eval e (compEnvC cd.sc cl C S.env)) (LCg.CompEnd S.h₀ S.L S.fm { s with heap := h, toks := tk } J oJ C oC D (LCg.lst ys) Sr (fun y nw' => JC S ad μ ν m' nx fz k fI fS fR (is ++ [i]) (ys ++ [y]) nw')) E' { s with heap := h, toks := tk } := by
 (refine el_ERAAA hJ fun fz1 z09 => ?_; try clear hJ; subst z09; intro hz R l res)
 refine wpAny_mono (I _ (okEl O hn h1 C _ _) rfl _ _ _ ({ s with heap := h, toks := tk } : Shared) _ hel (comp_start h1 hc r R hC hx F N off)) ?_ fun _ _ x => x.elim
 intro y _ q19; obtain ⟨ad2, sv2, μ2, ν2, ⟨h2, tk2, rfl⟩, le, ⟨m3', nx2, fz2, F2, N2, l2, R2⟩, r2, k2⟩ := q19
 refine el_EA (Res.succ (S := S.el cd cl C (nx ++ fz1) ((J, oJ) :: (C, oC) :: (D, LCg.lst ys) :: S.own)) (fz := fz1) res R2 r2 k2) fun ext x1 x2 => ?_
 exact comp_done hS hz R off F2 N2 R2 x1 fun a b => ⟨ext ++ fz1, rfl, a, b, l, x2⟩
theorem comp_turnR (O : Ok S) {cd : CD} {cl : List (Str × Addr)} (hn : ∀ C, NmOk S.w (compEnvC cd.sc cl C S.env) cd.F) (h1 : cd.F.ns = [cd.x]) (hc : ∀ p ∈ cd.F.cs, p ∈ S.d.F.cs ∧ cl.lookup p.2 = S.env.cells.lookup p.2)
  {k : CK} {fI : Nat → Int} {fS : Nat → Str} {fR : Nat → List Int} {i : Nat} {is : List Nat} {ys : List Value} {nw : List (Addr × Obj)} {e : PySem.Expr} {f : KV → KP} (I : ∀ S' : Sit, Ok S' → S'.d = { F := cd.F } → Ev S' e f) {a : Addr} {ws : List Value} {kw : Nat} {row : List Int} (hw : (a, listOf ws.toArray kw) ∈ fz) (hi : IntsAre ws row) (hel : f (Elt k fI fS fR i) [.o ν.length] (ν.map roO ++ [.ro row]))
  {J : Addr} {oJ : Obj} {C : Addr} {oC : Obj} {D : Addr} {m₂ : Str → Option Value} {tk : Nat} {E' : Value → Shared → Prop} {Sr : List (Addr × Obj) → Prop} (hS : ∀ l, (∀ q ∈ ledg S nx fz, q ∈ l) → Sr l)
  (hJ : JC S ad μ ν m' nx fz k fI fS fR is ys nw) (hC : LCg.NsObj oC m₂) (hx : m₂ cd.x = some (.ref a)) (F : Fr S.h₀ S.L h S.fm) (N : News S.h₀ S.L h ((J, oJ) :: (C, oC) :: (D, LCg.lst ys) :: nw)) (off : LCg.Off3 J C D nw) :
  wpAny (model P0 S.w) S.A (eval e (compEnvC cd.sc cl C S.env)) (LCg.CompEnd S.h₀ S.L S.fm { s with heap := h, toks := tk } J oJ C oC D (LCg.lst ys) Sr (fun y nw' => JC S ad μ ν m' nx fz k fI fS fR (is ++ [i]) (ys ++ [y]) nw')) E' { s with heap := h, toks := tk } := by
 (refine el_ERAAA hJ fun fz1 z09 => ?_; try clear hJ; subst z09; intro hz R l res)
 have R2 : Rel S (ad ++ [a]) μ (ν ++ [.ro row]) m' nx fz1 := R.add (fun _ h => h) (fun _ => ⟨ws, kw, rfl, hi⟩) (by rw [if_neg (show ¬ (SO.ro row).own = true from Bool.false_ne_true)]; exact ⟨rfl, .inr ⟨(fun q => by cases q), .inr (hz _ hw)⟩⟩) R.off R.offz
 have H := comp_start h1 hc (sv := .o ν.length) (rpO (by rw [← R.len]; exact List.getElem?_concat_length)) R2 hC hx F N off
 rw [List.map_append] at H
 refine wpAny_mono (I _ (okEl O hn h1 C _ _) rfl _ _ _ ({ s with heap := h, toks := tk } : Shared) _ hel H) ?_ fun _ _ x => x.elim
 intro y _ q19; obtain ⟨ad2, sv2, μ2, ν2, ⟨h2, tk2, rfl⟩, le, ⟨m3', nx2, fz2, F2, N2, l2, R3⟩, r2, k2⟩ := q19
 refine el_EA (Res.succ (S := S.el cd cl C (nx ++ fz1) ((J, oJ) :: (C, oC) :: (D, LCg.lst ys) :: S.own)) (fz := fz1) res R3 r2 k2) fun ext x1 x2 => ?_
 exact comp_done hS hz R off F2 N2 R3 x1 fun a b => ⟨ext ++ fz1, rfl, a, b, l, x2⟩
theorem comp_turnT (O : Ok S) {cd : CD} {cl : List (Str × Addr)} (hn : ∀ C, NmOk S.w (compEnvC cd.sc cl C S.env) cd.F) (h1 : cd.F.ns = [cd.x]) (hc : ∀ p ∈ cd.F.cs, p ∈ S.d.F.cs ∧ cl.lookup p.2 = S.env.cells.lookup p.2)
  {k : CK} {fI : Nat → Int} {fS : Nat → Str} {fR : Nat → List Int} {q : Nat → Bool} {i : Nat} {ys : List Value} {nw : List (Addr × Obj)} {e ct : PySem.Expr} {f tf : KV → KP} (I : ∀ S' : Sit, Ok S' → S'.d = { F := cd.F } → Ev S' e f) (It : ∀ S' : Sit, Ok S' → S'.d = { F := cd.F } → Ts S' ct tf) (hel : tf (tstK (q i) (f (Elt k fI fS fR i))) [sv] (ν.map roO)) (r : Rp ad sv v)
  {J : Addr} {oJ : Obj} {C : Addr} {oC : Obj} {D : Addr} {m₂ : Str → Option Value} {tk : Nat} {E' : Value → Shared → Prop} {Sr : List (Addr × Obj) → Prop} (hS : ∀ l, (∀ q ∈ ledg S nx fz, q ∈ l) → Sr l)
  (hJ : JC S ad μ ν m' nx fz k fI fS fR ((List.range i).filter q) ys nw) (hC : LCg.NsObj oC m₂) (hx : m₂ cd.x = some v) (F : Fr S.h₀ S.L h S.fm) (N : News S.h₀ S.L h ((J, oJ) :: (C, oC) :: (D, LCg.lst ys) :: nw)) (off : LCg.Off3 J C D nw) :
  wpAny (model P0 S.w) S.A (isTrue ct (compEnvC cd.sc cl C S.env) (eval ct (compEnvC cd.sc cl C S.env))) (fun b s' => if b = true then
   wpAny (model P0 S.w) S.A (eval e (compEnvC cd.sc cl C S.env)) (LCg.CompEnd S.h₀ S.L S.fm { s with heap := h, toks := tk } J oJ C oC D (LCg.lst ys) Sr (fun y nw' => JC S ad μ ν m' nx fz k fI fS fR ((List.range (i + 1)).filter q) (ys ++ [y]) nw')) E' s'
   else LCg.CompEnd S.h₀ S.L S.fm { s with heap := h, toks := tk } J oJ C oC D (LCg.lst ys) Sr (fun _ nw' => JC S ad μ ν m' nx fz k fI fS fR ((List.range (i + 1)).filter q) ys nw') Value.none s') E' { s with heap := h, toks := tk } := by
 (refine el_ERAAA hJ fun fz1 z09 => ?_; try clear hJ; subst z09; intro hz R l res)
 have filt : (List.range (i + 1)).filter q = (List.range i).filter q ++ if q i = true then [i] else [] := by
  rw [List.range_succ, List.filter_append]; congr 1
  cases h : q i <;> simp [h]
 refine wpAny_mono (It _ (okEl O hn h1 C _ _) rfl _ _ _ ({ s with heap := h, toks := tk } : Shared) _ hel (comp_start h1 hc r R hC hx F N off)) ?_ fun _ _ x => x.elim
 intro b _ q19; obtain ⟨ad2, sv2, μ2, ν2, ⟨h2, tk2, rfl⟩, le, H2, r2, k2⟩ := q19
 cases sv2 with
 | b c =>
  have e2 : Value.bool b = Value.bool c := r2
  cases e2
  cases b with
  | true =>
   rw [if_pos rfl, filt, if_pos k2.1]
   refine wpAny_mono (I _ (okEl O hn h1 C _ _) rfl _ _ _ _ _ k2.2 H2) ?_ fun _ _ x => x.elim
   intro y _ q19; obtain ⟨ad3, sv3, μ3, ν3, ⟨h3, tk3, rfl⟩, le3, ⟨m3', nx2, fz2, F2, N2, l2, R2⟩, r3, k3⟩ := q19
   refine el_EA (Res.succ (S := S.el cd cl C (nx ++ fz1) ((J, oJ) :: (C, oC) :: (D, LCg.lst ys) :: S.own)) (fz := fz1) res R2 r3 k3) fun ext x1 x2 => ?_
   exact comp_done hS hz R off F2 N2 R2 x1 fun a b => ⟨ext ++ fz1, rfl, a, b, l, x2⟩
  | false =>
   have k3 : q i = false := k2
   rw [if_neg Bool.false_ne_true, filt, if_neg (by rw [k3]; exact Bool.false_ne_true), List.append_nil]
   obtain ⟨m3', nx2, fz2, F2, N2, l2, R2⟩ := H2
   exact comp_done (ext := []) hS hz R off F2 N2 R2 (fun _ h => nomatch h) fun a b => ⟨[] ++ fz1, rfl, a, b, l, res.up⟩
 | _ => exact k2.elim
theorem comp_rel {k : CK} {n : List Nat} {fI : Nat → Int} {fS : Nat → Str} {fR : Nat → List Int} {ys : List Value} {nw : List (Addr × Obj)} {D : Addr} (hJ : JC S ad μ ν m' nx fz k fI fS fR n ys nw) (off : LCg.Off1 D nw) (hK : compE k n fI fS fR K μ ν) :
  ∃ so fz1, nw = ledg S nx fz1 ∧ Rel S (ad ++ [D]) μ (ν ++ [so]) m' ((D, LCg.lst ys) :: nx) fz1 ∧ Loc S m' ∧ K (.o ν.length) μ (ν ++ [so]) ∧ ad.length = ν.length := by
 (refine el_ERAAA hJ fun fz1 z09 => ?_; try clear hJ; subst z09; intro hz R l res)
 have off' : ∀ p ∈ ledg S nx fz1, p.1 ≠ D := by
  clear R l res hK
  generalize ledg S nx fz1 = l at off
  induction l with
  | nil => intro p hp; cases hp
  | cons q r ih => intro p hp; exact (List.mem_cons.mp hp).elim (fun e => e ▸ off.1) fun hp => ih off.2 p hp
 have go : ∀ so : SO, so.own = true → Is S.w S.h₀ fz1 (ad ++ [D]) so D (LCg.lst ys) → Rel S (ad ++ [D]) μ (ν ++ [so]) m' ((D, LCg.lst ys) :: nx) fz1 := fun so ho hI =>
  R.add (fun _ h => h) (fun _ => hI) (by rw [if_pos ho]; exact ⟨rfl, fun p hp => off' p (List.mem_append_left _ hp), fun q hq => Ne.symm (off' q (List.mem_append_right _ hq))⟩) R.off R.offz
 cases k with
 | «ints» => exact ⟨_, fz1, rfl, go (.ints (n.map fI)) rfl (isI (n := ys.length) res), l, hK, R.len⟩
 | «strs» => exact ⟨_, fz1, rfl, go (.strs (n.map fS)) rfl ⟨ys, ys.length, rfl, res⟩, l, hK, R.len⟩
 | rows => exact ⟨_, fz1, rfl, go (.rows (n.map fR)) rfl ⟨ys, ys.length, rfl, res⟩, l, hK, R.len⟩
theorem comp_fin {k : CK} {n : List Nat} {fI : Nat → Int} {fS : Nat → Str} {fR : Nat → List Int} {ys : List Value} {nw : List (Addr × Obj)} {D : Addr} {tk : Nat} (hJ : JC S ad μ ν m' nx fz k fI fS fR n ys nw) (F : Fr S.h₀ S.L h S.fm) (N : News S.h₀ S.L h ((D, LCg.lst ys) :: nw)) (off : LCg.Off1 D nw) (hK : compE k n fI fS fR K μ ν) :
  PX S s ad K (.ref D) { s with heap := h, toks := tk } := by
 (refine el_EERAAA (comp_rel hJ off hK) fun so fz1 z09 => ?_; subst z09; intro R l k hl)
 exact PX.new hl ⟨m', _, fz1, F, N, l, R⟩ k
noncomputable abbrev JCx (S : Sit) (ad : List Addr) (μ : Mu) (ν : Nu) (k : CK) (fI : Nat → Int) (fS : Nat → Str) (fR : Nat → List Int) (n : List Nat) (ys : List Value) (nw : List (Addr × Obj)) : Prop := ∃ m' nx fz, JC S ad μ ν m' nx fz k fI fS fR n ys nw
theorem srcL (O : Ok S) {cd : CD} {cl : List (Str × Addr)} (hn : ∀ C, NmOk S.w (compEnvC cd.sc cl C S.env) cd.F) (h1 : cd.F.ns = [cd.x]) (hc : ∀ p ∈ cd.F.cs, p ∈ S.d.F.cs ∧ cl.lookup p.2 = S.env.cells.lookup p.2)
  {k : CK} {fI : Nat → Int} {fS : Nat → Str} {fR : Nat → List Int} {e : PySem.Expr} {f : KV → KP} (I : ∀ S' : Sit, Ok S' → S'.d = { F := cd.F } → Ev S' e f) {j : Nat} {ns : List Int} (hj : ν[j]? = some (.ints ns) ∨ ν[j]? = some (.ro ns)) (hl : ns.length ≤ 16000000) (hel : ∀ i, i < ns.length → f (Elt k fI fS fR i) [.i (ns.getD i 0)] (ν.map roO))
  (H : Hd S s.heap ad μ ν) (r : Rp ad (.o j) v) {Fin : Shared → List Value → List (Addr × Obj) → Prop} (fin : ∀ g ys nw, JCx S ad μ ν k fI fS fR (List.range ns.length) ys nw → Fin { s with heap := g } ys nw) :
  LCg.CompSrc P0 S.w S.A S.h₀ S.L S.fm S.env e cd.x cd.sc cl Fin v s := by
 obtain ⟨m', nx, fz, F, N, l, R⟩ := H
 (refine el_EAr r fun x z09 => ?_; try clear r; subst z09; intro e1)
 have src : ∃ vs n, (S.h₀.get? x = some (listOf vs.toArray n) ∨ (x, listOf vs.toArray n) ∈ ledg S nx fz) ∧ IntsAre vs ns := by
  rcases hj with hj | hj
  ·(refine el_EEAAbEERe (R.own hj rfl) fun D o vs n z09 => ?_; subst z09; intro e2 hi e3)
   obtain rfl := Option.some.inj (e1.symm.trans e2)
   exact ⟨vs, n, .inr (List.mem_append_left _ e3), hi⟩
  ·(refine el_EEAAbEERe (R.fro hj (fun e => by cases e) rfl) fun D o vs n z09 => ?_; subst z09; intro e2 hi e3)
   obtain rfl := Option.some.inj (e1.symm.trans e2)
   exact ⟨vs, n, e3.imp_right fun h => List.mem_append_right _ (List.mem_append_left _ h), hi⟩
 (refine el_EEA src fun vs n => ?_; try clear src; intro hsrc hi)
 have hlen : vs.toArray.size = ns.length := by rw [List.size_toArray, hi.length]
 have rest : ∀ g (Sr : List (Addr × Obj) → Prop), (∀ l, (∀ q ∈ ledg S nx fz, q ∈ l) → Sr l) → LCg.CompRest P0 S.w S.A S.h₀ S.L S.fm S.env e cd.x cd.sc cl { s with heap := g } Sr (fun i v => vs.toArray[i]? = some v) (Fin { s with heap := g }) vs.toArray.size 0 [] (ledg S nx fz) := by
  intro g Sr hS
  refine compG (fun i => JC S ad μ ν m' nx fz k fI fS fR (List.range i)) vs.toArray.size ⟨fz, rfl, fun _ h => h, R, l, Res.zero⟩ ?_ fun ys nw hJ => fin g ys nw ⟨m', nx, fz, hlen ▸ hJ⟩
  intro i v ys nw J oJ C oC D m₂ h tk E' hin hv hJ hC hx F' N' off _
  have hin' : i < ns.length := hlen ▸ hin
  (refine el_EER (IntsAre.at hi i v (by simpa using hv)) fun z t z09 => ?_; subst z09; intro hz)
  rw [List.range_succ]
  exact comp_turn (s := { s with heap := g }) O hn h1 hc I (hel i hin') (by rw [show ns.getD i 0 = z from by rw [List.getD_eq_getElem?_getD, hz]; rfl]; exact rpI) hS hJ hC hx F' N' off
 rcases hsrc with hb | hm
 ·exact LCg.CompSrc.base (its := vs.toArray) O.hnd F N ⟨_, hb, rfl, _, rfl⟩ (by rw [hlen, sizeLine_eq]; exact Nat.le_trans (by assumption) (by decide)) fun g => rest g _ fun _ _ => .inl ⟨_, hb, rfl, _, rfl⟩
 ·exact LCg.CompSrc.ledger (its := vs.toArray) O.hnd F N hm (by rw [hlen, sizeLine_eq]; exact Nat.le_trans (by assumption) (by decide)) fun g => rest g _ fun l hl => .inr ⟨_, hl _ hm, rfl, _, rfl⟩
theorem srcR (O : Ok S) {cd : CD} {cl : List (Str × Addr)} (hn : ∀ C, NmOk S.w (compEnvC cd.sc cl C S.env) cd.F) (h1 : cd.F.ns = [cd.x]) (hc : ∀ p ∈ cd.F.cs, p ∈ S.d.F.cs ∧ cl.lookup p.2 = S.env.cells.lookup p.2)
  {k : CK} {fI : Nat → Int} {fS : Nat → Str} {fR : Nat → List Int} {e : PySem.Expr} {f : KV → KP} (I : ∀ S' : Sit, Ok S' → S'.d = { F := cd.F } → Ev S' e f) {y : Int} {t : Tok} (hy : -2 ^ 62 ≤ y ∧ y ≤ 16000000) (hel : ∀ i, i < y.toNat → f (Elt k fI fS fR i) [.i (i : Int)] (ν.map roO))
  (H : Hd S s.heap ad μ ν) {Fin : Shared → List Value → List (Addr × Obj) → Prop} (fin : ∀ (tk : Nat) (g : Heap) ys nw, JCx S ad μ ν k fI fS fR (List.range y.toNat) ys nw → Fin { s with heap := g, toks := tk } ys nw) :
  wpS S (call (.type "range") [.int y t]) (LCg.CompSrc P0 S.w S.A S.h₀ S.L S.fm S.env e cd.x cd.sc cl Fin) s := by
 obtain ⟨m', nx, fz, F, N, l, R⟩ := H
 refine range1_rows F N fun h2 tk t1 u1 v1 hR F2 N2 _ => ?_
 refine LCg.CompSrc.range (n := y.toNat) O.hnd F2 N2 hR (small_one (by decide) (by decide) (by exact And.left (by assumption)) (by exact Int.lt_of_le_of_lt (And.right (by assumption)) (by decide))) (by rw [rangeSize_nat, Int.sub_zero]) (by rw [sizeLine_eq]; lia) fun g => ?_
 refine compG (fun i => JC S ad μ ν m' nx fz k fI fS fR (List.range i)) y.toNat ⟨fz, rfl, fun _ h => h, R, l, Res.zero⟩ ?_ fun ys nw hJ => fin tk g ys nw ⟨m', nx, fz, hJ⟩
 intro i v ys nw J oJ C oC D m₂ h tk' E' hin hv hJ hC hx F' N' off _
 obtain ⟨t, rfl⟩ := hv
 rw [List.range_succ]
 exact comp_turn (s := { s with heap := g, toks := tk }) O hn h1 hc I (hel i hin) (by rw [Int.zero_add]; exact rpI) (fun _ _ => trivial) hJ hC hx F' N' off
theorem srcO (O : Ok S) {cd : CD} {cl : List (Str × Addr)} (hn : ∀ C, NmOk S.w (compEnvC cd.sc cl C S.env) cd.F) (h1 : cd.F.ns = [cd.x]) (hc : ∀ p ∈ cd.F.cs, p ∈ S.d.F.cs ∧ cl.lookup p.2 = S.env.cells.lookup p.2)
  {k : CK} {fI : Nat → Int} {fS : Nat → Str} {fR : Nat → List Int} {e : PySem.Expr} {f : KV → KP} (I : ∀ S' : Sit, Ok S' → S'.d = { F := cd.F } → Ev S' e f) {j : Nat} {rs : List (List Int)} (hj : ν[j]? = some (.rrows rs)) (hl : rs.length ≤ 16000000) (hel : ∀ i, i < rs.length → f (Elt k fI fS fR i) [.o ν.length] (ν.map roO ++ [.ro (rs.getD i [])]))
  (H : Hd S s.heap ad μ ν) (r : Rp ad (.o j) v) {Fin : Shared → List Value → List (Addr × Obj) → Prop} (fin : ∀ g ys nw, JCx S ad μ ν k fI fS fR (List.range rs.length) ys nw → Fin { s with heap := g } ys nw) :
  LCg.CompSrc P0 S.w S.A S.h₀ S.L S.fm S.env e cd.x cd.sc cl Fin v s := by
 obtain ⟨m', nx, fz, F, N, l, R⟩ := H
 (refine el_EAr r fun x z09 => ?_; try clear r; subst z09; intro e1)
 (refine el_EEAAbEERe (R.fsh hj rfl) fun D o vs n z09 => ?_; subst z09; intro e2 hi e3)
 obtain rfl := Option.some.inj (e1.symm.trans e2)
 have hlen : vs.toArray.size = rs.length := by rw [List.size_toArray]; exact hi.len
 have hm : (x, listOf vs.toArray n) ∈ ledg S nx fz := List.mem_append_right _ (List.mem_append_left _ e3)
 refine LCg.CompSrc.ledger (its := vs.toArray) O.hnd F N hm (by rw [hlen, sizeLine_eq]; exact Nat.le_trans (by assumption) (by decide)) fun g => ?_
 refine compG (fun i => JC S ad μ ν m' nx fz k fI fS fR (List.range i)) vs.toArray.size ⟨fz, rfl, fun _ h => h, R, l, Res.zero⟩ ?_ fun ys nw hJ => fin g ys nw ⟨m', nx, fz, hlen ▸ hJ⟩
 intro i v ys nw J oJ C oC D m₂ h tk E' hin hv hJ hC hx F' N' off _
 have hin' : i < rs.length := hlen ▸ hin
 (refine el_EEERA (hi.at i v (by simpa using hv)) fun a ws kw z09 => ?_; subst z09; intro h3 h4)
 rw [List.range_succ]
 exact comp_turnR (s := { s with heap := g }) O hn h1 hc I h3 h4 (hel i hin') (fun l hl => .inr ⟨_, hl _ hm, rfl, _, rfl⟩) hJ hC hx F' N' off
theorem srcLT (O : Ok S) {cd : CD} {cl : List (Str × Addr)} (hn : ∀ C, NmOk S.w (compEnvC cd.sc cl C S.env) cd.F) (h1 : cd.F.ns = [cd.x]) (hc : ∀ p ∈ cd.F.cs, p ∈ S.d.F.cs ∧ cl.lookup p.2 = S.env.cells.lookup p.2)
  {k : CK} {fI : Nat → Int} {fS : Nat → Str} {fR : Nat → List Int} {q : Nat → Bool} {e ct : PySem.Expr} {f tf : KV → KP} (It : ∀ S' : Sit, Ok S' → S'.d = { F := cd.F } → Ts S' ct tf) (I : ∀ S' : Sit, Ok S' → S'.d = { F := cd.F } → Ev S' e f) {j : Nat} {ns : List Int} (hj : ν[j]? = some (.ints ns) ∨ ν[j]? = some (.ro ns)) (hl : ns.length ≤ 16000000) (hel : ∀ i, i < ns.length → tf (tstK (q i) (f (Elt k fI fS fR i))) [.i (ns.getD i 0)] (ν.map roO))
  (H : Hd S s.heap ad μ ν) (r : Rp ad (.o j) v) {Fin : Shared → List Value → List (Addr × Obj) → Prop} (fin : ∀ g ys nw, JCx S ad μ ν k fI fS fR ((List.range ns.length).filter q) ys nw → Fin { s with heap := g } ys nw) :
  LCt.CompSrcT P0 S.w S.A S.h₀ S.L S.fm S.env ct e cd.x cd.sc cl Fin v s := by
 obtain ⟨m', nx, fz, F, N, l, R⟩ := H
 (refine el_EAr r fun x z09 => ?_; try clear r; subst z09; intro e1)
 have src : ∃ vs n, (S.h₀.get? x = some (listOf vs.toArray n) ∨ (x, listOf vs.toArray n) ∈ ledg S nx fz) ∧ IntsAre vs ns := by
  rcases hj with hj | hj
  ·(refine el_EEAAbEERe (R.own hj rfl) fun D o vs n z09 => ?_; subst z09; intro e2 hi e3)
   obtain rfl := Option.some.inj (e1.symm.trans e2)
   exact ⟨vs, n, .inr (List.mem_append_left _ e3), hi⟩
  ·(refine el_EEAAbEERe (R.fro hj (fun e => by cases e) rfl) fun D o vs n z09 => ?_; subst z09; intro e2 hi e3)
   obtain rfl := Option.some.inj (e1.symm.trans e2)
   exact ⟨vs, n, e3.imp_right fun h => List.mem_append_right _ (List.mem_append_left _ h), hi⟩
 (refine el_EEA src fun vs n => ?_; try clear src; intro hsrc hi)
 have hlen : vs.toArray.size = ns.length := by rw [List.size_toArray, hi.length]
 have rest : ∀ g (Sr : List (Addr × Obj) → Prop), (∀ l, (∀ q ∈ ledg S nx fz, q ∈ l) → Sr l) → LCt.CompRestT P0 S.w S.A S.h₀ S.L S.fm S.env ct e cd.x cd.sc cl { s with heap := g } Sr (fun i v => vs.toArray[i]? = some v) (Fin { s with heap := g }) vs.toArray.size 0 [] (ledg S nx fz) := by
  intro g Sr hS
  refine compGT (fun i => JC S ad μ ν m' nx fz k fI fS fR ((List.range i).filter q)) vs.toArray.size ⟨fz, rfl, fun _ h => h, R, l, Res.zero⟩ ?_ fun ys nw hJ => fin g ys nw ⟨m', nx, fz, hlen ▸ hJ⟩
  intro i v ys nw J oJ C oC D m₂ h tk E' hin hv hJ hC hx F' N' off _
  have hin' : i < ns.length := hlen ▸ hin
  (refine el_EER (IntsAre.at hi i v (by simpa using hv)) fun z t z09 => ?_; subst z09; intro hz)
  exact comp_turnT (s := { s with heap := g }) O hn h1 hc I It (hel i hin') (by rw [show ns.getD i 0 = z from by rw [List.getD_eq_getElem?_getD, hz]; rfl]; exact rpI) hS hJ hC hx F' N' off
 rcases hsrc with hb | hm
 ·exact LCt.CompSrcT.base (its := vs.toArray) O.hnd F N ⟨_, hb, rfl, _, rfl⟩ (by rw [hlen, sizeLine_eq]; exact Nat.le_trans (by assumption) (by decide)) fun g => rest g _ fun _ _ => .inl ⟨_, hb, rfl, _, rfl⟩
 ·exact LCt.CompSrcT.ledger (its := vs.toArray) O.hnd F N hm (by rw [hlen, sizeLine_eq]; exact Nat.le_trans (by assumption) (by decide)) fun g => rest g _ fun l hl => .inr ⟨_, hl _ hm, rfl, _, rfl⟩
theorem srcRT (O : Ok S) {cd : CD} {cl : List (Str × Addr)} (hn : ∀ C, NmOk S.w (compEnvC cd.sc cl C S.env) cd.F) (h1 : cd.F.ns = [cd.x]) (hc : ∀ p ∈ cd.F.cs, p ∈ S.d.F.cs ∧ cl.lookup p.2 = S.env.cells.lookup p.2)
  {k : CK} {fI : Nat → Int} {fS : Nat → Str} {fR : Nat → List Int} {q : Nat → Bool} {e ct : PySem.Expr} {f tf : KV → KP} (It : ∀ S' : Sit, Ok S' → S'.d = { F := cd.F } → Ts S' ct tf) (I : ∀ S' : Sit, Ok S' → S'.d = { F := cd.F } → Ev S' e f) {y : Int} {t : Tok} (hy : -2 ^ 62 ≤ y ∧ y ≤ 16000000) (hel : ∀ i, i < y.toNat → tf (tstK (q i) (f (Elt k fI fS fR i))) [.i (i : Int)] (ν.map roO))
  (H : Hd S s.heap ad μ ν) {Fin : Shared → List Value → List (Addr × Obj) → Prop} (fin : ∀ (tk : Nat) (g : Heap) ys nw, JCx S ad μ ν k fI fS fR ((List.range y.toNat).filter q) ys nw → Fin { s with heap := g, toks := tk } ys nw) :
  wpS S (call (.type "range") [.int y t]) (LCt.CompSrcT P0 S.w S.A S.h₀ S.L S.fm S.env ct e cd.x cd.sc cl Fin) s := by
 obtain ⟨m', nx, fz, F, N, l, R⟩ := H
 refine range1_rows F N fun h2 tk t1 u1 v1 hR F2 N2 _ => ?_
 refine LCt.CompSrcT.range (n := y.toNat) O.hnd F2 N2 hR (small_one (by decide) (by decide) (by exact And.left (by assumption)) (by exact Int.lt_of_le_of_lt (And.right (by assumption)) (by decide))) (by rw [rangeSize_nat, Int.sub_zero]) (by rw [sizeLine_eq]; lia) fun g => ?_
 refine compGT (fun i => JC S ad μ ν m' nx fz k fI fS fR ((List.range i).filter q)) y.toNat ⟨fz, rfl, fun _ h => h, R, l, Res.zero⟩ ?_ fun ys nw hJ => fin tk g ys nw ⟨m', nx, fz, hJ⟩
 intro i v ys nw J oJ C oC D m₂ h tk' E' hin hv hJ hC hx F' N' off _
 obtain ⟨t, rfl⟩ := hv
 exact comp_turnT (s := { s with heap := g, toks := tk }) O hn h1 hc I It (hel i hin) (by rw [Int.zero_add]; exact rpI) (fun _ _ => trivial) hJ hC hx F' N' off
noncomputable abbrev Both (S : Sit) (l : Nat) (t : T) : Prop := Ev S (t.raw l S.d) (ev S.d t false) ∧ Ts S (t.raw l S.d) (ev S.d t true)
theorem pb {l : Nat} {t : T} (h : Ev S (t.raw l S.d) (ev S.d t false)) (he : isTrue (t.raw l S.d) S.env (eval (t.raw l S.d) S.env) = (do let v ← eval (t.raw l S.d) S.env; standAt (t.raw l S.d).pos; holding [v] (truthy v))) (hm : ∀ K, ev S.d t true K = ev S.d t false (plainK true K)) : Both S l t :=
 ⟨h, fun K μ ν s ad h0 H => by
  rw [hm] at h0
  exact isTrue_plain (bnd (h _ _ _ _ _ h0 H) fun v s1 ad1 sv μ1 ν1 a1 l1 H1 r1 k1 => truth_sound k1 H1 r1 fun p d tk k => PX.up a1 l1 (split_px k H1)) he⟩
theorem args1 {l : Nat} {d : Df} {t : T} {f : KV → KP} (h : Ev S (t.raw l d) f) {pos : Pos} {Q : List Value → Shared → Prop} (h0 : f K μ ν) (H : Hd S s.heap ad μ ν) (hq : ∀ v s1 ad1 sv μ1 ν1, At s s1 → Le ad ad1 → Hd S s1.heap ad1 μ1 ν1 → Rp ad1 sv v → K sv μ1 ν1 → Q [v] s1) :
  wpS S (spliced (backTo pos (starEach [t.raw l d] S.env))) Q s :=
 args_cons (bnd (h _ _ _ _ _ h0 H) fun v s1 ad1 sv μ1 ν1 a1 l1 H1 r1 k1 => args_nil (hq v s1 ad1 sv μ1 ν1 a1 l1 H1 r1 k1)) (star1 (T.plain l d t) _ _)
theorem args2 {l : Nat} {d : Df} {t u : T} {f g : KV → KP} (h : Ev S (t.raw l d) f) (h' : Ev S (u.raw l d) g) {K : SV → SV → KP} {pos : Pos} {Q : List Value → Shared → Prop} (h0 : f (fun a => g (K a)) μ ν) (H : Hd S s.heap ad μ ν)
  (hq : ∀ v w s1 ad1 sv su μ1 ν1, At s s1 → Le ad ad1 → Hd S s1.heap ad1 μ1 ν1 → Rp ad1 sv v → Rp ad1 su w → K sv su μ1 ν1 → Q [v, w] s1) :
  wpS S (spliced (backTo pos (starEach [t.raw l d, u.raw l d] S.env))) Q s :=
 args_cons (bnd (h _ _ _ _ _ h0 H) fun v s1 ad1 sv μ1 ν1 a1 l1 H1 r1 k1 => args_cons (bnd (h' _ _ _ _ _ k1 H1) fun w s2 ad2 su μ2 ν2 a2 l2 H2 r2 k2 => args_nil (hq v w s2 ad2 sv su μ2 ν2 (a1.trans a2) (l1.trans l2) H2 (r1.up l2) r2 k2)) (star1 (T.plain l d u) _ _)) (star1 (T.plain l d t) _ _)
end
end Mine
end
section
namespace Mine
open PySem PySem.W PySem.Calls PySem.Spec PyProof.Rows
section
variable {S : Sit} {s s' : Shared} {ad ad' : List Addr} {μ : Mu} {ν : Nu} {K : KV} {a b sv : SV} {v va vb : Value} {l : Nat} {t u : T}
theorem loc_sound (O : Ok S) {i c e : Nat} : Ev S (T.raw l S.d (.loc i c e)) (ev S.d (.loc i c e) false) := by
 intro K μ ν s ad h H
 change (match μ[i]? with | some sv => knownK sv K μ ν | none => False) at h
 cases hi : μ[i]? with
 | none => rw [hi] at h; exact h.elim
 | some sv =>
  rw [hi] at h
  obtain ⟨h1, h2⟩ := knownK_inv h
  have hd : (nmL S.d.F i == dbg) = false := by
   obtain ⟨_, _, _, _, _, _, R⟩ := id H
   have : i < S.d.F.ns.length := by rw [← R.mlen]; exact lt_of_get hi
   have hx : nmL S.d.F i ∈ S.d.F.ns := by unfold nmL; rw [List.getElem?_eq_getElem this]; exact List.getElem_mem _
   exact (O.nm.loc _ hx).2
  exact wpAny_Name (load_loc O.nm (pos := ⟨0, 0, 0, 0⟩) hi h2 h1 H) hd
theorem cel_sound (O : Ok S) {i c e : Nat} : Ev S (T.raw l S.d (.cel i c e)) (ev S.d (.cel i c e) false) := by
 intro K μ ν s ad h H
 change (match S.d.F.cs[i]? with | some p => (match ν[p.1]? with | some (.cell sv) => knownK sv K μ ν | some (.fcell sv) => knownK sv K μ ν | _ => False) | none => False) at h
 show wpS S (eval (.Name (nmC S.d.F i) _) S.env) _ s
 unfold nmC
 cases hi : S.d.F.cs[i]? with
 | none => rw [hi] at h; exact h.elim
 | some p =>
  rw [hi] at h
  dsimp only at h ⊢
  have hd := (O.nm.cel p (List.mem_of_getElem? hi)).2
  cases hc : ν[p.1]? with
  | none => rw [hc] at h; exact h.elim
  | some so =>
   rw [hc] at h
   cases so with
   | cell sv => obtain ⟨h1, h2⟩ := knownK_inv h; exact wpAny_Name (load_cel O.nm hi (.inl hc) h2 h1 H) hd
   | fcell sv => obtain ⟨h1, h2⟩ := knownK_inv h; exact wpAny_Name (load_cel O.nm hi (.inr hc) h2 h1 H) hd
   | _ => exact h.elim
theorem svOf_rp (v : Value) : Rp ad (svOf v) v := by cases v <;> first | exact rfl | exact ⟨_, rfl⟩
theorem glo_sound (O : Ok S) {i c e : Nat} : Ev S (T.raw l S.d (.glo i c e)) (ev S.d (.glo i c e) false) := by
 intro K μ ν s ad h H
 change (match S.d.F.gt[i]? with | some p => K (svOf p.2) | none => fun _ _ => False) μ ν at h
 show wpS S (eval (.Name (nmG S.d.F i) _) S.env) _ s
 unfold nmG
 cases hi : S.d.F.gt[i]? with
 | none => rw [hi] at h; exact h.elim
 | some p =>
  rw [hi] at h
  exact ev_glo O (List.mem_of_getElem? hi) (PX.here (s := s) H (svOf_rp p.2) h) H
theorem bin_ev {o : BO} {c e : Nat} (I1 : Ev S (t.raw l S.d) (ev S.d t false)) (I2 : Ev S (u.raw l S.d) (ev S.d u false)) : Ev S (T.raw l S.d (.bin o t u c e)) (ev S.d (.bin o t u c e) false) := fun K μ ν s ad h H =>
 wpAny_BinOp (bnd (I1 _ _ _ _ _ h H) fun _ _ _ _ _ _ a1 l1 H1 r1 k1 => bnd (I2 _ _ _ _ _ k1 H1) fun _ _ _ _ _ _ a2 l2 H2 r2 k2 => wpU (a1.trans a2) (l1.trans l2) (bin_sound k2 H2 (r1.up l2) r2))
theorem cmp_ev (O : Ok S) {o : CO} {c e : Nat} (I1 : Ev S (t.raw l S.d) (ev S.d t false)) (I2 : Ev S (u.raw l S.d) (ev S.d u false)) : Both S l (.cmp o t u c e) :=
 ⟨fun K μ ν s ad h H => wpAny_Compare1 (bnd (I1 _ _ _ _ _ h H) fun _ _ _ _ _ _ a1 l1 H1 r1 k1 => bnd (I2 _ _ _ _ _ k1 H1) fun _ _ _ _ _ _ a2 l2 H2 r2 k2 =>
   cmp_sound O k2 H2 (r1.up l2) r2 fun p d tk k => PX.up (a1.trans a2) (l1.trans l2) (PX.here H2 (show Rp _ (.b _) (.bool _) from rfl) k)) (beh (T.plain l S.d u) _),
  fun K μ ν s ad h H => wpAny_isTrue_Compare1 (bnd (I1 _ _ _ _ _ h H) fun _ _ _ _ _ _ a1 l1 H1 r1 k1 => bnd (I2 _ _ _ _ _ k1 H1) fun _ _ _ _ _ _ a2 l2 H2 r2 k2 =>
   cmp_sound O k2 H2 (r1.up l2) r2 fun p d tk k => wpAny_truthy_bool (PX.up (a1.trans a2) (l1.trans l2) (split_px k H2))) (beh (T.plain l S.d u) _)⟩
theorem not_ev {c e : Nat} (I1 : Ts S (t.raw l S.d) (ev S.d t true)) : Both S l (.not t c e) :=
 ⟨fun K μ ν s ad h H => h.elim, fun K μ ν s ad h H => isTrue_not (bndT (I1 _ _ _ _ _ h H) fun b _ _ _ _ _ a1 l1 H1 r1 k1 => by
  have k2 := ifB_inv r1 k1
  cases b
  ·exact PX.up a1 l1 (PX.here H1 (show Rp _ (.b true) (.bool true) from rfl) k2)
  ·exact PX.up a1 l1 (PX.here H1 (show Rp _ (.b false) (.bool false) from rfl) k2))⟩
theorem or_ev {c e : Nat} (I1 : Ts S (t.raw l S.d) (ev S.d t true)) (I2 : Ts S (u.raw l S.d) (ev S.d u true)) : Both S l (.or t u c e) :=
 ⟨fun K μ ν s ad h H => h.elim, fun K μ ν s ad h H => isTrue_or (bndT (I1 _ _ _ _ _ h H) fun b _ _ _ _ _ a1 l1 H1 r1 k1 => by
  have k2 := ifB_inv r1 k1
  cases b
  ·refine isTrue_or (bndT (I2 _ _ _ _ _ k2 H1) fun b s2 _ _ _ _ a2 l2 H2 r2 k2 => ?_)
   cases b
   ·exact isTrue_or_nil ⟨_, _, _, _, a1.trans a2, l1.trans l2, H2, r2, k2⟩
   ·exact ⟨_, _, _, _, a1.trans a2, l1.trans l2, H2, r2, k2⟩
  ·exact PX.up a1 l1 (PX.here H1 (show Rp _ (.b true) (.bool true) from rfl) k2))⟩
theorem and_ev {c e : Nat} (I1 : Ts S (t.raw l S.d) (ev S.d t true)) (I2 : Ts S (u.raw l S.d) (ev S.d u true)) : Both S l (.and t u c e) :=
 ⟨fun K μ ν s ad h H => h.elim, fun K μ ν s ad h H => isTrue_and (bndT (I1 _ _ _ _ _ h H) fun b _ _ _ _ _ a1 l1 H1 r1 k1 => by
  have k2 := ifB_inv r1 k1
  cases b
  ·exact PX.up a1 l1 (PX.here H1 (show Rp _ (.b false) (.bool false) from rfl) k2)
  ·refine isTrue_and (bndT (I2 _ _ _ _ _ k2 H1) fun b s2 _ _ _ _ a2 l2 H2 r2 k2 => ?_)
   cases b
   ·exact ⟨_, _, _, _, a1.trans a2, l1.trans l2, H2, r2, k2⟩
   ·exact wpAny_pure ⟨_, _, _, _, a1.trans a2, l1.trans l2, H2, r2, k2⟩)⟩
theorem ife_ev {x : T} {c e : Nat} (I : Ts S (x.raw l S.d) (ev S.d x true)) (I1 : Ev S (t.raw l S.d) (ev S.d t false)) (I2 : Ev S (u.raw l S.d) (ev S.d u false)) : Both S l (.ife x t u c e) :=
 ⟨fun K μ ν s ad h H => IfExp_ (bndT (I _ _ _ _ _ h H) fun b _ _ _ _ _ a1 l1 H1 r1 k1 => by
  have k2 := ifB_inv r1 k1
  cases b
  ·exact wpU a1 l1 (I2 _ _ _ _ _ k2 H1)
  ·exact wpU a1 l1 (I1 _ _ _ _ _ k2 H1)), fun K μ ν s ad h H => h.elim⟩
theorem sub_ev (O : Ok S) {c e : Nat} (I1 : Ev S (t.raw l S.d) (ev S.d t false)) (I2 : Ev S (u.raw l S.d) (ev S.d u false)) : Ev S (T.raw l S.d (.sub t u c e)) (ev S.d (.sub t u c e) false) := fun K μ ν s ad h H =>
 Subscript_ (bnd (I1 _ _ _ _ _ h H) fun _ _ _ _ _ _ a1 l1 H1 r1 k1 => bnd (I2 _ _ _ _ _ k1 H1) fun _ _ _ _ _ _ a2 l2 H2 r2 k2 =>
  item_sound O k2 H2 (r1.up l2) r2 (T.plain l S.d u) fun r v tk k hr => PX.up (a1.trans a2) (l1.trans l2) (PX.here H2 hr k))
theorem last_ev (O : Ok S) {c1 e1 c2 c e : Nat} (I1 : Ev S (t.raw l S.d) (ev S.d t false)) : Ev S (T.raw l S.d (.last t c1 e1 c2 c e)) (ev S.d (.last t c1 e1 c2 c e) false) := fun K μ ν s ad h H =>
 Subscript_ (bnd (I1 _ _ _ _ _ h H) fun v s1 ad1 sv μ1 ν1 a1 l1 H1 r1 k1 => by
  (refine el_EERAA (wOwn_inv k1) fun j ns z09 => ?_; subst z09; intro hj h1 h2)
  refine UnaryOp_ (wpAny_Constant_int (neg_int (nmTurn ?_)))
  obtain ⟨m', nx, fz, F, N, l, R⟩ := H1
  (refine el_EEAAbEERe (R.own hj rfl) fun D o vs n z09 => ?_; subst z09; intro e2 hi e3)
  (refine el_EAr r1 fun x z09 => ?_; try clear r1; subst z09; intro e4)
  obtain rfl := Option.some.inj (e4.symm.trans e2)
  (refine el_EER (ints_snoc hi h1.1) fun vs0 t z09 => ?_; subst z09; intro _)
  exact my_back (s := { s1 with toks := s1.toks + 1 + 1 }) N (List.mem_append_left _ e3) (PX.up a1 l1 (PX.here (s := s1) (tk' := s1.toks + 1 + 1) ⟨m', nx, fz, F, N, l, R⟩ rpI h2)) (subd rfl _ _) (lt_go _))
theorem sto_ev (O : Ok S) {c1 e1 c e : Nat} (I1 : Ev S (t.raw l S.d) (ev S.d t false)) (I2 : Ev S (u.raw l S.d) (ev S.d u false)) : Ev S (T.raw l S.d (.sto t u c1 e1 c e)) (ev S.d (.sto t u c1 e1 c e) false) := fun K μ ν s ad h H =>
 Subscript_ (bnd (I1 _ _ _ _ _ h H) fun v s1 ad1 sv μ1 ν1 a1 l1 H1 r1 k1 => wpAny_Slice (evalPart_none_step (evalPart_some_step (bnd (I2 _ _ _ _ _ k1 H1) fun w s2 ad2 sv2 μ2 ν2 a2 l2 H2 r2 k2 => evalPart_none_step (nmTurn (by
  (refine el_ER (wI_inv k2) fun j z09 => ?_; subst z09; intro k2)
  obtain ⟨u, rfl⟩ := r2
  cases sv with
  | s x =>
   obtain ⟨t, rfl⟩ := r1
   obtain ⟨m', nx, fz, F, N, l, R⟩ := H2
   exact slice_ns_to (s := s2) F N rfl k2.1 (fun h3 t' k F3 N3 => PX.up (a1.trans a2) (l1.trans l2) (PX.here ⟨m', nx, fz, F3, N3, l, R⟩ rpS k2.2)) rfl (lt_go _)
  | o i =>
   refine el_EEAA (wL_inv (show wL (.o i) ν2 _ from k2)) fun i1 ns e1 h1 k2 => ?_
   cases e1
   (refine el_EERA (H2.isL h1 (r1.up l2)) fun D vs z09 => ?_; subst z09; intro hl hi)
   obtain ⟨m', nx, fz, F, N, l, R⟩ := H2
   exact kmk_slice_ints (s := s2) F N hl .none (.int _ _) hi (kmk_upto hi k2.1.1) rfl (fun D ws h' F' N' lt hi' _ _ => PX.up (a1.trans a2) (l1.trans l2) (PX.new (tk' := s2.toks) R.len (Hd.own R l rfl F' N' (ltne lt) (isI hi')) k2.2)) rfl (lt_go _) (by rw [List.size_toArray, hi.length, sizeLine_eq]; lia)
  | _ => exact k2.elim))))))
theorem sfr_ev (O : Ok S) {c1 e1 c e : Nat} (I1 : Ev S (t.raw l S.d) (ev S.d t false)) (I2 : Ev S (u.raw l S.d) (ev S.d u false)) : Ev S (T.raw l S.d (.sfr t u c1 e1 c e)) (ev S.d (.sfr t u c1 e1 c e) false) := fun K μ ν s ad h H =>
 Subscript_ (bnd (I1 _ _ _ _ _ h H) fun v s1 ad1 sv μ1 ν1 a1 l1 H1 r1 k1 => wpAny_Slice (evalPart_some_step (bnd (I2 _ _ _ _ _ k1 H1) fun w s2 ad2 sv2 μ2 ν2 a2 l2 H2 r2 k2 => evalPart_none_step (evalPart_none_step (nmTurn (by
  (refine el_ER (wI_inv k2) fun j z09 => ?_; subst z09; intro k2)
  (refine el_ER (wS_inv k2) fun x z09 => ?_; subst z09; intro k2)
  obtain ⟨u, rfl⟩ := r2
  obtain ⟨t, rfl⟩ := r1
  obtain ⟨m', nx, fz, F, N, l, R⟩ := H2
  exact slice_sn_to (s := s2) F N rfl k2.1 (fun h3 t' k F3 N3 => PX.up (a1.trans a2) (l1.trans l2) (PX.here ⟨m', nx, fz, F3, N3, l, R⟩ rpS k2.2)) rfl (lt_go _)))))))
theorem srev_ev (O : Ok S) {c2 c1 e1 c e : Nat} (I1 : Ev S (t.raw l S.d) (ev S.d t false)) : Ev S (T.raw l S.d (.srev t c2 c1 e1 c e)) (ev S.d (.srev t c2 c1 e1 c e) false) := fun K μ ν s ad h H =>
 Subscript_ (bnd (I1 _ _ _ _ _ h H) fun v s1 ad1 sv μ1 ν1 a1 l1 H1 r1 k1 => wpAny_Slice (evalPart_none_step (evalPart_none_step (evalPart_some_step (UnaryOp_ (wpAny_Constant_int (neg_int (nmTurn (by
  (refine el_EERA (wL_inv k1) fun i1 ns z09 => ?_; subst z09; intro h1 k2)
  (refine el_EERA (H1.isL h1 r1) fun D vs z09 => ?_; subst z09; intro hl hi)
  obtain ⟨m', nx, fz, F, N, l, R⟩ := H1
  exact krv_ints (s := { s1 with toks := s1.toks + 1 + 1 }) F N hl (.int _ _) hi (fun D ws h' F' N' lt hi' _ => PX.up a1 l1 (PX.new (tk' := s1.toks + 1 + 1) R.len (Hd.own R l rfl F' N' (ltne lt) (isI hi')) k2.2)) rfl (lt_go _) (by rw [List.size_toArray, hi.length, sizeLine_eq]; exact Nat.le_trans (And.left (by assumption)) (by decide)))))))))))
end
end Mine
end
section
namespace Mine
open PySem PySem.W PySem.Calls PySem.Spec PyProof.Rows
section
variable {S : Sit} {s s' : Shared} {ad ad' : List Addr} {μ : Mu} {ν : Nu} {K : KV} {a b sv : SV} {v va vb : Value} {l : Nat} {t u : T}
theorem newL_ev {vs : List Value} {ns : List Int} (H : Hd S s.heap ad μ ν) (hi : IntsAre vs ns) (hl : ns.length ≤ 16000000) (k : newI ν ns fun v ν => K v μ ν) : wpS S (newList vs) (PX S s ad K) s :=
 alloc H k fun nx F N fin => newList_K F N (fun D h' F' N' lt => fin D vs 0 h' s.toks F' N' (ltne lt) hi) (by rw [hi.length, sizeLine_eq]; exact Nat.le_trans (by assumption) (by decide))
theorem nil_ev {fz : Bool} {c e : Nat} : Ev S (T.raw l S.d (.nil fz c e)) (ev S.d (.nil fz c e) false) := fun K μ ν s ad h H =>
 List_ (args_nil (by
  cases fz with
  | false => exact newL_ev H .nil (by decide) h
  | true =>
   obtain ⟨m', nx, fz, F, N, l, R⟩ := H
   exact newList_K F N (fun D h' F' N' lt => PX.new (tk' := s.toks) R.len (Hd.fro (so := .rrows []) R l rfl F' N' (ltne lt) ⟨[], 0, rfl, rfl⟩) h) (Nat.zero_le _)))
theorem nilL_ev {k : NK} {c e : Nat} : Ev S (T.raw l S.d (.nilL k c e)) (ev S.d (.nilL k c e) false) := fun K μ ν s ad h H =>
 List_ (args_nil (by
  obtain ⟨m', nx, fz, F, N, l, R⟩ := H
  exact newList_K F N (fun D h' F' N' lt => PX.new (tk' := s.toks) R.len (Hd.own (so := k.so) R l (by cases k <;> rfl) F' N' (ltne lt) (by cases k <;> first | exact ⟨[], 0, rfl, rfl⟩ | exact ⟨[], 0, rfl, .nil⟩)) h) (Nat.zero_le _)))
theorem lst_ev {c e : Nat} (I : Ev S (t.raw l S.d) (ev S.d t false)) : Ev S (T.raw l S.d (.lst t c e)) (ev S.d (.lst t c e) false) := fun K μ ν s ad h H =>
 List_ (args1 I h H fun v s1 ad1 sv μ1 ν1 a1 l1 H1 r1 k1 => wpU a1 l1 (by
  cases sv with
  | i n => obtain ⟨t, rfl⟩ := r1; exact newL_ev H1 (.cons _ _ .nil) (show 1 ≤ 16000000 by decide) k1
  | o j =>
   refine el_EEAA (wO_inv (show wO (.o j) ν1 _ from k1)) fun j1 so e1 hj k2 => ?_
   cases e1
   cases so with
   | rrows rs =>
    obtain ⟨rfl, k3⟩ := (show rs = [] ∧ _ from k2)
    obtain ⟨m', nx, fz, F, N, l, R⟩ := H1
    (refine el_EEAAbEERe (R.fsh hj rfl) fun D o vs n z09 => ?_; subst z09; intro e2 hi e3)
    cases (show vs = [] from hi)
    (refine el_EAr r1 fun x z09 => ?_; try clear r1; subst z09; intro e4)
    rw [e4] at e2; cases e2
    exact newList_K F N (fun B h' F' N' lt => PX.new (tk' := s1.toks) R.len (Hd.own (so := .rows [[]]) R l rfl F' N' (ltne lt) ⟨[.ref D], 0, rfl, D, [], n, [], rfl, e3, .nil, rfl⟩) k3) (by rw [sizeLine_eq]; show 1 ≤ 16777216; decide)
   | _ => exact k2.elim
  | _ => exact k1.elim))
theorem args_ints {S : Sit} {l : Nat} (pos : Pos) : ∀ (ns : List (Int × Nat × Nat)) {s : Shared} {Q : List Value → Shared → Prop}, (∀ vs tk, IntsAre vs (ns.map (·.1)) → Q vs { s with toks := tk }) →
  wpS S (spliced (backTo pos (starEach (ns.map fun p => PySem.Expr.Constant (.int p.1) 0 ⟨l, p.2.1, l, p.2.2⟩) S.env))) Q s := by
 intro ns
 induction ns with
 | nil => intro s Q h; exact args_nil (h [] s.toks .nil)
 | cons p r ih => intro s Q h; exact args_cons (wpAny_Constant_int (ih fun vs tk hi => h _ tk (.cons _ _ hi))) rfl
theorem lstI_ev {ns : List (Int × Nat × Nat)} {c e : Nat} : Ev S (T.raw l S.d (.lstI ns c e)) (ev S.d (.lstI ns c e) false) := fun K μ ν s ad h H =>
 List_ (args_ints _ ns fun vs tk hi => wpU ⟨s.heap, tk, rfl⟩ Le.refl (newL_ev H hi (by rw [List.length_map]; have := h.1; exact Nat.le_trans (by assumption) (by decide)) h.2))
theorem tup_ev {c e : Nat} (I1 : Ev S (t.raw l S.d) (ev S.d t false)) (I2 : Ev S (u.raw l S.d) (ev S.d u false)) : Ev S (T.raw l S.d (.tup t u c e)) (ev S.d (.tup t u c e) false) := fun K μ ν s ad h H =>
 Tuple_ (args2 (K := fun a b μ ν => plainK false K (.o ν.length) μ (ν ++ [SO.tup [a, b]])) I1 I2 h H fun v w s1 ad1 sv su μ1 ν1 a1 l1 H1 r1 r2 k1 => wpU a1 l1 (by
  obtain ⟨m', nx, fz, F, N, l, R⟩ := H1
  exact kup_newTuple F N (fun D h' F' N' lt => PX.new (tk' := s1.toks) R.len (Hd.fro (so := .tup [sv, su]) R l rfl F' N' (ltne lt) ⟨[v, w], rfl, v, [w], rfl, r1.up ⟨_, rfl⟩, w, [], rfl, r2.up ⟨_, rfl⟩, rfl⟩) k1) (by rw [sizeLine_eq]; show 2 ≤ 16777216; decide)))
theorem dict_ev (O : Ok S) {c e : Nat} : Ev S (T.raw l S.d (.dict c e)) (ev S.d (.dict c e) false) := fun K μ ν s ad h H => by
 obtain ⟨m', nx, fz, F, N, l, R⟩ := H
 refine el_AEEEEE (O.rdy) fun pp lo me mg mb X T => ?_
 exact newDict_K F N T.nolimit fun D h' o F' N' lt hs _ _ h1 h2 => PX.new (tk' := s.toks) R.len (Hd.own (so := .dict []) R l rfl F' N' (ltne lt) ⟨hs, [], h1, h2⟩) h
theorem gref_inv {F : Fn} {g : Nat} {q : Addr} (h : gref F g = some q) : ∃ p, F.gt[g]? = some p ∧ p.2 = .ref q ∧ dictA q = false := by
 unfold gref at h
 cases e : F.gt[g]? with
 | none => rw [e] at h; cases h
 | some p =>
  rw [e] at h
  obtain ⟨x, v⟩ := p
  cases v with
  | ref a =>
   cases b : dictA a with
   | true => dsimp only at h; rw [b] at h; cases h
   | false => dsimp only at h; rw [b] at h; cases h; exact ⟨_, rfl, rfl, b⟩
  | _ => cases h
theorem H39in (O : Ok S) {h : Heap} (H : Hd S h ad μ ν) : (H39 S.w).In h := by
 obtain ⟨m', nx, fz, F, N, l, R⟩ := H
 exact O.rdy.1.keeps F.keep
theorem call1_ev (O : Ok S) {g ef c e : Nat} (I : Ev S (t.raw l S.d) (ev S.d t false)) : Ev S (T.raw l S.d (.call1 g t ef c e)) (ev S.d (.call1 g t ef c e) false) := fun K μ ν s ad h H => by
 change (match gref S.d.F g with | some q => ev S.d t false fun a μ ν => S.d.C q [a] ν fun v ν => K v μ ν | none => fun _ _ => False) μ ν at h
 show wpS S (eval (.Call (.Name (nmG S.d.F g) _) [t.raw l S.d] [] _) S.env) _ s
 cases hg : gref S.d.F g with
 | none => rw [hg] at h; exact h.elim
 | some q =>
  rw [hg] at h
  refine el_EAA (gref_inv hg) fun p hp hq hd => ?_
  have hm := List.mem_of_getElem? hp
  have hk := (O.nm.glo p hm).2.2.2
  rw [show nmG S.d.F g = p.1 from by unfold nmG; rw [hp]]
  rw [hq] at hk
  replace hk := (Bool.or_eq_true_iff.mp (show (dictA q || keepIn (H39 S.w) (.ref q)) = true from hk)).resolve_left (by rw [hd]; exact Bool.false_ne_true)
  refine Call_ (ev_glo O hm (Q := fun fv s₁ => wpS S (callWith _ fv [] (backTo _ (starEach [t.raw l S.d] S.env)) []) (PX S s ad K) s₁) ?_ H)
  rw [hq]
  exact callWith_K (H39in O H) hk (args1 I h H fun v s1 ad1 sv μ1 ν1 a1 l1 H1 r1 k1 => ⟨H39in O H1, wpU a1 l1 (O.cs S.fm S.pin S.own _ _ _ _ _ _ _ _ k1 H1 ⟨v, [], rfl, r1, rfl⟩)⟩) (star1 (T.plain l S.d t) _ _) rfl
theorem call2_ev (O : Ok S) {g ef c e : Nat} (I1 : Ev S (t.raw l S.d) (ev S.d t false)) (I2 : Ev S (u.raw l S.d) (ev S.d u false)) : Ev S (T.raw l S.d (.call2 g t u ef c e)) (ev S.d (.call2 g t u ef c e) false) := fun K μ ν s ad h H => by
 change (match gref S.d.F g with | some q => ev S.d t false fun a => ev S.d u false fun b μ ν => S.d.C q [a, b] ν fun v ν => K v μ ν | none => fun _ _ => False) μ ν at h
 show wpS S (eval (.Call (.Name (nmG S.d.F g) _) [t.raw l S.d, u.raw l S.d] [] _) S.env) _ s
 cases hg : gref S.d.F g with
 | none => rw [hg] at h; exact h.elim
 | some q =>
  rw [hg] at h
  refine el_EAA (gref_inv hg) fun p hp hq hd => ?_
  have hm := List.mem_of_getElem? hp
  have hk := (O.nm.glo p hm).2.2.2
  rw [show nmG S.d.F g = p.1 from by unfold nmG; rw [hp]]
  rw [hq] at hk
  replace hk := (Bool.or_eq_true_iff.mp (show (dictA q || keepIn (H39 S.w) (.ref q)) = true from hk)).resolve_left (by rw [hd]; exact Bool.false_ne_true)
  refine Call_ (ev_glo O hm (Q := fun fv s₁ => wpS S (callWith _ fv [] (backTo _ (starEach [t.raw l S.d, u.raw l S.d] S.env)) []) (PX S s ad K) s₁) ?_ H)
  rw [hq]
  exact callWith_K (H39in O H) hk (args2 (K := fun a b μ ν => S.d.C q [a, b] ν fun v ν => K v μ ν) I1 I2 h H fun v w s1 ad1 sv su μ1 ν1 a1 l1 H1 r1 r2 k1 => ⟨H39in O H1, wpU a1 l1 (O.cs S.fm S.pin S.own _ _ _ _ _ _ _ _ k1 H1 ⟨v, [w], rfl, r1, w, [], rfl, r2, rfl⟩)⟩) (star1 (T.plain l S.d t) _ _) (any2 (T.plain l S.d u) _ _)
theorem cw_bi {o : B1} {pos : Pos} {e : PySem.Expr} {r : List PySem.Expr} {Q : Value → Shared → Prop} (hp : plainE e = true) (ha : ((backTo pos (starEach r S.env)).any fun x => x.1) = false) (h : wpS S (spliced (backTo pos (starEach (e :: r) S.env))) (fun vs s₁ => wpS S (call o.val vs) Q s₁) s) :
  wpS S (callWith pos o.val [] (backTo pos (starEach (e :: r) S.env)) []) Q s := by
 have tp : ∀ {T : String}, wpS S (spliced (backTo pos (starEach (e :: r) S.env))) (fun vs s₁ => wpS S (call (.type T) vs) Q s₁) s → wpS S (callWith pos (.type T) [] (backTo pos (starEach (e :: r) S.env)) []) Q s := fun h => PyProof.Rows.callWith_type1 h (star1 hp _ _) ha
 have bu : ∀ {T : String}, wpS S (spliced (backTo pos (starEach (e :: r) S.env))) (fun vs s₁ => wpS S (call (.builtin T) vs) Q s₁) s → wpS S (callWith pos (.builtin T) [] (backTo pos (starEach (e :: r) S.env)) []) Q s := fun h => PyProof.Rows.callWith_builtin1 h (star1 hp _ _) ha
 cases o with
 | tuple => exact tp h
 | range => exact tp h
 | reversed => exact tp h
 | _ => exact bu h
theorem b1_ev (O : Ok S) {i ef c e : Nat} (I : Ev S (t.raw l S.d) (ev S.d t false)) : Ev S (T.raw l S.d (.b1 i t ef c e)) (ev S.d (.b1 i t ef c e) false) := fun K μ ν s ad h H => by
 change (match S.d.F.bi[i]? with | some o => ev S.d t false fun a μ ν => b1S o a ν fun v ν => K v μ ν | none => fun _ _ => False) μ ν at h
 show wpS S (eval (.Call (.Name (nmB S.d.F i) _) [t.raw l S.d] [] _) S.env) _ s
 unfold nmB
 cases hg : S.d.F.bi[i]? with
 | none => rw [hg] at h; exact h.elim
 | some o =>
  rw [hg] at h
  exact Call_ (ev_bi O (List.mem_of_getElem? hg) (cw_bi (T.plain l S.d t) rfl (args1 I h H fun v s1 ad1 sv μ1 ν1 a1 l1 H1 r1 k1 => wpU a1 l1 (b1_sound O k1 H1 r1))) H)
theorem b2_ev (O : Ok S) {i ef c e : Nat} (I1 : Ev S (t.raw l S.d) (ev S.d t false)) (I2 : Ev S (u.raw l S.d) (ev S.d u false)) : Ev S (T.raw l S.d (.b2 i t u ef c e)) (ev S.d (.b2 i t u ef c e) false) := fun K μ ν s ad h H => by
 change (match S.d.F.bi[i]? with | some o => ev S.d t false fun a => ev S.d u false fun b μ ν => b2S o a b ν fun v ν => K v μ ν | none => fun _ _ => False) μ ν at h
 show wpS S (eval (.Call (.Name (nmB S.d.F i) _) [t.raw l S.d, u.raw l S.d] [] _) S.env) _ s
 unfold nmB
 cases hg : S.d.F.bi[i]? with
 | none => rw [hg] at h; exact h.elim
 | some o =>
  rw [hg] at h
  exact Call_ (ev_bi O (List.mem_of_getElem? hg) (cw_bi (T.plain l S.d t) (any2 (T.plain l S.d u) _ _) (args2 (K := fun a b μ ν => b2S o a b ν fun v ν => K v μ ν) I1 I2 h H fun v w s1 ad1 sv su μ1 ν1 a1 l1 H1 r1 r2 k1 => wpU a1 l1 (b2_sound O k1 H1 r1 r2))) H)
theorem m0_ev {o : M0} {ea c e : Nat} (I : Ev S (t.raw l S.d) (ev S.d t false)) : Ev S (T.raw l S.d (.m0 o t ea c e)) (ev S.d (.m0 o t ea c e) false) := fun K μ ν s ad h H =>
 MethodCall_ (bnd (I _ _ _ _ _ h H) fun v s1 ad1 sv μ1 ν1 a1 l1 H1 r1 k1 => wpAny_mono (m0_sound k1 H1 r1) (fun _ _ z => wpAny_mono z (fun _ _ x => x.up a1 l1) fun _ _ x => x) fun _ _ x => x) (form0 t o.nm c ea e S.env)
theorem m1_ev {o : M1} {ea c e : Nat} (I1 : Ev S (t.raw l S.d) (ev S.d t false)) (I2 : Ev S (u.raw l S.d) (ev S.d u false)) : Ev S (T.raw l S.d (.m1 o t u ea c e)) (ev S.d (.m1 o t u ea c e) false) := fun K μ ν s ad h H =>
 MethodCall_ (bnd (I1 _ _ _ _ _ h H) fun v s1 ad1 sv μ1 ν1 a1 l1 H1 r1 k1 => by
  change (match recvB o sv ν1 with | true => ev S.d u false (fun b μ ν => m1S o sv b ν fun v ν => K v μ ν) μ1 ν1 | false => False) at k1
  cases hb : recvB o sv ν1 with
  | false => rw [hb] at k1; exact k1.elim
  | true =>
   rw [hb] at k1
   obtain ⟨id, g1, g2⟩ := m1_get hb H1 r1
   exact g1 _ (callWith_method1 (args1 I2 k1 H1 fun w s2 ad2 su μ2 ν2 a2 l2 H2 r2 k2 => wpU (a1.trans a2) (l1.trans l2) (g2 l2 k2 H2 r2)) (star1 (T.plain l S.d u) _ _) rfl)) (form1 t u o.nm c ea e S.env)
theorem comp_ev (O : Ok S) {k : CK} {j c e : Nat} (Ie : ∀ S' : Sit, Ok S' → Both S' l t) (I : Ev S (u.raw l S.d) (ev S.d u false)) : Ev S (T.raw l S.d (.comp k j t u c e)) (ev S.d (.comp k j t u c e) false) := fun K μ ν s ad h H => by
 change (match S.d.D[j]? with | none => fun _ _ => False | some cd => ev S.d u false fun a μ ν => wL a ν fun ns => ns.length ≤ 16000000 ∧ compK k ns.length (fun _ K => ev { F := cd.F } t false K) (fun i => .i (ns.getD i 0)) K μ ν) μ ν at h
 show wpS S (eval (.ListComp (t.raw l { F := (cdOf S.d.D j).F }) [⟨.Name (cdOf S.d.D j).x _, u.raw l S.d, [], 0⟩] (cdOf S.d.D j).sc _) S.env) _ s
 unfold cdOf
 cases hj : S.d.D[j]? with
 | none => rw [hj] at h; exact h.elim
 | some cd =>
  rw [hj] at h
  refine el_EAAAAAAA (O.comps cd (List.mem_of_getElem? hj)) fun cl c1 c2 c3 c4 c5 c6 c7 c8 => ?_
  obtain ⟨_, _, _, F0, _⟩ := id H
  refine LCg.ListComp_U F0 c1 c2 c3 c4 c5 (bnd (I _ _ _ _ _ h H) fun v s1 ad1 sv μ1 ν1 a1 l1 H1 r1 k1 => ?_) (fsi (T.plain l S.d u) _)
  obtain ⟨i, ns, rfl, hi, hl, k2⟩ := wL_inv k1
  refine el_EEEA (compK_inv k2) fun fI fS fR e1 e2 => ?_
  exact srcL O c7 c6 c8 (fun S' O' hd => hd ▸ (Ie S' O').1) hi hl e1 H1 r1 fun g ys nw ⟨m', nx, fz, hJ⟩ D h tk F' N' off => PX.up (a1.trans ⟨g, s1.toks, rfl⟩) l1 (comp_fin (s := { s1 with heap := g }) hJ F' N' off e2)
theorem compO_ev (O : Ok S) {j c e : Nat} (Ie : ∀ S' : Sit, Ok S' → Both S' l t) (I : Ev S (u.raw l S.d) (ev S.d u false)) : Ev S (T.raw l S.d (.compO j t u c e)) (ev S.d (.compO j t u c e) false) := fun K μ ν s ad h H => by
 change (match S.d.D[j]? with | none => fun _ _ => False | some cd => ev S.d u false fun a μ ν => wO a ν fun _ so => match so with
  | .rrows rs => rs.length ≤ 16000000 ∧ compKR rs (fun K => ev { F := cd.F } t false K) K μ ν
  | _ => False) μ ν at h
 show wpS S (eval (.ListComp (t.raw l { F := (cdOf S.d.D j).F }) [⟨.Name (cdOf S.d.D j).x _, u.raw l S.d, [], 0⟩] (cdOf S.d.D j).sc _) S.env) _ s
 unfold cdOf
 cases hj : S.d.D[j]? with
 | none => rw [hj] at h; exact h.elim
 | some cd =>
  rw [hj] at h
  refine el_EAAAAAAA (O.comps cd (List.mem_of_getElem? hj)) fun cl c1 c2 c3 c4 c5 c6 c7 c8 => ?_
  obtain ⟨_, _, _, F0, _⟩ := id H
  refine LCg.ListComp_U F0 c1 c2 c3 c4 c5 (bnd (I _ _ _ _ _ h H) fun v s1 ad1 sv μ1 ν1 a1 l1 H1 r1 k1 => ?_) (fsi (T.plain l S.d u) _)
  (refine el_EERA (wO_inv k1) fun i so z09 => ?_; subst z09; intro hi k2)
  cases so with
  | rrows rs =>
   (refine el_AEA k2 fun f => ?_; try clear k2; intro hl e1 e2)
   exact srcO O c7 c6 c8 (k := .rows) (fI := fun _ => 0) (fS := fun _ => Str.empty) (fR := f) (fun S' O' hd => hd ▸ (Ie S' O').1) hi hl e1 H1 r1 fun g ys nw ⟨m', nx, fz, hJ⟩ D h tk F' N' off => PX.up (a1.trans ⟨g, s1.toks, rfl⟩) l1 (comp_fin (s := { s1 with heap := g }) hJ F' N' off e2)
  | _ => exact k2.elim
theorem compR_ev (O : Ok S) {k : CK} {j i ef c1 e1 c e : Nat} (Ie : ∀ S' : Sit, Ok S' → Both S' l t) (I : Ev S (u.raw l S.d) (ev S.d u false)) : Ev S (T.raw l S.d (.compR k j t u i ef c1 e1 c e)) (ev S.d (.compR k j t u i ef c1 e1 c e) false) := fun K μ ν s ad h H => by
 change (match S.d.D[j]? with
  | none => fun _ _ => False
  | some cd => match S.d.F.bi[i]? with
   | some .range => ev S.d u false fun a μ ν => wI a fun x => (-2 ^ 62 ≤ x ∧ x ≤ 16000000) ∧ compK k x.toNat (fun _ K => ev { F := cd.F } t false K) (fun i => .i (i : Int)) K μ ν
   | _ => fun _ _ => False) μ ν at h
 show wpS S (eval (.ListComp (t.raw l { F := (cdOf S.d.D j).F }) [⟨.Name (cdOf S.d.D j).x _, .Call (.Name (nmB S.d.F i) _) [u.raw l S.d] [] _, [], 0⟩] (cdOf S.d.D j).sc _) S.env) _ s
 unfold cdOf nmB
 cases hj : S.d.D[j]? with
 | none => rw [hj] at h; exact h.elim
 | some cd =>
  rw [hj] at h
  dsimp only at h
  cases hb : S.d.F.bi[i]? with
  | none => rw [hb] at h; exact h.elim
  | some o =>
   rw [hb] at h
   cases o with
   | range =>
    refine el_EAAAAAAA (O.comps cd (List.mem_of_getElem? hj)) fun cl c1 c2 c3 c4 c5 c6 c7 c8 => ?_
    obtain ⟨_, _, _, F0, _⟩ := id H
    refine LCg.ListComp_U F0 c1 c2 c3 c4 c5 (Call_ (ev_bi O (List.mem_of_getElem? hb) (cw_bi (o := .range) (T.plain l S.d u) rfl (args1 I h H fun v s1 ad1 sv μ1 ν1 a1 l1 H1 r1 k1 => ?_)) H)) (fun _ => rfl)
    (refine el_ERA (wI_inv k1) fun y z09 => ?_; subst z09; intro hy k2)
    obtain ⟨t, rfl⟩ := r1
    refine el_EEEA (compK_inv k2) fun fI fS fR e1 e2 => ?_
    exact srcR O c7 c6 c8 (fun S' O' hd => hd ▸ (Ie S' O').1) hy e1 H1 fun tk1 g ys nw ⟨m', nx, fz, hJ⟩ D h tk F' N' off => PX.up (a1.trans ⟨g, tk1, rfl⟩) l1 (comp_fin (s := { s1 with heap := g, toks := tk1 }) hJ F' N' off e2)
   | _ => exact h.elim
theorem wsB_inv {a : SV} {ν : Nu} (h : wsB a ν = true) : ∃ j n b nt cnt, a = .o j ∧ ν[j]? = some (SO.ws n b nt cnt) := by
 cases a with
 | o j =>
  change (match ν[j]? with | some (.ws _ _ _ _) => true | _ => false) = true at h
  cases e : ν[j]? with
  | none => rw [e] at h; cases h
  | some so =>
   rw [e] at h
   cases so <;> first | exact ⟨j, _, _, _, _, rfl, e⟩ | cases h
 | _ => cases h
theorem ws_inst {j : Nat} {n b nt : Int} {cnt : List Int} (H : Hd S s.heap ad μ ν) (hj : ν[j]? = some (.ws n b nt cnt)) (r : Rp ad (.o j) v) : ∃ (D d1 D1 D2 : Addr) (k1 k2 k3 k4 k5 t1 t2 t3 t4 : Tok) (z : Str) (cs : List Value) (m' : Str → Option Value) (nx fz : List (Addr × Obj)), v = .ref D ∧ Fr S.h₀ S.L s.heap S.fm ∧ News S.h₀ S.L s.heap (ledg S nx fz) ∧ Loc S m' ∧ Rel S ad μ ν m' nx fz ∧
  (∀ q ∈ wsO S.w D d1 D1 D2 k1 k2 k3 k4 k5 t1 t2 t3 t4 z cs n b nt cnt, Zf S.h₀ fz q.1 q.2 ∧ s.heap.get? q.1 = some q.2) ∧ IntsAre cs cnt := by
 obtain ⟨m', nx, fz, F, N, l, R⟩ := H
 obtain ⟨D, o', e1, ⟨objs, ⟨d1, D1, D2, k1, k2, k3, k4, k5, t1, t2, t3, t4, z, cs, rfl, hcs, hcl⟩, w2, w3⟩, e3⟩ := R.fro hj (fun e => by cases e) rfl
 (refine el_EAr r fun D' z09 => ?_; try clear r; subst z09; intro e4)
 obtain rfl := Option.some.inj (e1.symm.trans e4)
 exact ⟨D, d1, D1, D2, k1, k2, k3, k4, k5, t1, t2, t3, t4, z, cs, m', nx, fz, rfl, F, N, l, R, fun q hq => ⟨w3 q hq, (w3 q hq).get F N⟩, hcs⟩
theorem att_ev (O : Ok S) {o : At'} {c e : Nat} (I : Ev S (t.raw l S.d) (ev S.d t false)) : Ev S (T.raw l S.d (.att o t c e)) (ev S.d (.att o t c e) false) := fun K μ ν s ad h H =>
 Attribute_any_ (bnd (I _ _ _ _ _ h H) fun v s1 ad1 sv μ1 ν1 a1 l1 H1 r1 k1 => by
  (refine el_EERA (wO_inv k1) fun j so z09 => ?_; subst z09; intro hj k1)
  cases so with
  | ws n b nt cnt =>
   obtain ⟨D, d1, D1, D2, k1', k2, k3, k4, k5, t1, t2, t3, t4, z, cs, m', nx, fz, rfl, F, N, lo, R, w3, hcs⟩ := ws_inst H1 hj r1
   have I0 : InstAt s1.heap D (instObj 164 d1) 164 (some _) := ⟨(w3 _ (.head _)).2, rfl, rfl, (w3 _ (.tail _ (.head _))).2⟩
   have H2 : Hd S s1.heap ad1 μ1 ν1 := ⟨m', nx, fz, F, N, lo, R⟩
   cases o with
   | n => exact get_own F O.rdy.1 I0 rfl rfl rfl rfl rfl rfl (PX.up a1 l1 (PX.here (s := s1) H2 rpI k1))
   | nt => exact get_own F O.rdy.1 I0 rfl rfl rfl rfl rfl rfl (PX.up a1 l1 (PX.here (s := s1) H2 rpI k1))
   | simp => exact get_own F O.rdy.1 I0 rfl rfl rfl rfl rfl rfl (PX.up a1 l1 (PX.here (s := s1) H2 (show Rp _ (.b _) (.bool _) from rfl) k1))
   | norm =>
    have q2 := (w3 _ (.tail _ (.tail _ (.head _)))).1
    have q3 := (w3 _ (.tail _ (.tail _ (.tail _ (.head _))))).1
    exact get_own F O.rdy.1 I0 rfl rfl rfl rfl rfl rfl (PX.up a1 l1 (PX.new (tk' := s1.toks + 1) R.len (Hd.see (so := .nrm cnt b) R lo rfl rfl F N q2 ⟨D1, cs, t4, rfl, q3, hcs⟩) k1))
  | _ => exact k1.elim) (by
   show (do
    let o' ← attributeBase (t.raw l S.d) o.nm S.env (eval (t.raw l S.d) S.env)
    standAt (Pos.mk l c l e).atName
    let r ← holding [o'] (getAttr o' o.nm true)
    letTemporaryGo (t.raw l S.d) o' r
    pure r) = _
   rw [attr_raw])
theorem mt_ok (w : World) : ∀ o : Mt, plainGet (H39 w) 164 o.nm = true ∧ findIn (H39 w) (.ref 164) o.nm = some (some (.ref o.ad)) ∧ isFn (H39 w) (.ref o.ad) = true ∧ keepIn (H39 w) (.ref o.ad) = true := by
 intro o; cases o <;> exact ⟨rfl, rfl, rfl, rfl⟩
theorem meth_get (O : Ok S) {o : Mt} {j : Nat} {n b nt : Int} {cnt : List Int} (H : Hd S s.heap ad μ ν) (hj : ν[j]? = some (.ws n b nt cnt)) (r : Rp ad (.o j) v) {pl : Sem Bool} {Q : Value × List Value → Shared → Prop} (h : Q (.ref o.ad, [v]) s) : wpS S (getMethod v o.nm pl) Q s := by
 obtain ⟨D, d1, D1, D2, k1', k2, k3, k4, k5, t1, t2, t3, t4, z, cs, m', nx, fz, rfl, F, N, lo, R, w3, hcs⟩ := ws_inst H hj r
 have I0 : InstAt s.heap D (instObj 164 d1) 164 (some _) := ⟨(w3 _ (.head _)).2, rfl, rfl, (w3 _ (.tail _ (.head _))).2⟩
 refine el_AAA (mt_ok S.w o) fun g1 g2 g3 g4 => ?_
 exact method_inst F O.rdy.1 I0 g1 g2 g3 (by cases o <;> rfl) h
theorem meth0_ev (O : Ok S) {o : Mt} {ea c e : Nat} (I : Ev S (t.raw l S.d) (ev S.d t false)) : Ev S (T.raw l S.d (.meth0 o t ea c e)) (ev S.d (.meth0 o t ea c e) false) := fun K μ ν s ad h H =>
 MethodCall_ (bnd (I _ _ _ _ _ h H) fun v s1 ad1 sv μ1 ν1 a1 l1 H1 r1 k1 => by
  change (match wsB sv ν1 with | true => S.d.C o.ad [sv] ν1 fun v ν => K v μ1 ν | false => False) at k1
  cases hb : wsB sv ν1 with
  | false => rw [hb] at k1; exact k1.elim
  | true =>
   rw [hb] at k1
   (refine el_EEEEER (wsB_inv hb) fun j n b nt cnt z09 => ?_; subst z09; intro hj)
   exact meth_get O H1 hj r1 (callWith_K0 (H39in O H1) (mt_ok S.w o).2.2.2 (wpU a1 l1 (O.cs S.fm S.pin S.own _ _ _ _ _ _ _ _ k1 H1 ⟨v, [], rfl, r1, rfl⟩)))) (form0 t o.nm c ea e S.env)
theorem meth1_ev (O : Ok S) {o : Mt} {ea c e : Nat} (I1 : Ev S (t.raw l S.d) (ev S.d t false)) (I2 : Ev S (u.raw l S.d) (ev S.d u false)) : Ev S (T.raw l S.d (.meth1 o t u ea c e)) (ev S.d (.meth1 o t u ea c e) false) := fun K μ ν s ad h H =>
 MethodCall_ (bnd (I1 _ _ _ _ _ h H) fun v s1 ad1 sv μ1 ν1 a1 l1 H1 r1 k1 => by
  change (match wsB sv ν1 with | true => ev S.d u false (fun b μ ν => S.d.C o.ad [sv, b] ν fun v ν => K v μ ν) μ1 ν1 | false => False) at k1
  cases hb : wsB sv ν1 with
  | false => rw [hb] at k1; exact k1.elim
  | true =>
   rw [hb] at k1
   (refine el_EEEEER (wsB_inv hb) fun j n b nt cnt z09 => ?_; subst z09; intro hj)
   exact meth_get O H1 hj r1 (callWith_K (H39in O H1) (mt_ok S.w o).2.2.2 (args1 I2 k1 H1 fun w s2 ad2 su μ2 ν2 a2 l2 H2 r2 k2 => ⟨H39in O H2, wpU (a1.trans a2) (l1.trans l2) (O.cs S.fm S.pin S.own _ _ _ _ _ _ _ _ k2 H2 ⟨v, [w], rfl, r1.up l2, w, [], rfl, r2, rfl⟩)⟩) (star1 (T.plain l S.d u) _ _) rfl)) (form1 t u o.nm c ea e S.env)
theorem dictB_inv {a : SV} (h : dictB a = true) : a = .v (.ref 88) := by
 cases a with
 | v w => cases w with
  | ref c => rw [Nat.eq_of_beq_eq_true (show Nat.beq c 88 = true from h)]
  | _ => cases h
 | _ => cases h
theorem dget_ev (O : Ok S) {x : T} {ea c e : Nat} (I1 : Ev S (t.raw l S.d) (ev S.d t false)) (I2 : Ev S (u.raw l S.d) (ev S.d u false)) (I3 : Ev S (x.raw l S.d) (ev S.d x false)) : Ev S (T.raw l S.d (.dget t u x ea c e)) (ev S.d (.dget t u x ea c e) false) := fun K μ ν s ad h H =>
 MethodCall_ (bnd (I1 _ _ _ _ _ h H) fun v s1 ad1 sv μ1 ν1 a1 l1 H1 r1 k1 => by
  change (match dictB sv with | true => ev S.d u false (fun su => ev S.d x false fun sw μ ν => dgetS su sw fun r => K r μ ν) μ1 ν1 | false => False) at k1
  cases hb : dictB sv with
  | false => rw [hb] at k1; exact k1.elim
  | true =>
   rw [hb] at k1
   obtain rfl := dictB_inv hb
   cases (show v = .ref 88 from r1)
   obtain ⟨_, _, _, F1, _⟩ := id H1
   refine KTD.getMethod_keyed (kt_keyed_in O.rdy.1 (flag_look S.w)) F1.keep (callWith_method1 (args2 (K := fun su sw μ ν => dgetS su sw fun r => K r μ ν) I2 I3 k1 H1 fun w z s2 ad2 su sw μ2 ν2 a2 l2 H2 r2 r3 k2 => ?_) (star1 (T.plain l S.d u) _ _) (any2 (T.plain l S.d x) _ _))
   (refine el_ER (wI_inv k2) fun k z09 => ?_; subst z09; intro k2)
   (refine el_EREAbAAre (wS_inv k2) fun y i z09 z19 => ?_; subst z09; subst z19; intro q1 q2 k3)
   obtain ⟨_, rfl⟩ := r2
   obtain ⟨_, rfl⟩ := r3
   obtain ⟨_, _, _, F2, _⟩ := id H2
   exact wpU (a1.trans a2) (l1.trans l2) (flag_get (KTD.Keyed.keep (kt_keyed_in O.rdy.1 (flag_look S.w)) F2.keep) q1 q2 fun t' => PX.here (s := s2) H2 rpS k3)) (form2 t u x _ c ea e S.env)
theorem args3 {l : Nat} {d : Df} {t u x : T} {f g f3 : KV → KP} (h : Ev S (t.raw l d) f) (h' : Ev S (u.raw l d) g) (h3 : Ev S (x.raw l d) f3) {K : SV → SV → SV → KP} {pos : Pos} {Q : List Value → Shared → Prop} (h0 : f (fun a => g fun b => f3 (K a b)) μ ν) (H : Hd S s.heap ad μ ν)
  (hq : ∀ v w z s1 ad1 sv su sz μ1 ν1, At s s1 → Le ad ad1 → Hd S s1.heap ad1 μ1 ν1 → Rp ad1 sv v → Rp ad1 su w → Rp ad1 sz z → K sv su sz μ1 ν1 → Q [v, w, z] s1) :
  wpS S (spliced (backTo pos (starEach [t.raw l d, u.raw l d, x.raw l d] S.env))) Q s :=
 args_cons (bnd (h _ _ _ _ _ h0 H) fun v s1 ad1 sv μ1 ν1 a1 l1 H1 r1 k1 => args_cons (bnd (h' _ _ _ _ _ k1 H1) fun w s2 ad2 su μ2 ν2 a2 l2 H2 r2 k2 => args_cons (bnd (h3 _ _ _ _ _ k2 H2) fun z s3 ad3 sz μ3 ν3 a3 l3 H3 r3 k3 => args_nil (hq v w z s3 ad3 sv su sz μ3 ν3 ((a1.trans a2).trans a3) ((l1.trans l2).trans l3) H3 (r1.up (l2.trans l3)) (r2.up l3) r3 k3)) (star1 (T.plain l d x) _ _)) (star1 (T.plain l d u) _ _)) (star1 (T.plain l d t) _ _)
theorem any4 {e f : PySem.Expr} (h : plainE e = true) (h2 : plainE f = true) (pos : Pos) (env : Env) : ((backTo pos (starEach [e, f] env)).any fun x => x.1) = false := by rw [star1 h, star1 h2]; rfl
theorem call3_ev (O : Ok S) {x : T} {g ef c e : Nat} (I1 : Ev S (t.raw l S.d) (ev S.d t false)) (I2 : Ev S (u.raw l S.d) (ev S.d u false)) (I3 : Ev S (x.raw l S.d) (ev S.d x false)) : Ev S (T.raw l S.d (.call3 g t u x ef c e)) (ev S.d (.call3 g t u x ef c e) false) := fun K μ ν s ad h H => by
 change (match gref S.d.F g with | some q => ev S.d t false fun a => ev S.d u false fun b => ev S.d x false fun z μ ν => S.d.C q [a, b, z] ν fun v ν => K v μ ν | none => fun _ _ => False) μ ν at h
 show wpS S (eval (.Call (.Name (nmG S.d.F g) _) [t.raw l S.d, u.raw l S.d, x.raw l S.d] [] _) S.env) _ s
 cases hg : gref S.d.F g with
 | none => rw [hg] at h; exact h.elim
 | some q =>
  rw [hg] at h
  refine el_EAA (gref_inv hg) fun p hp hq hd => ?_
  have hm := List.mem_of_getElem? hp
  have hk := (O.nm.glo p hm).2.2.2
  rw [show nmG S.d.F g = p.1 from by unfold nmG; rw [hp]]
  rw [hq] at hk
  replace hk := (Bool.or_eq_true_iff.mp (show (dictA q || keepIn (H39 S.w) (.ref q)) = true from hk)).resolve_left (by rw [hd]; exact Bool.false_ne_true)
  refine Call_ (ev_glo O hm (Q := fun fv s₁ => wpS S (callWith _ fv [] (backTo _ (starEach [t.raw l S.d, u.raw l S.d, x.raw l S.d] S.env)) []) (PX S s ad K) s₁) ?_ H)
  rw [hq]
  exact callWith_K (H39in O H) hk (args3 (K := fun a b z μ ν => S.d.C q [a, b, z] ν fun v ν => K v μ ν) I1 I2 I3 h H fun v w z s1 ad1 sv su sz μ1 ν1 a1 l1 H1 r1 r2 r3 k1 => ⟨H39in O H1, wpU a1 l1 (O.cs S.fm S.pin S.own _ _ _ _ _ _ _ _ k1 H1 ⟨v, [w, z], rfl, r1, w, [z], rfl, r2, z, [], rfl, r3, rfl⟩)⟩) (star1 (T.plain l S.d t) _ _) (any4 (T.plain l S.d u) (T.plain l S.d x) _ _)
theorem fnS_inv {g : SV} {μ : Mu} {ν : Nu} {k : Nat → Addr → KP} (h : fnS k g μ ν) : ∃ j q os, g = .o j ∧ ν[j]? = some (SO.fn q os) ∧ k j q μ ν := by
 (refine el_EERA (wO_inv h) fun j so z09 => ?_; subst z09; intro e h)
 cases so <;> first | exact ⟨j, _, _, rfl, e, h⟩ | exact h.elim
theorem fn_at {S : Sit} {h : Heap} {ad : List Addr} {μ : Mu} {ν : Nu} {k : Nat} {q : Addr} {os : List (Addr × Obj)} (H : Hd S h ad μ ν) (e : ν[k]? = some (SO.fn q os)) : FnAt q h ∧ ad[k]? = some q := by
 obtain ⟨m', nx, fz, F, N, l, R⟩ := H
 obtain ⟨a, o, h1, ⟨rfl, ⟨oc, od, fd, sl, rfl⟩, _⟩, h3⟩ := R.fro e (fun q => by cases q) rfl
 exact ⟨⟨oc, od, fd, sl, h3.get F N⟩, h1⟩
theorem callE2_ev (O : Ok S) {i ef c e : Nat} (I1 : Ev S (t.raw l S.d) (ev S.d t false)) (I2 : Ev S (u.raw l S.d) (ev S.d u false)) : Ev S (T.raw l S.d (.callE2 i t u ef c e)) (ev S.d (.callE2 i t u ef c e) false) := fun K μ ν s ad h H =>
 Call_ (bnd (cel_sound (c := c) (e := ef) O _ _ _ _ _ h H) fun fv s0 ad0 sf μ0 ν0 a0 l0 H0 r0 k0 => by
  (refine el_EEERA (fnS_inv k0) fun j q os z09 => ?_; subst z09; intro e1 k0)
  (refine el_EAr r0 fun a z09 => ?_; try clear r0; subst z09; intro e2)
  have fa := fn_at H0 e1
  rw [fa.2] at e2; cases e2
  exact callWith_F fa.1 (args2 (K := fun a b μ ν => stillS ν j q ∧ S.d.C q [a, b] ν fun v ν => K v μ ν) I1 I2 k0 H0 fun v w s1 ad1 sv su μ1 ν1 a1 l1 H1 r1 r2 k1 => let ⟨⟨_, e3⟩, k1⟩ := k1; ⟨(fn_at H1 e3).1, wpU (a0.trans a1) (l0.trans l1) (O.cs S.fm S.pin S.own _ _ _ _ _ _ _ _ k1 H1 ⟨v, [w], rfl, r1, w, [], rfl, r2, rfl⟩)⟩) (star1 (T.plain l S.d t) _ _) (any2 (T.plain l S.d u) _ _))
theorem callE3_ev (O : Ok S) {x : T} {i ef c e : Nat} (I1 : Ev S (t.raw l S.d) (ev S.d t false)) (I2 : Ev S (u.raw l S.d) (ev S.d u false)) (I3 : Ev S (x.raw l S.d) (ev S.d x false)) : Ev S (T.raw l S.d (.callE3 i t u x ef c e)) (ev S.d (.callE3 i t u x ef c e) false) := fun K μ ν s ad h H =>
 Call_ (bnd (cel_sound (c := c) (e := ef) O _ _ _ _ _ h H) fun fv s0 ad0 sf μ0 ν0 a0 l0 H0 r0 k0 => by
  (refine el_EEERA (fnS_inv k0) fun j q os z09 => ?_; subst z09; intro e1 k0)
  (refine el_EAr r0 fun a z09 => ?_; try clear r0; subst z09; intro e2)
  have fa := fn_at H0 e1
  rw [fa.2] at e2; cases e2
  exact callWith_F fa.1 (args3 (K := fun a b z μ ν => stillS ν j q ∧ S.d.C q [a, b, z] ν fun v ν => K v μ ν) I1 I2 I3 k0 H0 fun v w z s1 ad1 sv su sz μ1 ν1 a1 l1 H1 r1 r2 r3 k1 => let ⟨⟨_, e3⟩, k1⟩ := k1; ⟨(fn_at H1 e3).1, wpU (a0.trans a1) (l0.trans l1) (O.cs S.fm S.pin S.own _ _ _ _ _ _ _ _ k1 H1 ⟨v, [w, z], rfl, r1, w, [z], rfl, r2, z, [], rfl, r3, rfl⟩)⟩) (star1 (T.plain l S.d t) _ _) (any4 (T.plain l S.d u) (T.plain l S.d x) _ _))
theorem args_strs {S : Sit} {l : Nat} {ad : List Addr} (pos : Pos) : ∀ (xs : List (Str × Nat × Nat)) {s : Shared} {Q : List Value → Shared → Prop}, (∀ vs tk, RL ad (xs.map fun p => .s p.1) vs → vs.length = xs.length → Q vs { s with toks := tk }) →
  wpS S (spliced (backTo pos (starEach (xs.map fun p => PySem.Expr.Constant (.str p.1) 0 ⟨l, p.2.1, l, p.2.2⟩) S.env))) Q s := by
 intro xs
 induction xs with
 | nil => intro s Q h; exact args_nil (h [] s.toks rfl rfl)
 | cons p r ih => intro s Q h; exact args_cons (PySem.Calls.Constant_str (ih fun vs tk hi hl => h _ tk ⟨_, _, rfl, ⟨_, rfl⟩, hi⟩ (congrArg (· + 1) hl))) rfl
theorem tupS_ev {xs : List (Str × Nat × Nat)} {c e : Nat} : Ev S (T.raw l S.d (.tupS xs c e)) (ev S.d (.tupS xs c e) false) := fun K μ ν s ad h H =>
 Tuple_ (args_strs (ad := ad) _ xs fun vs tk hi hl => by
  obtain ⟨m', nx, fz, F, N, l, R⟩ := H
  exact kup_newTuple (s := { s with toks := tk }) F N (fun D h' F' N' lt => PX.new (tk' := tk) R.len (Hd.fro (so := SO.tup (List.map (fun (p : Str × Nat × Nat) => SV.s p.1) xs)) R l rfl F' N' (ltne lt) ⟨vs, rfl, hi.up ⟨_, rfl⟩⟩) (show K (.o ν.length) μ (ν ++ [SO.tup (List.map (fun (p : Str × Nat × Nat) => SV.s p.1) xs)]) from h.2)) (by rw [hl, sizeLine_eq]; have := h.1; exact Nat.le_trans (by assumption) (by decide)))
theorem compF_ev (O : Ok S) {k : CK} {j c e : Nat} {x : T} (Ie : ∀ S' : Sit, Ok S' → Both S' l t) (Ix : ∀ S' : Sit, Ok S' → Both S' l x) (I : Ev S (u.raw l S.d) (ev S.d u false)) : Ev S (T.raw l S.d (.compF k j t x u c e)) (ev S.d (.compF k j t x u c e) false) := fun K μ ν s ad h H => by
 change (match S.d.D[j]? with | none => fun _ _ => False | some cd => ev S.d u false fun a μ ν => wL a ν fun ns => ns.length ≤ 16000000 ∧ compKF k ns.length (fun K => ev { F := cd.F } x true K) (fun K => ev { F := cd.F } t false K) (fun i => .i (ns.getD i 0)) K μ ν) μ ν at h
 show wpS S (eval (.ListComp (t.raw l { F := (cdOf S.d.D j).F }) [⟨.Name (cdOf S.d.D j).x _, u.raw l S.d, [x.raw l { F := (cdOf S.d.D j).F }], 0⟩] (cdOf S.d.D j).sc _) S.env) _ s
 unfold cdOf
 cases hj : S.d.D[j]? with
 | none => rw [hj] at h; exact h.elim
 | some cd =>
  rw [hj] at h
  refine el_EAAAAAAA (O.comps cd (List.mem_of_getElem? hj)) fun cl c1 c2 c3 c4 c5 c6 c7 c8 => ?_
  obtain ⟨_, _, _, F0, _⟩ := id H
  refine LCt.ListComp_T F0 c1 c2 c3 c4 c5 (bnd (I _ _ _ _ _ h H) fun v s1 ad1 sv μ1 ν1 a1 l1 H1 r1 k1 => ?_) (fsi (T.plain l S.d u) _)
  obtain ⟨i, ns, rfl, hi, hl, k2⟩ := wL_inv k1
  refine el_EEEEA (compKF_inv k2) fun q fI fS fR e1 e2 => ?_
  exact srcLT O c7 c6 c8 (fun S' O' hd => hd ▸ (Ix S' O').2) (fun S' O' hd => hd ▸ (Ie S' O').1) hi hl e1 H1 r1 fun g ys nw ⟨m', nx, fz, hJ⟩ D h tk F' N' off => PX.up (a1.trans ⟨g, s1.toks, rfl⟩) l1 (comp_fin (s := { s1 with heap := g }) hJ F' N' off e2)
end
theorem ev_sound (l : Nat) (t : T) : ∀ S : Sit, Ok S → Both S l t := by
 induction t with
 | int n c e => exact fun S O => pb (fun K μ ν s ad h H => wpAny_Constant_int (PX.here (s := s) H rpI h)) rfl fun _ => rfl
 | str x c e => exact fun S O => pb (fun K μ ν s ad h H => PySem.Calls.Constant_str (PX.here (s := s) H rpS h)) rfl fun _ => rfl
 | bool b c e => exact fun S O => pb (fun K μ ν s ad h H => Constant_bool (PX.here (s := s) H (show Rp ad (.b b) (.bool b) from rfl) h)) rfl fun _ => rfl
 | loc i c e => exact fun S O => pb (loc_sound O) rfl fun _ => rfl
 | cel i c e => exact fun S O => pb (cel_sound O) rfl fun _ => rfl
 | glo i c e => exact fun S O => pb (glo_sound O) rfl fun _ => rfl
 | bin o a b c e ia ib => exact fun S O => pb (bin_ev (ia S O).1 (ib S O).1) rfl fun _ => rfl
 | neg a c e ia => exact fun S O => pb (fun K μ ν s ad h H => UnaryOp_ (bnd ((ia S O).1 _ _ _ _ _ h H) fun v s1 ad1 sv μ1 ν1 a1 l1 H1 r1 k1 => by
   (refine el_ER (wI_inv k1) fun x z09 => ?_; subst z09; intro k); obtain ⟨t, rfl⟩ := r1; exact neg_int (PX.up a1 l1 (PX.here (s := s1) H1 rpI k)))) rfl fun _ => rfl
 | inv a c e ia => exact fun S O => pb (fun K μ ν s ad h H => UnaryOp_ (bnd ((ia S O).1 _ _ _ _ _ h H) fun v s1 ad1 sv μ1 ν1 a1 l1 H1 r1 k1 => by
   (refine el_ER (wI_inv k1) fun x z09 => ?_; subst z09; intro k); obtain ⟨t, rfl⟩ := r1; exact invert_int (PX.up a1 l1 (PX.here (s := s1) H1 rpI (by rw [show Builtin.bitNot x = -x - 1 from by unfold Builtin.bitNot; rfl]; exact k))))) rfl fun _ => rfl
 | cmp o a b c e ia ib => exact fun S O => cmp_ev O (ia S O).1 (ib S O).1
 | not a c e ia => exact fun S O => not_ev (ia S O).2
 | or a b c e ia ib => exact fun S O => or_ev (ia S O).2 (ib S O).2
 | and a b c e ia ib => exact fun S O => and_ev (ia S O).2 (ib S O).2
 | ife x a b c e ix ia ib => exact fun S O => ife_ev (ix S O).2 (ia S O).1 (ib S O).1
 | sub a b c e ia ib => exact fun S O => pb (sub_ev O (ia S O).1 (ib S O).1) rfl fun _ => rfl
 | last a c1 e1 c2 c e ia => exact fun S O => pb (last_ev O (ia S O).1) rfl fun _ => rfl
 | sto a b c1 e1 c e ia ib => exact fun S O => pb (sto_ev O (ia S O).1 (ib S O).1) rfl fun _ => rfl
 | sfr a b c1 e1 c e ia ib => exact fun S O => pb (sfr_ev O (ia S O).1 (ib S O).1) rfl fun _ => rfl
 | srev a c2 c1 e1 c e ia => exact fun S O => pb (srev_ev O (ia S O).1) rfl fun _ => rfl
 | nil fz c e => exact fun S O => pb nil_ev rfl fun _ => rfl
 | lst a c e ia => exact fun S O => pb (lst_ev (ia S O).1) rfl fun _ => rfl
 | lstI ns c e => exact fun S O => pb lstI_ev rfl fun _ => rfl
 | tup a b c e ia ib => exact fun S O => pb (tup_ev (ia S O).1 (ib S O).1) rfl fun _ => rfl
 | dict c e => exact fun S O => pb (dict_ev O) rfl fun _ => rfl
 | call1 g a ef c e ia => exact fun S O => pb (call1_ev O (ia S O).1) rfl fun _ => rfl
 | call2 g a b ef c e ia ib => exact fun S O => pb (call2_ev O (ia S O).1 (ib S O).1) rfl fun _ => rfl
 | b1 i a ef c e ia => exact fun S O => pb (b1_ev O (ia S O).1) rfl fun _ => rfl
 | b2 i a b ef c e ia ib => exact fun S O => pb (b2_ev O (ia S O).1 (ib S O).1) rfl fun _ => rfl
 | m0 o a ea c e ia => exact fun S O => pb (m0_ev (ia S O).1) rfl fun _ => rfl
 | m1 o a b ea c e ia ib => exact fun S O => pb (m1_ev (ia S O).1 (ib S O).1) rfl fun _ => rfl
 | comp k j a b c e ia ib => exact fun S O => pb (comp_ev O ia (ib S O).1) rfl fun _ => rfl
 | compR k j a b i ef c1 e1 c e ia ib => exact fun S O => pb (compR_ev O ia (ib S O).1) rfl fun _ => rfl
 | tupS xs c e => exact fun S O => pb tupS_ev rfl fun _ => rfl
 | att o a c e ia => exact fun S O => pb (att_ev O (ia S O).1) rfl fun _ => rfl
 | meth0 o a ea c e ia => exact fun S O => pb (meth0_ev O (ia S O).1) rfl fun _ => rfl
 | meth1 o a b ea c e ia ib => exact fun S O => pb (meth1_ev O (ia S O).1 (ib S O).1) rfl fun _ => rfl
 | call3 g a b x ef c e ia ib ix => exact fun S O => pb (call3_ev O (ia S O).1 (ib S O).1 (ix S O).1) rfl fun _ => rfl
 | compF k j a x b c e ia ix ib => exact fun S O => pb (compF_ev O ia ix (ib S O).1) rfl fun _ => rfl
 | dget a b x ea c e ia ib ix => exact fun S O => pb (dget_ev O (ia S O).1 (ib S O).1 (ix S O).1) rfl fun _ => rfl
 | nilL k c e => exact fun S O => pb nilL_ev rfl fun _ => rfl
 | compO j a b c e ia ib => exact fun S O => pb (compO_ev O ia (ib S O).1) rfl fun _ => rfl
 | callE2 i a b ef c e ia ib => exact fun S O => pb (callE2_ev O (ia S O).1 (ib S O).1) rfl fun _ => rfl
 | callE3 i a b x ef c e ia ib ix => exact fun S O => pb (callE3_ev O (ia S O).1 (ib S O).1 (ix S O).1) rfl fun _ => rfl
end Mine
end
section
namespace Mine
open PySem PySem.W PySem.Calls PySem.Spec PyProof.Rows
noncomputable def AO.raw : AO → Operator
 | .add => .Add | .sub => .Sub | .mul => .Mult | .div => .FloorDiv | .bxor => .BitXor | .shl => .LShift | .bor => .BitOr
noncomputable def augS (o : AO) (a b : SV) (K : SV → Prop) : Prop := wI a fun x => wI b fun y => match o with
 | .add => K (.i (x + y))
 | .sub => K (.i (x - y))
 | .mul => IntMulOk x y ∧ K (.i (x * y))
 | .div => (0 < y ∧ y < 1073741824) ∧ K (.i (x / y))
 | .bxor => K (.i (Builtin.bitXor x y))
 | .shl => (0 ≤ y ∧ y ≤ 1000000 ∧ x.natAbs < 2 ^ 64) ∧ K (.i (x * 2 ^ y.toNat))
 | .bor => K (.i (Builtin.bitOr x y))
set_option genCtorIdx false in
inductive B where
 | nil
 | set (i : Nat) (v : T) (l c tn e : Nat) (k : B)
 | setc (i : Nat) (v : T) (l c tn e : Nat) (k : B)
 | setR (i : Nat) (ck : CK) (j : Nat) (elt n : T) (bi ef c1 e1 l c tn vc e : Nat) (k : B)
 | sset (o i v : T) (l c tn e : Nat) (k : B)
 | unp (i j : Nat) (v : T) (l c c1 c2 tn e : Nat) (k : B)
 | aug (i : Nat) (o : AO) (v : T) (l c tn e : Nat) (k : B)
 | augs (o i : T) (op : AO) (v : T) (l c tn e : Nat) (k : B)
 | expr (v : T) (l c e : Nat) (k : B)
 | ite (t : T) (b o : B) (l c l2 e : Nat) (k : B)
 | whl (t : T) (b : B) (l c l2 e : Nat) (k : B)
 | forL (i : Nat) (it : T) (b : B) (l c c1 e1 l2 e : Nat) (k : B)
 | forR (i : Nat) (bi : Nat) (x : T) (ef c2 e2 : Nat) (b : B) (l c c1 e1 l2 e : Nat) (k : B)
 | forR2 (i : Nat) (bi : Nat) (x y : T) (ef c2 e2 : Nat) (b : B) (l c c1 e1 l2 e : Nat) (k : B)
 | setF (i : Nat) (ck : CK) (j : Nat) (elt tst it : T) (l c tn vc e : Nat) (k : B)
 | setRF (i : Nat) (ck : CK) (j : Nat) (elt tst n : T) (bi ef c1 e1 l c tn vc e : Nat) (k : B)
 | forV (i : Nat) (bi : Nat) (x : T) (ef c2 e2 : Nat) (b : B) (l c c1 e1 l2 e : Nat) (k : B)
 | forE (i : Nat) (bi : Nat) (x : T) (ef c2 e2 : Nat) (b o : B) (l c c1 e1 l2 e : Nat) (k : B)
 | forC2 (i : Nat) (bi : Nat) (x y : T) (ef c2 e2 : Nat) (b : B) (l c c1 e1 l2 e : Nat) (k : B)
 | forC3 (i : Nat) (bi : Nat) (x y z : T) (ef c2 e2 : Nat) (b : B) (l c c1 e1 l2 e : Nat) (k : B)
 | any (xs : List Stmt)
 | ret0 (l c e : Nat) (k : B)
 | fgt (bs cs : List Bool) (k : B)
 | ret (v : T) (l c e : Nat) (k : B)
 | brk (l c e : Nat) (k : B)
noncomputable def B.raw (d : Df) : B → List Stmt
 | .nil => []
 | .set i v l c tn e k => .Assign [.Name (nmL d.F i) ⟨l, c, l, tn⟩] (v.raw l d) ⟨l, c, l, e⟩ :: k.raw d
 | .setc i v l c tn e k => .Assign [.Name (nmC d.F i) ⟨l, c, l, tn⟩] (v.raw l d) ⟨l, c, l, e⟩ :: k.raw d
 | .setR i ck j elt n bi ef c1 e1 l c tn vc e k => .Assign [.Name (nmL d.F i) ⟨l, c, l, tn⟩] ((T.compR ck j elt n bi ef c1 e1 vc e).raw l d) ⟨l, c, l, e⟩ :: k.raw d
 | .sset o i v l c tn e k => .Assign [.Subscript (o.raw l d) (i.raw l d) ⟨l, c, l, tn⟩] (v.raw l d) ⟨l, c, l, e⟩ :: k.raw d
 | .unp i j v l c c1 c2 tn e k => .Assign [.Tuple [.Name (nmL d.F i) ⟨l, c, l, c1⟩, .Name (nmL d.F j) ⟨l, c2, l, tn⟩] 0 ⟨l, c, l, tn⟩] (v.raw l d) ⟨l, c, l, e⟩ :: k.raw d
 | .aug i o v l c tn e k => .AugAssign (.Name (nmL d.F i) ⟨l, c, l, tn⟩) o.raw (v.raw l d) ⟨l, c, l, e⟩ :: k.raw d
 | .augs o i op v l c tn e k => .AugAssign (.Subscript (o.raw l d) (i.raw l d) ⟨l, c, l, tn⟩) op.raw (v.raw l d) ⟨l, c, l, e⟩ :: k.raw d
 | .expr v l c e k => .Expr (v.raw l d) ⟨l, c, l, e⟩ :: k.raw d
 | .ite t b o l c l2 e k => .If (t.raw l d) (b.raw d) (o.raw d) ⟨l, c, l2, e⟩ :: k.raw d
 | .whl t b l c l2 e k => .While (t.raw l d) (b.raw d) [] ⟨l, c, l2, e⟩ :: k.raw d
 | .forL i it b l c c1 e1 l2 e k => .For (.Name (nmL d.F i) ⟨l, c1, l, e1⟩) (it.raw l d) (b.raw d) [] ⟨l, c, l2, e⟩ :: k.raw d
 | .forR i bi x ef c2 e2 b l c c1 e1 l2 e k => .For (.Name (nmL d.F i) ⟨l, c1, l, e1⟩) (.Call (.Name (nmB d.F bi) ⟨l, c2, l, ef⟩) [x.raw l d] [] ⟨l, c2, l, e2⟩) (b.raw d) [] ⟨l, c, l2, e⟩ :: k.raw d
 | .forR2 i bi x y ef c2 e2 b l c c1 e1 l2 e k => .For (.Name (nmL d.F i) ⟨l, c1, l, e1⟩) (.Call (.Name (nmB d.F bi) ⟨l, c2, l, ef⟩) [x.raw l d, y.raw l d] [] ⟨l, c2, l, e2⟩) (b.raw d) [] ⟨l, c, l2, e⟩ :: k.raw d
 | .ret v l c e k => .Return (some (v.raw l d)) ⟨l, c, l, e⟩ :: k.raw d
 | .setF i ck j elt tst it l c tn vc e k => .Assign [.Name (nmL d.F i) ⟨l, c, l, tn⟩] ((T.compF ck j elt tst it vc e).raw l d) ⟨l, c, l, e⟩ :: k.raw d
 | .setRF i ck j elt tst n bi ef c1 e1 l c tn vc e k => .Assign [.Name (nmL d.F i) ⟨l, c, l, tn⟩] (rawRF l d j elt tst n bi ef c1 e1 vc e) ⟨l, c, l, e⟩ :: k.raw d
 | .forV i bi x ef c2 e2 b l c c1 e1 l2 e k => .For (.Name (nmL d.F i) ⟨l, c1, l, e1⟩) (.Call (.Name (nmB d.F bi) ⟨l, c2, l, ef⟩) [x.raw l d] [] ⟨l, c2, l, e2⟩) (b.raw d) [] ⟨l, c, l2, e⟩ :: k.raw d
 | .forE i bi x ef c2 e2 b o l c c1 e1 l2 e k => .For (.Name (nmL d.F i) ⟨l, c1, l, e1⟩) (.Call (.Name (nmB d.F bi) ⟨l, c2, l, ef⟩) [x.raw l d] [] ⟨l, c2, l, e2⟩) (b.raw d) (o.raw d) ⟨l, c, l2, e⟩ :: k.raw d
 | .forC2 i bi x y ef c2 e2 b l c c1 e1 l2 e k => .For (.Name (nmC d.F i) ⟨l, c1, l, e1⟩) (.Call (.Name (nmB d.F bi) ⟨l, c2, l, ef⟩) [x.raw l d, y.raw l d] [] ⟨l, c2, l, e2⟩) (b.raw d) [] ⟨l, c, l2, e⟩ :: k.raw d
 | .forC3 i bi x y z ef c2 e2 b l c c1 e1 l2 e k => .For (.Name (nmC d.F i) ⟨l, c1, l, e1⟩) (.Call (.Name (nmB d.F bi) ⟨l, c2, l, ef⟩) [x.raw l d, y.raw l d, z.raw l d] [] ⟨l, c2, l, e2⟩) (b.raw d) [] ⟨l, c, l2, e⟩ :: k.raw d
 | .any xs => xs
 | .ret0 l c e k => .Return none ⟨l, c, l, e⟩ :: k.raw d
 | .fgt _ _ k => k.raw d
 | .brk l c e k => .Break ⟨l, c, l, e⟩ :: k.raw d
noncomputable def okW (F : Fn) (bs : List Bool) (μ : Mu) (ν : Nu) : Bool := match Nat.beq bs.length F.ns.length with | true => wkB F.cs μ ν | false => false
noncomputable def mvV (p q : Nat) (sv : SV) : SV := match sv with | .o k => (match Nat.beq k q with | true => .o p | false => (match Nat.beq k p with | true => .u | false => .o k)) | sv => sv
noncomputable def mvN (p q : Nat) (ν : Nu) : Nu := match ν[q]? with | some so => (ν.set p so).set q .junk | none => ν
noncomputable def noI (p : Nat) (sv : SV) : Bool := match sv with | .o k => !Nat.beq k p | _ => true
noncomputable def noR (p : Nat) (so : SO) : Bool := match so with | .cell sv => noI p sv | .fcell sv => noI p sv | .tup svs => allB (noI p) svs | .fld _ fs => fs.all fun q => noI p q.2 | _ => true
noncomputable def okMv (F : Fn) (p q : Nat) (ν : Nu) : Bool := Nat.blt p ν.length && (Nat.blt q ν.length && (!Nat.beq p q && (allB (noR p) ν && allB (fun c => !Nat.beq c.1 p) F.cs)))
noncomputable def In0 (F : Fn) (J : KP) : KP := fun μ ν => ∃ bs cs, okW F bs (maskM bs μ) (maskN cs ν) = true ∧ J (maskM bs μ) (maskN cs ν)
noncomputable def InJ (F : Fn) (J : KP) : KP := fun μ ν => ∃ mv : Option (Nat × Nat), match mv with
 | none => In0 F J μ ν
 | some r => okMv F r.1 r.2 ν = true ∧ In0 F J (μ.map (mvV r.1 r.2)) (mvN r.1 r.2 ν)
noncomputable def stoK (i : Nat) (v : SV) (K : KP) : KP := fun μ ν => match μ[i]? with | some _ => K (μ.set i v) ν | none => False
noncomputable def loopK (F : Fn) (more : KP) (KN : KP) (K : KF) : KF := fun f => match f with
 | .next => more
 | .cont => more
 | .brk => KN
 | .ret v => K (.ret v)
noncomputable def thenK (KN : KP) (K : KF) : KF := fun f => match f with
 | .next => KN
 | f => K f
noncomputable def forGK (F : Fn) (vals : Nat → KV → KP) (sto : SV → KP → KP) (cnt : Nat) (body : KF → KP) (KE KN : KP) (K : KF) : KP := fun μ ν =>
 ∃ J : Nat → Mu → Nu → Prop, InJ F (J 0) μ ν ∧ (∀ n μ ν, n < cnt → J n μ ν → vals n (fun sv => sto sv (body (loopK F (InJ F (J (n + 1))) KN K))) μ ν) ∧ ∀ μ ν, J cnt μ ν → KE μ ν
noncomputable abbrev forK (F : Fn) (i : Nat) (cnt : Nat) (val : Nat → SV) (body : KF → KP) (KN : KP) (K : KF) : KP := forGK F (fun n Q => Q (val n)) (stoK i) cnt body KN KN K
noncomputable def stoC (F : Fn) (i : Nat) (v : SV) (K : KP) : KP := fun μ ν => match F.cs[i]? with
 | some p => (match ν[p.1]? with | some (.cell _) => K μ (ν.set p.1 (.cell v)) | _ => False)
 | none => False
noncomputable def In (F : Fn) (J : Nat → KP) (n : Nat) : KP := fun μ ν => ∃ n', n' < n ∧ InJ F (J n') μ ν
noncomputable def whlK (F : Fn) (test : KV → KP) (body : KF → KP) (KN : KP) (K : KF) : KP := fun μ ν => ∃ (J : Nat → Mu → Nu → Prop) (n₀ : Nat), InJ F (J n₀) μ ν ∧ ∀ n μ ν, J n μ ν → test (fun v => ifB v (body (loopK F (In F J n) KN K)) KN) μ ν
noncomputable def ssetS (a b v : SV) (ν : Nu) (K : Nu → Prop) : Prop := wO a ν fun k so => match so with
 | .ints ns => wI b fun x => wI v fun y => (0 ≤ x ∧ x < ns.length ∧ ns.length ≤ 16000000) ∧ K (ν.set k (.ints (ns.set x.toNat y)))
 | .dict c => wI b fun x => wI v fun y => c.length ≤ 16777216 ∧ K (ν.set k (.dict (kdfPut c x y)))
 | _ => False
noncomputable def T.isC (t : T) : Bool := match t with | .comp _ _ _ _ _ _ => true | .compR _ _ _ _ _ _ _ _ _ _ => true | .compF _ _ _ _ _ _ _ => true | .compO _ _ _ _ _ => true | _ => false
noncomputable def T.isT (t : T) : Bool := match t with | .tup _ _ _ _ => true | .tupS _ _ _ => true | _ => false
noncomputable def onlyB (b : Bool) (K : KP) : KP := match b with | false => K | true => fun _ _ => False
theorem onlyB_inv {b : Bool} {K : KP} {μ : Mu} {ν : Nu} (h : onlyB b K μ ν) : b = false ∧ K μ ν := by cases b <;> first | exact ⟨rfl, h⟩ | exact h.elim
noncomputable def inB (d : Df) (i : Nat) (K : KP) : KP := match d.F.ns[i]? with | some _ => K | none => fun _ _ => False
theorem inB_inv {d : Df} {i : Nat} {K : KP} {μ : Mu} {ν : Nu} (h : inB d i K μ ν) : i < d.F.ns.length ∧ K μ ν := by
 unfold inB at h
 cases e : d.F.ns[i]? with
 | none => rw [e] at h; exact h.elim
 | some x => rw [e] at h; exact ⟨lt_of_get e, h⟩
noncomputable def setB (d : Df) (i j : Nat) : Bool := match d.F.ns[i]? with
 | some x => (match d.D[j]? with | some cd => cd.sc.names.any fun y => y.1 == x && (y.2 == .local || y.2 == .cell) | none => true)
 | none => true
theorem setB_inv {d : Df} {i j : Nat} (h : setB d i j = false) : i < d.F.ns.length ∧ ∀ cd, d.D[j]? = some cd → (cd.sc.names.any fun y => y.1 == nmL d.F i && (y.2 == .local || y.2 == .cell)) = false := by
 unfold setB at h
 unfold nmL
 cases e : d.F.ns[i]? with
 | none => rw [e] at h; cases h
 | some x =>
  refine ⟨lt_of_get e, fun cd hcd => ?_⟩
  rw [e, hcd] at h
  exact h
noncomputable def st (d : Df) : B → KF → KP
 | .nil, K => K .next
 | .set i v _ _ _ _ k, K => onlyB v.isC (ev d v false fun sv => stoK i sv (st d k K))
 | .setc i v _ _ _ _ k, K => onlyB v.isC (ev d v false fun sv => stoC d.F i sv (st d k K))
 | .setR i ck j elt n bi _ _ _ _ _ _ _ _ k, K => onlyB (setB d i j) (ev d (.compR ck j elt n bi 0 0 0 0 0) false fun sv => stoK i sv (st d k K))
 | .sset o i v _ _ _ _ k, K => onlyB v.isC (ev d v false fun sv => ev d o false fun a => ev d i false fun b μ ν => ssetS a b sv ν fun ν => st d k K μ ν)
 | .unp i j v _ _ _ _ _ _ k, K => onlyB v.isC (onlyB v.isT (ev d v false fun sv μ ν => wO sv ν fun _ so => match so with
  | .tup svs => ∃ a b, svs = [a, b] ∧ stoK i a (stoK j b (st d k K)) μ ν
  | .nrm cnt b => stoK i (.o ν.length) (stoK j (.i b) (st d k K)) μ (ν ++ [.ti cnt])
  | _ => False))
 | .aug i o v _ _ _ _ k, K => ev d (.loc i 0 0) false fun a => ev d v false fun b μ ν => augS o a b fun r => stoK i r (st d k K) μ ν
 | .augs o i op v _ _ _ _ k, K => ev d o false fun a => ev d i false fun b μ ν => wOwn a ν fun q ns => wI b fun x => (0 ≤ x ∧ x < ns.length ∧ ns.length ≤ 16000000) ∧
   ev d v false (fun y μ ν => augS op (.i (ns.getD x.toNat 0)) y fun r => ssetS a b r ν fun ν => st d k K μ ν) μ ν
 | .expr v _ _ _ k, K => onlyB v.isC (ev d v false fun _ => st d k K)
 | .ite t b o _ _ _ _ k, K => ev d t true fun v => ifB v (st d b (thenK (st d k K) K)) (st d o (thenK (st d k K) K))
 | .whl t b _ _ _ _ k, K => whlK d.F (ev d t true) (st d b) (st d k K) K
 | .forL i it b _ _ _ _ _ _ k, K => inB d i (ev d it false fun a μ ν => wO a ν fun _ so => match so with
  | .ro ns => forK d.F i ns.length (fun n => .i (ns.getD n 0)) (st d b) (st d k K) K μ ν
  | .rrows rs => forGK d.F (fun n Q μ ν => Q (.o ν.length) μ (ν ++ [.ro (rs.getD n [])])) (stoK i) rs.length (st d b) (st d k K) (st d k K) K μ ν
  | _ => False)
 | .forR i bi x _ _ _ b _ _ _ _ _ _ k, K => inB d i (match d.F.bi[bi]? with
  | some .range => ev d x false fun a μ ν => wI a fun z => (-2 ^ 62 ≤ z ∧ z < 2 ^ 62) ∧ forK d.F i z.toNat (fun n => .i (n : Int)) (st d b) (st d k K) K μ ν
  | _ => fun _ _ => False)
 | .forR2 i bi x y _ _ _ b _ _ _ _ _ _ k, K => inB d i (match d.F.bi[bi]? with
  | some .range => ev d x false fun a => ev d y false fun a' μ ν => wI a fun w => wI a' fun z => (-2 ^ 62 ≤ w ∧ w < 2 ^ 62 ∧ -2 ^ 62 ≤ z ∧ z < 2 ^ 62) ∧ forK d.F i (z - w).toNat (fun n => .i (w + (n : Int))) (st d b) (st d k K) K μ ν
  | _ => fun _ _ => False)
 | .ret v _ _ _ k, K => ev d v false fun sv => K (.ret sv)
 | .brk _ _ _ k, K => K .brk
 | .setF i ck j elt tst it _ _ _ _ _ k, K => onlyB (setB d i j) (ev d (.compF ck j elt tst it 0 0) false fun sv => stoK i sv (st d k K))
 | .setRF i ck j elt tst n bi _ _ _ _ _ _ _ _ k, K => onlyB (setB d i j) (compRFS d ck j elt tst n bi fun sv => stoK i sv (st d k K))
 | .forV i bi x _ _ _ b _ _ _ _ _ _ k, K => inB d i (match d.F.bi[bi]? with
  | some .reversed => ev d x false fun a μ ν => wO a ν fun _ so => (match so with
   | .ro ns => forK d.F i ns.length (fun n => .i (ns.getD (ns.length - 1 - n) 0)) (st d b) (st d k K) K μ ν
   | _ => False)
  | _ => fun _ _ => False)
 | .forE i bi x _ _ _ b o _ _ _ _ _ _ k, K => inB d i (match d.F.bi[bi]? with
  | some .range => ev d x false fun a μ ν => wI a fun z => (-2 ^ 62 ≤ z ∧ z < 2 ^ 62) ∧ forGK d.F (fun n Q => Q (.i (n : Int))) (stoK i) z.toNat (st d b) (st d o (thenK (st d k K) K)) (st d k K) K μ ν
  | _ => fun _ _ => False)
 | .forC2 i bi x y _ _ _ b _ _ _ _ _ _ k, K => match d.F.bi[bi]? with
  | some .range => ev d x false fun a => ev d y false fun a' μ ν => wI a fun w => wI a' fun z => (-2 ^ 62 ≤ w ∧ w < 2 ^ 62 ∧ -2 ^ 62 ≤ z ∧ z < 2 ^ 62) ∧ forGK d.F (fun n Q => Q (.i (w + (n : Int)))) (stoC d.F i) (z - w).toNat (st d b) (st d k K) (st d k K) K μ ν
  | _ => fun _ _ => False
 | .forC3 i bi x y z _ _ _ b _ _ _ _ _ _ k, K => match d.F.bi[bi]? with
  | some .range => ev d x false fun a => ev d y false fun a' => ev d z false fun a'' μ ν => wI a fun w => wI a' fun z => wI a'' fun q => ∃ cnt : Nat, (q ≠ 0 ∧ q.natAbs < 1073741824 ∧ Builtin.Range.small w z q = true ∧ Builtin.Range.rangeSize w z q = (cnt : Int)) ∧ forGK d.F (fun n Q => Q (.i (w + (n : Int) * q))) (stoC d.F i) cnt (st d b) (st d k K) (st d k K) K μ ν
  | _ => fun _ _ => False
 | .any _, _ => fun _ _ => False
 | .ret0 _ _ _ _, K => K (.ret (.v .none))
 | .fgt bs cs k, K => fun μ ν => okW d.F bs (maskM bs μ) (maskN cs ν) = true ∧ st d k K (maskM bs μ) (maskN cs ν)
end Mine
end
section
namespace Mine
open PySem PySem.W PySem.Calls PySem.Spec PyProof.Rows
noncomputable abbrev Sit.at (S : Sit) (fm : Str → Option Value) : Sit := { S with fm := fm }
noncomputable abbrev Sit.pn (S : Sit) (pin : List (Addr × Obj)) : Sit := { S with pin := pin }
theorem Ok.at {S : Sit} (O : Ok S) (fm : Str → Option Value) : Ok (S.at fm) := ⟨O.nm, O.nod, O.hnd, O.units, O.rdy, O.cs, O.comps⟩
theorem Ok.pn {S : Sit} (O : Ok S) (pin : List (Addr × Obj)) : Ok (S.pn pin) := ⟨O.nm, O.nod, O.hnd, O.units, O.rdy, O.cs, O.comps⟩
noncomputable def RF (ad : List Addr) (sf : SF) (f : Flow) : Prop := match sf with
 | .next => f = .next
 | .brk => f = .brk
 | .cont => f = .cont
 | .ret sv => ∃ v, f = .ret v ∧ Rp ad sv v
noncomputable def PS (S : Sit) (s : Shared) (K : KF) (f : Flow) (s' : Shared) : Prop := ∃ fm ad' sf μ' ν', At s s' ∧ Hd (S.at fm) s'.heap ad' μ' ν' ∧ RF ad' sf f ∧ K sf μ' ν'
noncomputable abbrev Bl (S : Sit) (b : List Stmt) (f : KF → KP) : Prop := ∀ (fm : Str → Option Value) (K : KF) (μ : Mu) (ν : Nu) (s : Shared) (ad : List Addr), f K μ ν → Hd (S.at fm) s.heap ad μ ν → wpS S (execs b S.env) (PS S s K) s
section
variable {S : Sit} {s s' : Shared} {ad ad' : List Addr} {μ : Mu} {ν : Nu} {K : KF} {a b sv : SV} {v va vb : Value} {h h' : Heap} {tk' : Nat} {fm : Str → Option Value} {l : Nat} {t u : T}
theorem PS.up {f : Flow} {s'' : Shared} (a : At s s') (z : PS S s' K f s'') : PS S s K f s'' := el_EEEEEA z fun fm ad2 sf μ' ν' a2 r => ⟨fm, ad2, sf, μ', ν', a.trans a2, r⟩
theorem wpP {x : Sem Flow} (a : At s s') (h : wpS S x (PS S s' K) s') : wpS S x (PS S s K) s' := wpAny_mono h (fun _ _ x => x.up a) fun _ _ x => x
theorem seq {x : Stmt} {r : List Stmt} {K' : KF} (h : wpS S (exec x S.env) (PS S s K') s) (k : ∀ fm μ' ν' s' ad', K' .next μ' ν' → Hd (S.at fm) s'.heap ad' μ' ν' → wpS S (execs r S.env) (PS S s' K) s') (hb : ∀ μ ν, K' .brk μ ν → K .brk μ ν) (hc : ∀ μ ν, K' .cont μ ν → K .cont μ ν) (hr : ∀ sv μ ν, K' (.ret sv) μ ν → K (.ret sv) μ ν) :
  wpS S (execs (x :: r) S.env) (PS S s K) s :=
 wpAny_execs_cons (wpAny_mono h (fun f s1 q => el_EEEEEAAA q fun fm ad' sf μ' ν' a1 H1 r1 k1 => by
  cases sf with
  | next => cases r1; exact wpP a1 (k fm μ' ν' s1 ad' k1 H1)
  | brk => cases r1; exact ⟨fm, ad', .brk, μ', ν', a1, H1, rfl, hb _ _ k1⟩
  | cont => cases r1; exact ⟨fm, ad', .cont, μ', ν', a1, H1, rfl, hc _ _ k1⟩
  | ret sv => (refine el_ER r1 fun v z09 => ?_; try clear r1; subst z09; intro r1); exact ⟨fm, ad', .ret sv, μ', ν', a1, H1, ⟨v, rfl, r1⟩, hr _ _ _ k1⟩) fun _ _ x => x)
theorem seqN {x : Stmt} {r : List Stmt} {P : KP} (h : wpS S (exec x S.env) (fun f s' => f = .next ∧ ∃ fm ad' μ' ν', At s s' ∧ Hd (S.at fm) s'.heap ad' μ' ν' ∧ P μ' ν') s) (k : ∀ fm μ' ν' s' ad', P μ' ν' → Hd (S.at fm) s'.heap ad' μ' ν' → wpS S (execs r S.env) (PS S s' K) s') :
  wpS S (execs (x :: r) S.env) (PS S s K) s :=
 wpAny_execs_cons (wpAny_mono h (fun f s1 q => el_AEEEEAA q fun fm ad' μ' ν' e a1 H1 k1 => by subst e; exact wpP a1 (k fm μ' ν' s1 ad' k1 H1)) fun _ _ x => x)
noncomputable abbrev PN (S : Sit) (s : Shared) (P : KP) (f : Flow) (s' : Shared) : Prop := f = .next ∧ ∃ fm ad' μ' ν', At s s' ∧ Hd (S.at fm) s'.heap ad' μ' ν' ∧ P μ' ν'
theorem swap_no {d : Df} {t : T} (h : t.isC = false) (x : Option PySem.Expr) (n : Nat) (env : Env) : swapsWith (t.raw l d) x n env = pure false := by cases t <;> first | rfl | cases h
theorem swap_t {d : Df} {t : T} (h : t.isT = false) (es : List PySem.Expr) (k : Nat) (p : Pos) (env : Env) : swappedStores [.Tuple es k p] (t.raw l d) env = pure none := by cases t <;> first | rfl | cases h
theorem stoK_inv {i : Nat} {P : KP} (h : stoK i sv P μ ν) : i < μ.length ∧ P (μ.set i sv) ν := by
 unfold stoK at h
 cases e : μ[i]? with
 | none => rw [e] at h; exact h.elim
 | some x => rw [e] at h; exact ⟨lt_of_get e, h⟩
theorem nm_get (O : Ok S) {i : Nat} (hl : i < S.d.F.ns.length) : S.d.F.ns[i]? = some (nmL S.d.F i) ∧ S.env.kindOf (nmL S.d.F i) = some .local := by
 have : S.d.F.ns[i]? = some (nmL S.d.F i) := by unfold nmL; rw [List.getElem?_eq_getElem hl]
 exact ⟨this, (O.nm.loc _ (List.mem_of_getElem? this)).1⟩
theorem not_cls (O : Ok S) : (S.env.scope.kind == ScopeKind.class || (S.env.scope.kind == ScopeKind.module && S.env.locals != S.env.globals)) = false := by rw [O.nm.kind]; rfl
theorem Hd.sto {i : Nat} {m' : Str → Option Value} {nx fz : List (Addr × Obj)} (O : Ok S) (hf : S.env.locals = S.L) (hl : i < μ.length) (N : News S.h₀ S.L h (ledg S nx fz)) (l : Loc (S.at fm) m') (R : Rel (S.at fm) ad μ ν m' nx fz) {nx2 fz2 : List (Addr × Obj)} {so : List SO} {ad2 : List Addr}
  (F' : Fr S.h₀ S.L h' (fun y => if y = nmL S.d.F i then some v else fm y)) (N' : News S.h₀ S.L h' (ledg S nx2 fz2)) (R2 : Rel (S.at fm) (ad ++ ad2) μ (ν ++ so) m' nx2 fz2) (r : Rp (ad ++ ad2) sv v) :
  Hd (S.at fun y => if y = nmL S.d.F i then some v else fm y) h' (ad ++ ad2) (μ.set i sv) (ν ++ so) := by
 have hm : m' = fm := by
  rcases l with l | ⟨oC, hm, _⟩
  ·exact l.2
  ·exact absurd hf (N _ (List.mem_append_right _ (List.mem_append_right _ hm))).2.1
 subst hm
 have q := R2.sto O.nod (i := i) (nm_get O (by rw [← R.mlen]; exact hl)).1 r
 exact ⟨_, nx2, fz2, F', N', .inl ⟨hf, rfl⟩, ⟨q.mlen, q.names, q.len, q.pl, q.nod, q.off, q.offz, q.dis, q.pin, q.cells⟩⟩
theorem sto_sound (O : Ok S) (hf : S.env.locals = S.L) {i : Nat} {P : KP} (k : stoK i sv P μ ν) (H : Hd (S.at fm) s.heap ad μ ν) (r : Rp ad sv v) {Q : Unit → Shared → Prop}
  (hq : ∀ fm' h' tk μ', Hd (S.at fm') h' ad μ' ν → P μ' ν → Q () { s with heap := h', toks := tk }) : wpS S (storeName S.env (nmL S.d.F i) v) Q s := by
 obtain ⟨hl, k⟩ := stoK_inv k
 obtain ⟨m', nx, fz, F, N, l, R⟩ := H
 refine wpAny_storeName_local (nm_get O (by rw [← R.mlen]; exact hl)).2 (hf ▸ F.ns) (fun h' hn hs => ?_) (not_cls O)
 have := Hd.sto O hf hl N l R (so := []) (ad2 := []) (F.set (hf ▸ hn) (hf ▸ hs)) (N.set (hf ▸ hs)) (by rw [List.append_nil, List.append_nil]; exact R) (by rw [List.append_nil]; exact r)
 rw [List.append_nil, List.append_nil] at this
 exact hq _ h' _ _ this k
theorem set_st (O : Ok S) (hf : S.env.locals = S.L) {i c tn e : Nat} {k : B} (hc : t.isC = false) {P : KP} (h : ev S.d t false (fun sv => stoK i sv P) μ ν) (H : Hd (S.at fm) s.heap ad μ ν) :
  wpS S (exec (.Assign [.Name (nmL S.d.F i) ⟨l, c, l, tn⟩] (t.raw l S.d) ⟨l, c, l, e⟩) S.env) (PN S s P) s :=
 wpAny_Assign_Name (bnd (S := S.at fm) ((ev_sound l t _ (O.at fm)).1 _ _ _ _ _ h H) fun v s1 ad1 sv μ1 ν1 a1 l1 H1 r1 k1 =>
  sto_sound O hf k1 H1 r1 fun fm' h' tk μ' H2 k2 => ⟨rfl, fm', _, _, _, a1.trans ⟨h', tk, rfl⟩, H2, k2⟩) (swap_no hc _ _ _)
theorem stoC_sound (O : Ok S) {i : Nat} {P : KP} (k1 : stoC S.d.F i sv P μ ν) (H : Hd (S.at fm) s.heap ad μ ν) (r : Rp ad sv v) {Q : Unit → Shared → Prop}
  (hq : ∀ h' ν', Hd (S.at fm) h' ad μ ν' → P μ ν' → Q () { s with heap := h' }) : wpS S (storeName S.env (nmC S.d.F i) v) Q s := by
 unfold stoC at k1
 unfold nmC
 cases hi : S.d.F.cs[i]? with
 | none => rw [hi] at k1; exact k1.elim
 | some p =>
  rw [hi] at k1
  dsimp only at k1 ⊢
  cases hc : ν[p.1]? with
  | none => rw [hc] at k1; exact k1.elim
  | some so =>
   rw [hc] at k1
   cases so with
   | cell ov =>
    obtain ⟨m', nx, fz, F, N, l, R⟩ := H
    refine el_EA (R.cells p (List.mem_of_getElem? hi)) fun c h1 h2 => ?_
    refine el_EEEAAAA (R.upd hc rfl) fun D o f g1 g2 g3 g4 g5 => ?_
    obtain rfl := Option.some.inj (h2.symm.trans g1)
    have hd : ∃ v₀, o.data = .cell v₀ := by
     cases ov with
     | u => exact g3
     | _ => (refine el_EA g3 fun v => ?_; try clear g3; intro g3 _); exact ⟨_, g3⟩
    obtain ⟨v₀, hd⟩ := hd
    refine el_EEAAA (g4.split) fun own rest e1 e2 e3 e4 => ?_
    have hmem := N (c, o) (by rw [e1]; exact List.mem_append_right _ (.head _))
    have stc : (∀ h', h'.IsCell c (some v) → Heap.SameBut c s.heap h' → Q () { s with heap := h' }) → wpS S (storeName S.env p.2 v) Q s := fun k => (O.nm.cel _ (List.mem_of_getElem? hi)).1.elim (fun q => wpAny_storeName_cell O.nm.kind q h1 ⟨o, hmem.1, hd⟩ k) fun q => storeName_free O.nm.kind q.1 h1 ⟨o, hmem.1, hd⟩ k
    refine stc fun h' hv hs => ?_
    (refine el_EA hv fun o' => ?_; try clear hv; intro ho' hd')
    refine hq h' _ ⟨m', f o', fz, ⟨F.ns.sameBut hs (Ne.symm hmem.2.1), fun b ob e => (hs.2 b (fun q => ?_)).trans (F.keep b ob e), F.above⟩, ?_, l, g5 o' (.cell sv) rfl ?_⟩ k1
    ·rw [q, hmem.2.2] at e; cases e
    ·rw [e2 o']; exact News.setAt (e1 ▸ N) e3 e4 hs ho'
    ·cases sv with
     | u => exact ⟨_, hd'⟩
     | _ => exact ⟨v, hd', r⟩
   | _ => exact k1.elim
theorem setc_st (O : Ok S) {i c tn e : Nat} {k : B} (hc : t.isC = false) {P : KP} (h : ev S.d t false (fun sv => stoC S.d.F i sv P) μ ν) (H : Hd (S.at fm) s.heap ad μ ν) :
  wpS S (exec (.Assign [.Name (nmC S.d.F i) ⟨l, c, l, tn⟩] (t.raw l S.d) ⟨l, c, l, e⟩) S.env) (PN S s P) s :=
 wpAny_Assign_Name (bnd (S := S.at fm) ((ev_sound l t _ (O.at fm)).1 _ _ _ _ _ h H) fun v s1 ad1 sv μ1 ν1 a1 l1 H1 r1 k1 =>
  stoC_sound O k1 H1 r1 fun h' ν' H2 k2 => ⟨rfl, fm, ad1, μ1, ν', a1.trans ⟨h', s1.toks, rfl⟩, H2, k2⟩) (swap_no hc _ _ _)
end
end Mine
end
section
namespace Mine
open PySem PySem.W PySem.Calls PySem.Spec PyProof.Rows
section
variable {S : Sit} {s s' : Shared} {ad ad' : List Addr} {μ : Mu} {ν : Nu} {K : KF} {a b sv : SV} {v va vb : Value} {h h' : Heap} {tk' : Nat} {fm : Str → Option Value} {l : Nat} {t u x : T}
theorem comp_sto (O : Ok S) (hf : S.env.locals = S.L) {i : Nat} {P : KP} {ck : CK} {n : List Nat} {fI : Nat → Int} {fS : Nat → Str} {fR : Nat → List Int} (e2 : compE ck n fI fS fR (fun sv => stoK i sv P) μ ν) {s1 : Shared} (a1 : At s s1) {ys : List Value} {nw : List (Addr × Obj)} (hJ : JCx (S.at fm) ad μ ν ck fI fS fR n ys nw)
  {D : Addr} {tk : Nat} (F' : Fr S.h₀ S.L h' (fun z => if z = nmL S.d.F i then some (.ref D) else fm z)) (N' : News S.h₀ S.L h' ((D, LCg.lst ys) :: nw)) (off : LCg.Off1 D nw) (N : News S.h₀ S.L h nw) : PN S s P .next { s1 with heap := h', toks := tk } := by
 (refine el_EEE hJ fun m' nx fz => ?_; try clear hJ; intro hJ)
 (refine el_EERAAA (comp_rel hJ off e2) fun so fz1 z09 => ?_; subst z09; intro R2 l2 k2 hl)
 (refine el_EAAAA hJ fun fz2 => ?_; try clear hJ; intro e hz R l res)
 obtain ⟨hi, k3⟩ := stoK_inv k2
 have hm : m' = fm := by
  rcases l2 with l2 | ⟨oC, hm, _⟩
  ·exact l2.2
  ·exact absurd hf (N _ (List.mem_append_right _ (List.mem_append_right _ hm))).2.1
 subst hm
 have hi' : i < S.d.F.ns.length := by have : i < μ.length := hi; rw [R.mlen] at this; exact this
 have q := R2.sto O.nod (i := i) (v := .ref D) (sv := .o ν.length) (nm_get O hi').1 (rpO (by rw [← hl]; exact List.getElem?_concat_length))
 exact ⟨rfl, (fun z => if z = nmL S.d.F i then some (.ref D) else m' z), _, _, _, a1.trans ⟨h', tk, rfl⟩, ⟨_, (D, LCg.lst ys) :: nx, fz1, F', N', .inl ⟨hf, rfl⟩, ⟨q.mlen, q.names, q.len, q.pl, q.nod, q.off, q.offz, q.dis, q.pin, q.cells⟩⟩, k3⟩
theorem swap_yes (O : Ok S) {i c tn vc e : Nat} {es : PySem.Expr} {gs : List Comprehension} {sc : Scope} (hi : i < S.d.F.ns.length) (hs : (sc.names.any fun y => y.1 == nmL S.d.F i && (y.2 == .local || y.2 == .cell)) = false) : swapsWith (.ListComp es gs sc ⟨l, vc, l, e⟩) (some (.Name (nmL S.d.F i) ⟨l, c, l, tn⟩)) l S.env = pure true := by
 have h1 : S.env.blockKind = .function := by unfold Env.blockKind; rw [O.nm.kind]; rfl
 unfold swapsWith
 dsimp only
 rw [h1, (nm_get O hi).2, show (PySem.Expr.ListComp es gs sc ⟨l, vc, l, e⟩).pos.line = l from rfl, beq_self_eq_true l, hs]
 rfl
theorem setR_st (O : Ok S) (hf : S.env.locals = S.L) {i : Nat} {ck : CK} {j bi ef c1 e1 c tn vc e : Nat} {P : KP} (hsb : setB S.d i j = false) (h : ev S.d (.compR ck j t u bi 0 0 0 0 0) false (fun sv => stoK i sv P) μ ν) (H : Hd (S.at fm) s.heap ad μ ν) :
  wpS S (exec (.Assign [.Name (nmL S.d.F i) ⟨l, c, l, tn⟩] ((T.compR ck j t u bi ef c1 e1 vc e).raw l S.d) ⟨l, c, l, e⟩) S.env) (PN S s P) s := by
 change (match S.d.D[j]? with
  | none => fun _ _ => False
  | some cd => match S.d.F.bi[bi]? with
   | some .range => ev S.d u false fun a μ ν => wI a fun x => (-2 ^ 62 ≤ x ∧ x ≤ 16000000) ∧ compK ck x.toNat (fun _ K => ev { F := cd.F } t false K) (fun i => .i (i : Int)) (fun sv => stoK i sv P) μ ν
   | _ => fun _ _ => False) μ ν at h
 show wpS S (exec (.Assign [.Name (nmL S.d.F i) _] (.ListComp (t.raw l { F := (cdOf S.d.D j).F }) [⟨.Name (cdOf S.d.D j).x _, .Call (.Name (nmB S.d.F bi) _) [u.raw l S.d] [] _, [], 0⟩] (cdOf S.d.D j).sc ⟨l, vc, l, e⟩) ⟨l, c, l, e⟩) S.env) _ s
 unfold cdOf nmB
 cases hj : S.d.D[j]? with
 | none => rw [hj] at h; exact h.elim
 | some cd =>
  rw [hj] at h
  dsimp only at h
  cases hb : S.d.F.bi[bi]? with
  | none => rw [hb] at h; exact h.elim
  | some o =>
   rw [hb] at h
   cases o with
   | range =>
    obtain ⟨hi, hs⟩ := setB_inv hsb
    refine el_EAAAAAAA (O.comps cd (List.mem_of_getElem? hj)) fun cl c1 c2 c3 c4 c5 c6 c7 c8 => ?_
    obtain ⟨_, _, _, F0, _⟩ := id H
    refine LCg.Assign_ListComp_U F0 hf (swap_yes O hi (hs cd hj)) c1 c2 c3 c4 c5 (nm_get O hi).2 (not_cls O) (Call_ (ev_bi (O.at fm) (List.mem_of_getElem? hb) (cw_bi (S := S.at fm) (o := .range) (T.plain l S.d u) rfl (args1 (S := S.at fm) ((ev_sound l u _ (O.at fm)).1) h H fun v s1 ad1 sv μ1 ν1 a1 l1 H1 r1 k1 => ?_)) H)) (fun _ => rfl)
    (refine el_ERA (wI_inv k1) fun y z09 => ?_; subst z09; intro hy k2)
    obtain ⟨t', rfl⟩ := r1
    refine el_EEEA (compK_inv k2) fun fI fS fR e1 e2 => ?_
    exact srcR (S := S.at fm) (O.at fm) c7 c6 c8 (fun S' O' hd => hd ▸ (ev_sound l t S' O').1) hy e1 H1 fun tk1 g ys nw hJ D h tk F' N' off => comp_sto O hf (s1 := { s1 with heap := g, toks := tk1 }) e2 (a1.trans ⟨g, tk1, rfl⟩) hJ F' N' off (fun p hp => N' p (List.mem_cons_of_mem _ hp))
   | _ => exact h.elim
theorem setF_st (O : Ok S) (hf : S.env.locals = S.L) {i : Nat} {ck : CK} {j c tn vc e : Nat} {P : KP} (hsb : setB S.d i j = false) (h : ev S.d (.compF ck j t x u 0 0) false (fun sv => stoK i sv P) μ ν) (H : Hd (S.at fm) s.heap ad μ ν) :
  wpS S (exec (.Assign [.Name (nmL S.d.F i) ⟨l, c, l, tn⟩] ((T.compF ck j t x u vc e).raw l S.d) ⟨l, c, l, e⟩) S.env) (PN S s P) s := by
 change (match S.d.D[j]? with | none => fun _ _ => False | some cd => ev S.d u false fun a μ ν => wL a ν fun ns => ns.length ≤ 16000000 ∧ compKF ck ns.length (fun K => ev { F := cd.F } x true K) (fun K => ev { F := cd.F } t false K) (fun i => .i (ns.getD i 0)) (fun sv => stoK i sv P) μ ν) μ ν at h
 show wpS S (exec (.Assign [.Name (nmL S.d.F i) _] (.ListComp (t.raw l { F := (cdOf S.d.D j).F }) [⟨.Name (cdOf S.d.D j).x _, u.raw l S.d, [x.raw l { F := (cdOf S.d.D j).F }], 0⟩] (cdOf S.d.D j).sc ⟨l, vc, l, e⟩) ⟨l, c, l, e⟩) S.env) _ s
 unfold cdOf
 cases hj : S.d.D[j]? with
 | none => rw [hj] at h; exact h.elim
 | some cd =>
  rw [hj] at h
  obtain ⟨hi, hs⟩ := setB_inv hsb
  refine el_EAAAAAAA (O.comps cd (List.mem_of_getElem? hj)) fun cl c1 c2 c3 c4 c5 c6 c7 c8 => ?_
  obtain ⟨_, _, _, F0, _⟩ := id H
  refine LCt.Assign_ListComp_T F0 hf (swap_yes O hi (hs cd hj)) c1 c2 c3 c4 c5 (nm_get O hi).2 (not_cls O) (bnd (S := S.at fm) ((ev_sound l u _ (O.at fm)).1 _ _ _ _ _ h H) fun v s1 ad1 sv μ1 ν1 a1 l1 H1 r1 k1 => ?_) (fsi (T.plain l S.d u) _)
  obtain ⟨i', ns, rfl, hi', hl, k2⟩ := wL_inv k1
  refine el_EEEEA (compKF_inv k2) fun q fI fS fR e1 e2 => ?_
  exact srcLT (S := S.at fm) (O.at fm) c7 c6 c8 (fun S' O' hd => hd ▸ (ev_sound l x S' O').2) (fun S' O' hd => hd ▸ (ev_sound l t S' O').1) hi' hl e1 H1 r1 fun g ys nw hJ D h tk F' N' off => comp_sto O hf (s1 := { s1 with heap := g }) e2 (a1.trans ⟨g, s1.toks, rfl⟩) hJ F' N' off (fun p hp => N' p (List.mem_cons_of_mem _ hp))
theorem setRF_st (O : Ok S) (hf : S.env.locals = S.L) {i : Nat} {ck : CK} {j bi ef c1 e1 c tn vc e : Nat} {P : KP} (hsb : setB S.d i j = false) (h : compRFS S.d ck j t x u bi (fun sv => stoK i sv P) μ ν) (H : Hd (S.at fm) s.heap ad μ ν) :
  wpS S (exec (.Assign [.Name (nmL S.d.F i) ⟨l, c, l, tn⟩] (rawRF l S.d j t x u bi ef c1 e1 vc e) ⟨l, c, l, e⟩) S.env) (PN S s P) s := by
 change (match S.d.D[j]? with
  | none => fun _ _ => False
  | some cd => match S.d.F.bi[bi]? with
   | some .range => ev S.d u false fun a μ ν => wI a fun z => (-2 ^ 62 ≤ z ∧ z ≤ 16000000) ∧ compKF ck z.toNat (fun K => ev { F := cd.F } x true K) (fun K => ev { F := cd.F } t false K) (fun i => .i (i : Int)) (fun sv => stoK i sv P) μ ν
   | _ => fun _ _ => False) μ ν at h
 show wpS S (exec (.Assign [.Name (nmL S.d.F i) _] (.ListComp (t.raw l { F := (cdOf S.d.D j).F }) [⟨.Name (cdOf S.d.D j).x _, .Call (.Name (nmB S.d.F bi) _) [u.raw l S.d] [] _, [x.raw l { F := (cdOf S.d.D j).F }], 0⟩] (cdOf S.d.D j).sc ⟨l, vc, l, e⟩) ⟨l, c, l, e⟩) S.env) _ s
 unfold cdOf nmB
 cases hj : S.d.D[j]? with
 | none => rw [hj] at h; exact h.elim
 | some cd =>
  rw [hj] at h
  dsimp only at h
  cases hb : S.d.F.bi[bi]? with
  | none => rw [hb] at h; exact h.elim
  | some o =>
   rw [hb] at h
   cases o with
   | range =>
    obtain ⟨hi, hs⟩ := setB_inv hsb
    refine el_EAAAAAAA (O.comps cd (List.mem_of_getElem? hj)) fun cl c1 c2 c3 c4 c5 c6 c7 c8 => ?_
    obtain ⟨_, _, _, F0, _⟩ := id H
    refine LCt.Assign_ListComp_T F0 hf (swap_yes O hi (hs cd hj)) c1 c2 c3 c4 c5 (nm_get O hi).2 (not_cls O) (Call_ (ev_bi (O.at fm) (List.mem_of_getElem? hb) (cw_bi (S := S.at fm) (o := .range) (T.plain l S.d u) rfl (args1 (S := S.at fm) ((ev_sound l u _ (O.at fm)).1) h H fun v s1 ad1 sv μ1 ν1 a1 l1 H1 r1 k1 => ?_)) H)) (fun _ => rfl)
    (refine el_ERA (wI_inv k1) fun y z09 => ?_; subst z09; intro hy k2)
    obtain ⟨t', rfl⟩ := r1
    refine el_EEEEA (compKF_inv k2) fun q fI fS fR e1 e2 => ?_
    exact srcRT (S := S.at fm) (O.at fm) c7 c6 c8 (fun S' O' hd => hd ▸ (ev_sound l x S' O').2) (fun S' O' hd => hd ▸ (ev_sound l t S' O').1) hy e1 H1 fun tk1 g ys nw hJ D h tk F' N' off => comp_sto O hf (s1 := { s1 with heap := g, toks := tk1 }) e2 (a1.trans ⟨g, tk1, rfl⟩) hJ F' N' off (fun p hp => N' p (List.mem_cons_of_mem _ hp))
   | _ => exact h.elim
theorem sset_sound {a b sv : SV} {P : Nu → Prop} (h : ssetS a b sv ν P) (H : Hd S s.heap ad μ ν) (ha : Rp ad a va) (hb : Rp ad b vb) (hv : Rp ad sv v) {Q : Unit → Shared → Prop} (hq : ∀ h' tk ν', Hd S h' ad μ ν' → P ν' → Q () { s with heap := h', toks := tk }) : wpS S (setItem va vb v) Q s := by
 (refine el_EERA (wO_inv (show wO a ν _ from h)) fun k so z09 => ?_; subst z09; intro hk h)
 cases so with
 | «ints» ns =>
  (refine el_ER (wI_inv (show wI b _ from h)) fun x z09 => ?_; subst z09; intro h0)
  (refine el_ERA (wI_inv h0) fun y z09 => ?_; subst z09; intro h1 h2)
  (refine el_EEEEEERAAAAAbEEReA (H.upd hk rfl ha) fun D m' nx fz o f vs n z09 z19 => ?_; subst z09; subst z19; intro F N R hm hi U fin)
  obtain ⟨t, rfl⟩ := hb; obtain ⟨u, rfl⟩ := hv
  exact ksa_set F N (updOf U) hi h1.1 h1.2.1 (by lia) fun h' F' N' hi' _ _ => hq h' s.toks _ (fin _ (.ints (ns.set x.toNat y)) h' rfl (isI hi') F' N') h2
 | dict c =>
  (refine el_ER (wI_inv (show wI b _ from h)) fun x z09 => ?_; subst z09; intro h0)
  (refine el_ERA (wI_inv h0) fun y z09 => ?_; subst z09; intro h1 h2)
  obtain ⟨D, m', nx, fz, o, f, rfl, F, N, R, hm, ⟨hs, kvs, g1, g2⟩, U, fin⟩ := H.upd hk rfl ha
  obtain ⟨t, rfl⟩ := hb; obtain ⟨u, rfl⟩ := hv
  exact kdf_setItem F N U g1 g2 h1 fun h' o' kvs' F' N' g3 g4 => hq h' _ _ (fin o' (.dict (kdfPut c x y)) h' rfl ⟨hs, kvs', g3, g4⟩ F' N') h2
 | _ => exact h.elim
theorem sset_st (O : Ok S) {c tn e : Nat} (hc : t.isC = false) {P : KP} (h : ev S.d t false (fun sv => ev S.d u false fun a => ev S.d x false fun b μ ν => ssetS a b sv ν fun ν => P μ ν) μ ν) (H : Hd (S.at fm) s.heap ad μ ν) :
  wpS S (exec (.Assign [.Subscript (u.raw l S.d) (x.raw l S.d) ⟨l, c, l, tn⟩] (t.raw l S.d) ⟨l, c, l, e⟩) S.env) (PN S s P) s :=
 have E := fun t => (ev_sound l t _ (O.at fm)).1
 wpAny_Assign_Subscript (bnd (S := S.at fm) (E t _ _ _ _ _ h H) fun v s1 ad1 sv μ1 ν1 a1 l1 H1 r1 k1 => bnd (S := S.at fm) (E u _ _ _ _ _ k1 H1) fun va s2 ad2 sa μ2 ν2 a2 l2 H2 r2 k2 => bnd (S := S.at fm) (E x _ _ _ _ _ k2 H2) fun vb s3 ad3 sb μ3 ν3 a3 l3 H3 r3 k3 =>
  sset_sound (S := S.at fm) k3 H3 (r2.up l3) r3 ((r1.up l2).up l3) fun h' tk ν' H4 k4 => ⟨rfl, fm, _, _, _, ((a1.trans a2).trans a3).trans ⟨h', tk, rfl⟩, H4, k4⟩) (swap_no hc _ _ _)
theorem unp_st (O : Ok S) (hf : S.env.locals = S.L) {i j c c1 c2 tn e : Nat} (hc : t.isC = false) (ht : t.isT = false) {P : KP} (h : ev S.d t false (fun sv μ ν => wO sv ν fun _ so => match so with
  | .tup svs => ∃ a b, svs = [a, b] ∧ stoK i a (stoK j b P) μ ν
  | .nrm cnt b => stoK i (.o ν.length) (stoK j (.i b) P) μ (ν ++ [.ti cnt])
  | _ => False) μ ν) (H : Hd (S.at fm) s.heap ad μ ν) :
  wpS S (exec (.Assign [.Tuple [.Name (nmL S.d.F i) ⟨l, c, l, c1⟩, .Name (nmL S.d.F j) ⟨l, c2, l, tn⟩] 0 ⟨l, c, l, tn⟩] (t.raw l S.d) ⟨l, c, l, e⟩) S.env) (PN S s P) s :=
 Assign_Tuple (bnd (S := S.at fm) ((ev_sound l t _ (O.at fm)).1 _ _ _ _ _ h H) fun v s1 ad1 sv μ1 ν1 a1 l1 H1 r1 k1 => by
  (refine el_EERA (wO_inv k1) fun k so z09 => ?_; subst z09; intro hk k1)
  cases so with
  | tup svs =>
   (refine el_EER k1 fun a b z09 => ?_; try clear k1; subst z09; intro k1)
   obtain ⟨m', nx, fz, F, N, l, R⟩ := H1
   (refine el_EEAAbERe (R.fro hk (fun e => by cases e) rfl) fun D o vs z09 => ?_; subst z09; intro g1 g2 g3)
   (refine el_EAr r1 fun D' z09 => ?_; try clear r1; subst z09; intro g4)
   obtain rfl := Option.some.inj (g1.symm.trans g4)
   (refine el_EERAEERAr g2 fun va _ vb _ z09 z19 z29 => ?_; try clear g2; subst z09; subst z19; subst z29; intro ra rb)
   refine unpackN_ F N ⟨_, g3.get F N, rfl, _, rfl⟩ O.hnd rfl rfl fun h2 F2 N2 => ?_
   refine assignInOrder_cons (PyProof.Rows.assign_Name (sto_sound O hf k1 (⟨m', nx, fz, F2, N2, l, R⟩ : Hd (S.at fm) ({ s1 with heap := h2 } : Shared).heap _ _ _) ra fun fm' h3 tk3 μ3 H3 k3 => ?_))
   exact assignInOrder_cons (PyProof.Rows.assign_Name (sto_sound (s := { s1 with heap := h3, toks := tk3 }) O hf k3 H3 rb fun fm'' h4 tk4 μ4 H4 k4 => assignInOrder_nil ⟨rfl, fm'', _, _, _, a1.trans ⟨h4, tk4, rfl⟩, H4, k4⟩))
  | nrm cnt b =>
   obtain ⟨m', nx, fz, F, N, l, R⟩ := H1
   obtain ⟨D, o, g1, ⟨D1, cs, t1, rfl, z1, hi⟩, g3⟩ := R.fro hk (fun e => by cases e) rfl
   (refine el_EAr r1 fun D' z09 => ?_; try clear r1; subst z09; intro g4)
   obtain rfl := Option.some.inj (g1.symm.trans g4)
   refine unpackN_ F N ⟨_, g3.get F N, rfl, _, rfl⟩ O.hnd rfl rfl fun h2 F2 N2 => ?_
   have H3 : Hd (S.at fm) ({ s1 with heap := h2 } : Shared).heap (ad1 ++ [D1]) μ1 (ν1 ++ [.ti cnt]) := Hd.see (S := S.at fm) R l rfl rfl F2 N2 z1 ⟨cs, rfl, hi⟩
   refine assignInOrder_cons (PyProof.Rows.assign_Name (sto_sound O hf k1 H3 (rpO (by rw [← R.len]; exact List.getElem?_concat_length)) fun fm' h3 tk3 μ3 H3 k3 => ?_))
   exact assignInOrder_cons (PyProof.Rows.assign_Name (sto_sound (s := { s1 with heap := h3, toks := tk3 }) O hf k3 H3 rpI fun fm'' h4 tk4 μ4 H4 k4 => assignInOrder_nil ⟨rfl, fm'', _, _, _, a1.trans ⟨h4, tk4, rfl⟩, H4, k4⟩))
  | _ => exact k1.elim) (by unfold swapsWithSole; exact swap_no hc _ _ _) (swap_t ht _ _ _ _)
theorem aug_sound {o : AO} {P : SV → Prop} (h : augS o a b P) (ha : Rp ad a va) (hb : Rp ad b vb) {Q : Value → Shared → Prop} (hq : ∀ r v tk, P r → Rp ad r v → Q v { s with toks := tk }) : wpS S (inplaceOp o.raw va vb) Q s := by
 (refine el_EEEERR (ii h ha hb) fun x y t u z09 z19 => ?_; subst z09; subst z19; intro h)
 cases o with
 | add => exact PyProof.Rows.iadd_int (hq _ _ _ h rpI)
 | sub => exact PyProof.Rows.isub_int (hq _ _ _ h rpI)
 | mul => exact PyProof.Rows.imul_int (hq _ _ _ h.2 rpI) h.1
 | div =>
  refine ifloordiv_int (Int.ne_of_gt h.1.1) (hq _ _ _ ?_ rpI) (.inl (PyProof.noPylong_small (by have := h.1; omega)))
  rw [Int.fdiv_eq_ediv_of_nonneg _ (Int.le_of_lt h.1.1)]; exact h.2
 | bxor => exact ixor_int (hq _ _ _ h rpI)
 | shl => exact ilshift_int_small h.1.1 h.1.2.1 h.1.2.2 (hq _ _ _ h.2 rpI)
 | bor => exact ior_int (hq _ _ _ h rpI)
theorem aug_st (O : Ok S) (hf : S.env.locals = S.L) {o : AO} {i c tn e : Nat} {P : KP} (h : ev S.d (.loc i 0 0) false (fun a => ev S.d t false fun b μ ν => augS o a b fun r => stoK i r P μ ν) μ ν) (H : Hd (S.at fm) s.heap ad μ ν) :
  wpS S (exec (.AugAssign (.Name (nmL S.d.F i) ⟨l, c, l, tn⟩) o.raw (t.raw l S.d) ⟨l, c, l, e⟩) S.env) (PN S s P) s := by
 change (match μ[i]? with | some sv => knownK sv (fun a => ev S.d t false fun b μ ν => augS o a b fun r => stoK i r P μ ν) μ ν | none => False) at h
 cases hi : μ[i]? with
 | none => rw [hi] at h; exact h.elim
 | some sv =>
  rw [hi] at h
  obtain ⟨h1, h2⟩ := knownK_inv h
  refine wpAny_AugAssign_Name (bnd (S := S.at fm) (load_loc (S := S.at fm) O.nm (pos := ⟨0, 0, 0, 0⟩) (K := fun a => ev S.d t false fun b μ ν => augS o a b fun r => stoK i r P μ ν) hi h2 h1 H) fun v s1 ad1 sv μ1 ν1 a1 l1 H1 r1 k1 => ?_)
  exact bnd (S := S.at fm) ((ev_sound l t _ (O.at fm)).1 _ _ _ _ _ k1 H1) fun w s2 ad2 sw μ2 ν2 a2 l2 H2 r2 k2 =>
   aug_sound k2 (r1.up l2) r2 fun r v tk k3 r3 => sto_sound (s := { s2 with toks := tk }) O hf k3 H2 r3 fun fm' h' tk' μ' H4 k4 => ⟨rfl, fm', _, _, _, (a1.trans a2).trans ⟨h', tk', rfl⟩, H4, k4⟩
theorem aug_form {e : PySem.Expr} (h : plainE e = true) : ∀ (ov iv new : Value), augStore e ov iv new = (do holding [new, ov, iv] (setItem ov iv new); release [new, ov, iv] []; pure Flow.next) := by
 intro ov iv new; cases e <;> first | rfl | cases h
theorem augs_st (O : Ok S) {o : AO} {c tn e : Nat} {P : KP} (h : ev S.d u false (fun a => ev S.d x false fun b μ ν => wOwn a ν fun q ns => wI b fun x => (0 ≤ x ∧ x < ns.length ∧ ns.length ≤ 16000000) ∧
   ev S.d t false (fun y μ ν => augS o (.i (ns.getD x.toNat 0)) y fun r => ssetS a b r ν fun ν => P μ ν) μ ν) μ ν) (H : Hd (S.at fm) s.heap ad μ ν) :
  wpS S (exec (.AugAssign (.Subscript (u.raw l S.d) (x.raw l S.d) ⟨l, c, l, tn⟩) o.raw (t.raw l S.d) ⟨l, c, l, e⟩) S.env) (PN S s P) s :=
 have E := fun t => (ev_sound l t _ (O.at fm)).1
 wpAny_AugAssign_Subscript_any (bnd (S := S.at fm) (E u _ _ _ _ _ h H) fun va s1 ad1 sa μ1 ν1 a1 l1 H1 r1 k1 => bnd (S := S.at fm) (E x _ _ _ _ _ k1 H1) fun vb s2 ad2 sb μ2 ν2 a2 l2 H2 r2 k2 => by
  (refine el_EERA (wOwn_inv k2) fun q ns z09 => ?_; subst z09; intro hq k2)
  (refine el_ERA (wI_inv k2) fun y z09 => ?_; subst z09; intro hb k3)
  have r2' := r2
  obtain ⟨t', rfl⟩ := r2
  (refine el_EERA (H2.isL (.inl hq) (r1.up l2)) fun D vs z09 => ?_; subst z09; intro hl hi)
  obtain ⟨t2, ht⟩ := hi.get y.toNat ns[y.toNat] (by simp)
  refine wpAny_getItem_list hl hb.1 (by lia) (by simpa using ht) ?_
  refine bnd (S := S.at fm) (E t _ _ _ _ _ k3 H2) fun w s3 ad3 sw μ3 ν3 a3 l3 H3 r3 k4 => ?_
  refine aug_sound (S := S.at fm) k4 (by rw [show ns.getD y.toNat 0 = ns[y.toNat] from by rw [List.getD_eq_getElem?_getD, List.getElem?_eq_getElem (by lia)]; rfl]; exact rpI) r3 fun r v tk k5 r5 => ?_
  exact sset_sound (S := S.at fm) (s := { s3 with toks := tk }) k5 H3 ((r1.up l2).up l3) (r2'.up l3) r5 fun h' tk ν' H4 k4 => ⟨rfl, fm, _, _, _, ((a1.trans a2).trans a3).trans ⟨h', tk, rfl⟩, H4, k4⟩) (aug_form (T.plain l S.d x))
theorem expr_st (O : Ok S) {c e : Nat} (hc : t.isC = false) {P : KP} (h : ev S.d t false (fun _ => P) μ ν) (H : Hd (S.at fm) s.heap ad μ ν) :
  wpS S (exec (.Expr (t.raw l S.d) ⟨l, c, l, e⟩) S.env) (PN S s P) s :=
 wpAny_Expr_any (bnd (S := S.at fm) ((ev_sound l t _ (O.at fm)).1 _ _ _ _ _ h H) fun v s1 ad1 sv μ1 ν1 a1 l1 H1 r1 k1 => ⟨rfl, fm, _, _, _, a1, H1, k1⟩) (by show (S.env.scope.kind == ScopeKind.module && _) = false; rw [O.nm.kind]; rfl) (swap_no hc _ _ _)
end
end Mine
end
section
namespace Mine
open PySem PySem.W PySem.Calls PySem.Spec PyProof.Rows
noncomputable abbrev Sit.ow (S : Sit) (q : Addr × Obj) : Sit := { S with own := q :: S.own }
theorem Ok.ow {S : Sit} (O : Ok S) (q : Addr × Obj) : Ok (S.ow q) := ⟨O.nm, O.nod, O.hnd, O.units, O.rdy, O.cs, O.comps⟩
section
variable {S : Sit} {s s' : Shared} {ad ad' : List Addr} {μ : Mu} {ν : Nu} {K : KF} {a b sv : SV} {v va vb : Value} {h h' : Heap} {tk' : Nat} {fm m' : Str → Option Value} {nx fz : List (Addr × Obj)} {l : Nat} {t u x : T}
theorem Rel.pn (R : Rel S ad μ ν m' nx fz) {pin : List (Addr × Obj)} (hp : ∀ p ∈ pin, p ∈ fz) : Rel (S.pn pin) ad μ ν m' nx fz := ⟨R.mlen, R.names, R.len, R.pl, R.nod, R.off, R.offz, R.dis, hp, R.cells⟩
theorem Rel.ow (R : Rel S ad μ ν m' nx fz) {q : Addr × Obj} (hq : ∀ p ∈ ledg S nx fz, p.1 ≠ q.1) : Rel (S.ow q) ad μ ν m' nx fz := by
 refine ⟨R.mlen, R.names, R.len, R.pl, R.nod, fun p hp r hr => ?_, fun p hp r hr => ?_, R.dis, R.pin, R.cells⟩
 ·rcases List.mem_append.mp hr with hr | hr
  ·exact R.off p hp r (List.mem_append_left _ hr)
  ·rcases List.mem_cons.mp hr with rfl | hr
   ·exact hq p (List.mem_append_left _ hp)
   ·exact R.off p hp r (List.mem_append_right _ hr)
 ·rcases List.mem_cons.mp hr with rfl | hr
  ·exact hq p (List.mem_append_right _ (List.mem_append_left _ hp))
  ·exact R.offz p hp r hr
theorem Rel.un {q : Addr × Obj} (R : Rel (S.ow q) ad μ ν m' nx fz) : Rel S ad μ ν m' nx fz :=
 ⟨R.mlen, R.names, R.len, R.pl, R.nod, fun p hp r hr => R.off p hp r (by rcases List.mem_append.mp hr with hr | hr; exact List.mem_append_left _ hr; exact List.mem_append_right _ (List.mem_cons_of_mem _ hr)), fun p hp r hr => R.offz p hp r (List.mem_cons_of_mem _ hr), R.dis, R.pin, R.cells⟩
noncomputable def JK (S : Sit) (J : KP) (m : Str → Option Value) (nw : List (Addr × Obj)) : Prop := ∃ ad μ ν m' nx fz, nw = ledg S nx fz ∧ Rel (S.at m) ad μ ν m' nx fz ∧ Loc (S.at m) m' ∧ J μ ν
theorem okW_inv {F : Fn} {bs : List Bool} (h : okW F bs μ ν = true) : bs.length = F.ns.length ∧ wkB F.cs μ ν = true := by
 unfold okW at h
 cases e : Nat.beq bs.length F.ns.length with
 | false => rw [e] at h; cases h
 | true => rw [e] at h; exact ⟨Nat.eq_of_beq_eq_true e, h⟩
theorem beq_ne {a b : Nat} (h : (!Nat.beq a b) = true) : a ≠ b := fun e => by subst e; rw [Nat.beq_refl] at h; cases h
theorem mv_get {p q k : Nat} {x : Addr} (hk : k ≠ p) : (ad.set p x)[k]? = ad[k]? := by rw [List.getElem?_set, if_neg (Ne.symm hk)]
theorem Rp.mv {p : Nat} {x : Addr} {sv : SV} {v : Value} (q : noI p sv = true) (h : Rp ad sv v) : Rp (ad.set p x) sv v := by
 cases sv with
 | o k => (refine el_EA h fun a => ?_; try clear h; intro h1 h2); exact ⟨a, (mv_get (q := 0) (beq_ne q)).trans h1, h2⟩
 | _ => exact h
theorem RL.mv {p : Nat} {x : Addr} {svs : List SV} : ∀ {vs : List Value}, allB (noI p) svs = true → RL ad svs vs → RL (ad.set p x) svs vs := by
 induction svs with
 | nil => intro vs _ h; exact h
 | cons a r ih =>
  intro vs q q19; (refine el_EEAA q19 fun v s => ?_; try clear q19; intro e h1 h2)
  exact ⟨v, s, e, h1.mv (allB_mem q a List.mem_cons_self), ih (by
   unfold allB at q
   cases hb : noI p a with
   | false => rw [hb] at q; cases q
   | true => rw [hb] at q; exact q) h2⟩
theorem Is.mv {w : World} {h₀ : Heap} {p : Nat} {x : Addr} {so : SO} {a : Addr} {o : Obj} (q : noR p so = true) (h : Is w h₀ fz ad so a o) : Is w h₀ fz (ad.set p x) so a o := by
 cases so with
 | cell sv => cases sv with
  | u => exact h
  | _ => (refine el_EA h fun v => ?_; try clear h; intro e h); exact ⟨v, e, Rp.mv q h⟩
 | fcell sv => (refine el_EA h fun v => ?_; try clear h; intro e h); exact ⟨v, e, h.mv q⟩
 | tup svs => (refine el_EA h fun vs => ?_; try clear h; intro e h); exact ⟨vs, e, h.mv q⟩
 | fld x fs => (refine el_AEA h fun es => ?_; try clear h; intro h1 e h2); exact ⟨h1, es, e, h2.map (fun _ _ z r => r.mv z) q⟩
 | _ => exact h
theorem Rel.mv (R : Rel S ad μ ν m' nx fz) {p q : Nat} (h : okMv S.d.F p q ν = true) : ∃ ad', Rel S ad' (μ.map (mvV p q)) (mvN p q ν) m' nx fz := by
 unfold okMv at h
 rw [Bool.and_eq_true, Bool.and_eq_true, Bool.and_eq_true, Bool.and_eq_true] at h
 (refine el_AAAA h ?_; try clear h; intro h1 h2 h3 h4 h5)
 have h1 : p < ν.length := Nat.le_of_ble_eq_true h1
 have h2 : q < ν.length := Nat.le_of_ble_eq_true h2
 have h3 := beq_ne h3
 have eq : ν[q]? = some ν[q] := List.getElem?_eq_getElem h2
 have ea : ad[q]? = some (ad[q]'(by rw [R.len]; exact h2)) := List.getElem?_eq_getElem _
 have en : mvN p q ν = (ν.set p ν[q]).set q .junk := by unfold mvN; rw [eq]
 rw [en]
 generalize ν[q] = sq at *
 generalize ad[q]'(by rw [R.len]; exact h2) = aq at *
 have back : ∀ {k : Nat} {so : SO}, ((ν.set p sq).set q .junk)[k]? = some so → so ≠ .junk → k ≠ q ∧ ∃ k', ν[k']? = some so ∧ (ad.set p aq)[k]? = ad[k']? ∧ ((k = p ∧ k' = q) ∨ (k ≠ p ∧ k' = k)) := fun {k so} hk hj => by
  rw [List.getElem?_set] at hk
  by_cases e : q = k
  ·rw [if_pos e] at hk
   rw [List.length_set, if_pos h2] at hk
   cases hk; exact absurd rfl hj
  ·rw [if_neg e, List.getElem?_set] at hk
   refine ⟨Ne.symm e, ?_⟩
   by_cases e' : p = k
   ·subst e'
    rw [if_pos rfl, if_pos h1] at hk; cases hk
    exact ⟨q, eq, by rw [List.getElem?_set, if_pos rfl, if_pos (by rw [R.len]; exact h1), ea], .inl ⟨rfl, rfl⟩⟩
   ·rw [if_neg e'] at hk
    exact ⟨k, hk, mv_get (q := q) (Ne.symm e'), .inr ⟨Ne.symm e', rfl⟩⟩
 refine ⟨ad.set p aq, ⟨by rw [List.length_map]; exact R.mlen, fun i sv x e1 e2 => ?_, by rw [List.length_set, List.length_set, List.length_set]; exact R.len, fun k so hk hj => ?_, R.nod, R.off, R.offz, fun i j si sj a hij hi hj hio hjo hai haj => ?_, R.pin, fun c hc => ?_⟩⟩
 ·rw [List.getElem?_map] at e1
  cases e : μ[i]? with
  | none => rw [e] at e1; cases e1
  | some s0 =>
   rw [e] at e1; cases e1
   rcases R.names i s0 x e e2 with rfl | ⟨v, hv, r⟩
   ·exact .inl rfl
   ·cases s0 with
    | o k =>
     show mvV p q (.o k) = .u ∨ ∃ v, m' x = some v ∧ Rp (ad.set p aq) (mvV p q (.o k)) v
     unfold mvV
     dsimp only
     cases b1 : Nat.beq k q with
     | true =>
      have := Nat.eq_of_beq_eq_true b1
      subst this
      (refine el_EA r fun a => ?_; try clear r; intro q1 q2)
      obtain rfl := Option.some.inj (ea.symm.trans q1)
      exact .inr ⟨v, hv, aq, by rw [List.getElem?_set, if_pos rfl, if_pos (by rw [R.len]; exact h1)], q2⟩
     | false =>
      cases b2 : Nat.beq k p with
      | true => exact .inl rfl
      | false => exact .inr ⟨v, hv, Rp.mv (by show (!Nat.beq k p) = true; rw [b2]; rfl) r⟩
    | _ => exact .inr ⟨v, hv, r⟩
 ·refine el_AEAA (back hk hj) fun k' _ e1 e2 _ => ?_
  refine el_EEAA (R.pl k' so e1 hj) fun a o q1 q2 q3 => ?_
  exact ⟨a, o, e2.trans q1, q2.mv (allB_mem h4 so (List.mem_of_getElem? e1)), q3⟩
 ·refine el_AEAA (back hi (own_junk hio)) fun i' n1 e1 e2 e3 => ?_
  refine el_AEAA (back hj (own_junk hjo)) fun j' n2 e4 e5 e6 => ?_
  refine R.dis i' j' si sj a (fun z => ?_) e1 e4 hio hjo (e2 ▸ hai) (e5 ▸ haj)
  subst z
  rcases e3 with ⟨z1, z2⟩ | ⟨z1, z2⟩ <;> rcases e6 with ⟨z3, z4⟩ | ⟨z3, z4⟩
  ·exact hij (z1.trans z3.symm)
  ·exact n2 (z4.symm.trans z2)
  ·exact n1 (z2.symm.trans z4)
  ·exact hij (z2.symm.trans z4)
 ·refine el_EA (R.cells c hc) fun a e1 e2 => ?_
  exact ⟨a, e1, (mv_get (q := q) (beq_ne (allB_mem h5 c hc))).trans e2⟩
theorem weak_in {J : KP} (R : Rel (S.at fm) ad μ ν m' nx fz) (l : Loc (S.at fm) m') (j : InJ S.d.F J μ ν) : JK S J fm (ledg S nx fz) := by
 obtain ⟨mv, j⟩ := j
 cases mv with
 | none =>
  (refine el_EEA j fun bs cs => ?_; try clear j; intro h1 h2)
  obtain ⟨e1, e2⟩ := okW_inv h1
  exact ⟨_, _, _, m', nx, fz, rfl, R.weak e1 e2, l, h2⟩
 | some r =>
  (refine el_AEEA j fun bs cs => ?_; try clear j; intro j1 h1 h2)
  obtain ⟨e1, e2⟩ := okW_inv h1
  obtain ⟨ad', R'⟩ := Rel.mv (S := S.at fm) R j1
  exact ⟨_, _, _, m', nx, fz, rfl, R'.weak e1 e2, l, h2⟩
noncomputable abbrev LoopQ (KN : KP) (K : KF) : KF := thenK KN K
theorem whl_st (O : Ok S) {b : B} {f : KF → KP} (Ib : Bl S (b.raw S.d) f) {c l2 e : Nat} {J : Nat → Mu → Nu → Prop} {n₀ : Nat} {KN : KP} (h0 : InJ S.d.F (J n₀) μ ν)
  (ht : ∀ n μ ν, J n μ ν → ev S.d t true (fun v => ifB v (f (loopK S.d.F (fun μ ν => ∃ n', n' < n ∧ InJ S.d.F (J n') μ ν) KN K)) KN) μ ν) (H : Hd (S.at fm) s.heap ad μ ν) :
  wpS S (exec (.While (t.raw l S.d) (b.raw S.d) [] ⟨l, c, l2, e⟩) S.env) (PS S s (LoopQ KN K)) s := by
 obtain ⟨m', nx, fz, F, N, l0, R⟩ := H
 refine While_inv2 (n₀ := n₀) (fun n m nw => JK S (J n) m nw) F N (weak_in R l0 h0) ?_ PassesOwn.never
 intro n m₁ nw h₁ tk₁ F₁ N₁ q19; (refine el_EEEEEERAA q19 fun ad1 μ1 ν1 m1' nx1 fz1 z09 => ?_; try clear q19; subst z09; intro R1 l1 j1)
 refine bndT (S := S.at m₁) (s := { s with heap := h₁, toks := tk₁ }) ((ev_sound l t _ (O.at m₁)).2 _ _ _ _ _ (ht n μ1 ν1 j1) ⟨m1', nx1, fz1, F₁, N₁, l1, R1⟩) ?_
 intro q s2 ad2 sv μ2 ν2 a2 l2 H2 r2 k2
 have k3 := ifB_inv r2 k2
 have aa : At s s2 := At.trans ⟨h₁, tk₁, rfl⟩ a2
 cases q with
 | true =>
  rw [if_pos rfl] at k3 ⊢
  refine wpAny_mono (Ib m₁ _ _ _ _ _ k3 H2) ?_ fun _ _ x => x
  intro fl s3 q19; (refine el_EEEEEAAA q19 fun fm3 ad3 sf μ3 ν3 => ?_; try clear q19; intro a3 H3 r3 k3)
  refine el_EE (aa.trans a3) fun h3 tk3 e3 => ?_
  have go : (∃ n', n' < n ∧ InJ S.d.F (J n') μ3 ν3) → ∃ h' tk m₂ news₂ n', s3 = { s with heap := h', toks := tk } ∧ Fr S.h₀ S.L h' m₂ ∧ News S.h₀ S.L h' news₂ ∧ n' < n ∧ JK S (J n') m₂ news₂ := by
   intro q19; (refine el_EA q19 fun n' => ?_; try clear q19; intro hn j)
   obtain ⟨m4', nx4, fz4, F4, N4, l4, R4⟩ := H3
   have hh : s3.heap = h3 := by rw [e3]
   exact ⟨h3, tk3, fm3, _, n', e3, hh ▸ F4, hh ▸ N4, hn, weak_in R4 l4 j⟩
  cases sf with
  | next => cases r3; exact go k3
  | cont => cases r3; exact go k3
  | brk => cases r3; exact ⟨fm3, ad3, .next, μ3, ν3, aa.trans a3, H3, rfl, k3⟩
  | ret sv => (refine el_ER r3 fun v z09 => ?_; try clear r3; subst z09; intro r3); exact ⟨fm3, ad3, .ret sv, μ3, ν3, aa.trans a3, H3, ⟨v, rfl, r3⟩, k3⟩
 | false =>
  rw [if_neg Bool.false_ne_true] at k3 ⊢
  exact ⟨m₁, _, .next, μ2, ν2, aa, H2, rfl, k3⟩
theorem turn_end {J : KP} {KN : KP} {s1 s3 : Shared} {I : Addr} {oI : Obj} (hf : S.env.locals = S.L) (hI : ∀ p ∈ S.own, p.1 ≠ I) {s0 : Shared} (a0 : At s0 s1) {Q : Flow → Shared → Prop} (hQ : ∀ f s', PS S s0 (LoopQ KN K) f s' → Q f s') {f : Flow}
  (h : PS (S.ow (I, oI)) s1 (loopK S.d.F (InJ S.d.F J) KN K) f s3) : TurnP S.h₀ S.L (JK S J) (I, oI) s1 Q f s3 := by
 (refine el_EEEEEAAA h fun fm3 ad3 sf μ3 ν3 => ?_; try clear h; intro a3 H3 r3 k3)
 have H3' : Hd (S.at fm3) s3.heap ad3 μ3 ν3 := by
  obtain ⟨m4', nx4, fz4, F4, N4, l4, R4⟩ := H3
  have l5 : Loc (S.at fm3) m4' := .inl ⟨hf, l4.elim (fun z => z.2) fun q => q.elim fun oC hm => absurd hf (N4 _ (List.mem_append_right _ (List.mem_append_right _ hm.1))).2.1⟩
  exact ⟨m4', nx4, fz4, F4, fun p hp => N4 p (by simp only [ledg, List.mem_append, List.mem_cons] at hp ⊢; grind), l5, Rel.un (S := S.at fm3) R4⟩
 have go : InJ S.d.F J μ3 ν3 → ∃ h' tk' m' nx, s3 = { s1 with heap := h', toks := tk' } ∧ Fr S.h₀ S.L h' m' ∧ News S.h₀ S.L h' ((I, oI) :: nx) ∧ (∀ p ∈ nx, p.1 ≠ I) ∧ JK S J m' nx := by
  intro j
  obtain ⟨m4', nx4, fz4, F4, N4, l4, R4⟩ := H3
  (refine el_EEr a3 fun h3 tk3 z09 => ?_; try clear a3; subst z09)
  have l5 : Loc (S.at fm3) m4' := .inl ⟨hf, l4.elim (fun z => z.2) fun q => q.elim fun oC hm => absurd hf (N4 _ (List.mem_append_right _ (List.mem_append_right _ hm.1))).2.1⟩
  refine ⟨h3, tk3, fm3, ledg S nx4 fz4, rfl, F4, fun p hp => N4 p (by simp only [ledg, List.mem_append, List.mem_cons] at hp ⊢; grind), fun p hp => ?_, weak_in (Rel.un (S := S.at fm3) R4) l5 j⟩
  rcases List.mem_append.mp hp with hp | hp
  ·exact R4.off p hp (I, oI) (List.mem_append_right _ List.mem_cons_self)
  ·rcases List.mem_append.mp hp with hp | hp
   ·exact R4.offz p hp (I, oI) List.mem_cons_self
   ·exact hI p hp
 cases sf with
 | next => cases r3; exact go k3
 | cont => cases r3; exact go k3
 | brk => cases r3; exact hQ _ _ ⟨fm3, ad3, .next, μ3, ν3, a0.trans a3, H3', rfl, k3⟩
 | ret sv => (refine el_ER r3 fun v z09 => ?_; try clear r3; subst z09; intro r3); exact hQ _ _ ⟨fm3, ad3, .ret sv, μ3, ν3, a0.trans a3, H3', ⟨v, rfl, r3⟩, k3⟩
theorem Hd.unpn {pin : List (Addr × Obj)} (H : Hd ((S.pn (pin ++ S.pin)).at fm) h ad μ ν) : Hd (S.at fm) h ad μ ν := by
 obtain ⟨m', nx, fz, F, N, l, R⟩ := H
 exact ⟨m', nx, fz, F, N, l, ⟨R.mlen, R.names, R.len, R.pl, R.nod, R.off, R.offz, R.dis, fun p hp => R.pin p (List.mem_append_right _ hp), R.cells⟩⟩
end
section
variable {prog : Program} {w : World} {A : Around} {s : Shared} {env : Env} {h₀ : Heap} {x : Str} {px : Pos} {body orelse : List Stmt} {m₀ : Str → Option Value} {news : List (Addr × Obj)}
theorem forZ {R : Result → Shared → Prop} {I : Addr} {n : Nat} {fp : List Addr} {P : Nat → Value → Prop} {St : Nat → Heap → Prop} (W : Walks prog w A I fp [I] n P St) (hobj : ∀ i h, St i h → ∃ oI, h.get? I = some oI)
  (J : Nat → (Str → Option Value) → List (Addr × Obj) → Prop) (hfp : ∀ b ∈ fp, b ≠ I → ∃ o, ∀ i m nx h, J i m nx → Fr h₀ env.locals h m → News h₀ env.locals h nx → h.get? b = some o)
  (hIL : I ≠ env.locals) (hI0 : h₀.get? I = none) (hst : St 0 s.heap) (F : Fr h₀ env.locals s.heap m₀) (N : News h₀ env.locals s.heap news) (hnI : ∀ p ∈ news, p.1 ≠ I) (hj : J 0 m₀ news)
  (turn : ∀ i v m₁ news₁ h tk oI, i < n → P i v → J i m₁ news₁ → (∀ p ∈ news₁, p.1 ≠ I) → Fr h₀ env.locals h m₁ → News h₀ env.locals h ((I, oI) :: news₁) →
   wpAny (model prog w) A (storeName env x v) (fun _ s₂ => wpAny (model prog w) A (execs body env) (fun f s₃ => match f with
    | .ret v => R (.ok (.ret v)) s₃
    | .brk => R (.ok .next) s₃
    | _ => ∃ h' tk m' nx, s₃ = { s with heap := h', toks := tk } ∧ Fr h₀ env.locals h' m' ∧ News h₀ env.locals h' ((I, oI) :: nx) ∧ (∀ p ∈ nx, p.1 ≠ I) ∧ J (i + 1) m' nx)
    (notedBy (model prog w) A env fun e s' => R (.error e) s') s₂) (notedBy (model prog w) A env fun e s' => R (.error e) s') { s with heap := h, toks := tk })
  (done : ∀ m₁ news₁ h tk, J n m₁ news₁ → Fr h₀ env.locals h m₁ → News h₀ env.locals h news₁ →
   wpAny (model prog w) A (execs orelse env) (fun f s₃ => R (.ok f) s₃) (notedBy (model prog w) A env fun e s' => R (.error e) s') { s with heap := h, toks := tk }) :
  codeAny (model prog w) A (.forLoop (.Name x px) (.ref I) body orelse env) R s := by
 refine codeAny_forLoop (fun k s' => ∃ h' tk m' nx i, s' = { s with heap := h', toks := tk } ∧ St i h' ∧ Fr h₀ env.locals h' m' ∧ News h₀ env.locals h' nx ∧ (∀ p ∈ nx, p.1 ≠ I) ∧ J i m' nx ∧ i ≤ n ∧ k = n + 1 - i) ?_ (n + 1)
  ⟨s.heap, s.toks, m₀, news, 0, rfl, hst, F, N, hnI, hj, Nat.zero_le _, rfl⟩
 intro k s' q19; (refine el_EEEEERAAAAAAr q19 fun h' tk m' nx i z09 z19 => ?_; try clear q19; subst z09; subst z19; intro hst' F' N' hnx hJ hi)
 have keep : ∀ h₁ : Heap, (∀ b o, b ∉ [I] → h'.get? b = some o → h₁.get? b = some o) → Fr h₀ env.locals h₁ m' ∧ News h₀ env.locals h₁ nx := fun h₁ hk₁ => by
  refine ⟨⟨F'.ns.at' fun o e => hk₁ _ o (fun q => hIL (List.mem_singleton.mp q).symm) e, fun b o e => hk₁ b o (fun q => ?_) (F'.keep b o e), F'.above⟩, fun p hp => ⟨hk₁ _ _ (fun q => hnx p hp (List.mem_singleton.mp q)) (N' p hp).1, (N' p hp).2⟩⟩
  rw [List.mem_singleton.mp q, hI0] at e; cases e
 by_cases hlt : i < n
 ·refine W.item i _ _ _ hlt hst' fun v h₁ tk₁ hP hst₁ hk₁ => ?_
  obtain ⟨F₁, N₁⟩ := keep h₁ hk₁
  obtain ⟨oI, hoI⟩ := hobj _ _ hst₁
  have NI : News h₀ env.locals h₁ ((I, oI) :: nx) := fun p hp => (List.mem_cons.mp hp).elim (fun e => by rw [e]; exact ⟨hoI, hIL, hI0⟩) fun hp => N₁ p hp
  refine wpAny_assign_Name (wpAny_mono (turn i v m' nx _ _ oI hlt hP hJ hnx F₁ NI) (fun _ s₂ h₂ => wpAny_mono h₂ (fun f s₃ h₃ => ?_) fun _ _ e => e) fun _ _ e => e)
  have fin : (∃ h' tk m' nx, s₃ = { s with heap := h', toks := tk } ∧ Fr h₀ env.locals h' m' ∧ News h₀ env.locals h' ((I, oI) :: nx) ∧ (∀ p ∈ nx, p.1 ≠ I) ∧ J (i + 1) m' nx) →
    ∃ m, m < n + 1 - i ∧ ∃ h' tk m' nx j, s₃ = { s with heap := h', toks := tk } ∧ St j h' ∧ Fr h₀ env.locals h' m' ∧ News h₀ env.locals h' nx ∧ (∀ p ∈ nx, p.1 ≠ I) ∧ J j m' nx ∧ j ≤ n ∧ m = n + 1 - j := by
   intro q19; (refine el_EEEERAAA q19 fun h₃' tk₃ m₃ nx₃ z09 => ?_; try clear q19; subst z09; intro F₃ N₃ ha₃ hJ₃)
   have N₄ : News h₀ env.locals h₃' nx₃ := fun p hp => N₃ p (List.mem_cons_of_mem _ hp)
   refine ⟨n + 1 - (i + 1), Nat.sub_lt_sub_left (Nat.lt_succ_of_lt hlt) (Nat.lt_succ_self i), h₃', tk₃, m₃, nx₃, i + 1, rfl, W.frame _ _ _ hst₁ fun b hb o e => ?_, F₃, N₄, ha₃, hJ₃, hlt, rfl⟩
   by_cases q : b = I
   ·rw [q] at e ⊢
    rw [hoI] at e
    rw [← Option.some.inj e]
    exact (N₃ _ List.mem_cons_self).1
   ·obtain ⟨o', ho'⟩ := hfp b hb q
    rw [ho' _ _ _ _ hJ F₁ N₁] at e
    rw [ho' _ _ _ _ hJ₃ F₃ N₄]; exact e
  cases f with
  | ret v => exact h₃
  | brk => exact h₃
  | cont => exact fin h₃
  | next => exact fin h₃
 ·obtain rfl : i = n := Nat.le_antisymm hi (Nat.not_lt.mp hlt)
  refine W.done _ _ _ hst' fun h₁ tk₁ hk₁ => ?_
  obtain ⟨F₁, N₁⟩ := keep h₁ hk₁
  exact done m' nx h₁ tk₁ hJ F₁ N₁
end
noncomputable def StoOk (S : Sit) (x : Str) (sto : SV → KP → KP) : Prop := ∀ S' : Sit, Ok S' → S'.d = S.d → S'.env = S.env → S'.env.locals = S'.L → ∀ (fm : Str → Option Value) (sv : SV) (v : Value) (μ : Mu) (ν : Nu) (s : Shared) (ad : List Addr) (P : KP) (Q : Unit → Shared → Prop), sto sv P μ ν → Hd (S'.at fm) s.heap ad μ ν → Rp ad sv v →
 (∀ fm' h' tk μ' ν', Hd (S'.at fm') h' ad μ' ν' → P μ' ν' → Q () { s with heap := h', toks := tk }) → wpS S' (storeName S'.env x v) Q s
noncomputable def ValOk (S : Sit) (fz : List (Addr × Obj)) (n : Nat) (P : Nat → Value → Prop) (vals : Nat → KV → KP) : Prop := ∀ i v, i < n → P i v → ∀ (S' : Sit) (h : Heap) (ad : List Addr) (μ : Mu) (ν : Nu) (Q : KV), S'.h₀ = S.h₀ → (∀ p ∈ fz, p ∈ S'.pin) → Hd S' h ad μ ν → vals i Q μ ν → ∃ sv ad' ν', Hd S' h ad' μ ν' ∧ Rp ad' sv v ∧ Q sv μ ν'
section
variable {S : Sit} {s s' : Shared} {ad ad' : List Addr} {μ : Mu} {ν : Nu} {K : KF} {a b sv : SV} {v va vb : Value} {h h' : Heap} {tk' : Nat} {fm m' : Str → Option Value} {nx fz : List (Addr × Obj)} {l : Nat} {t u x : T}
theorem sto_ok (O : Ok S) (i : Nat) : StoOk S (nmL S.d.F i) (stoK i) := fun S' O' e1 e2 e3 fm sv v μ ν s ad P Q k H r hq => by
 rw [← e1]; exact sto_sound O' e3 k H r fun fm' h' tk μ' H' k' => hq fm' h' tk μ' ν H' k'
theorem stoC_ok (O : Ok S) (i : Nat) : StoOk S (nmC S.d.F i) (stoC S.d.F i) := fun S' O' e1 e2 e3 fm sv v μ ν s ad P Q k H r hq => by
 rw [← e1] at k ⊢; exact stoC_sound O' k H r fun h' ν' H' k' => hq fm h' s.toks μ ν' H' k'
theorem forG_core (O : Ok S) (hf : S.env.locals = S.L) {x : Str} {px : Pos} {vals : Nat → KV → KP} {sto : SV → KP → KP} (hsto : StoOk S x sto) {bl el : List Stmt} {f g : KF → KP} (Ib : ∀ S' : Sit, Ok S' → S'.d = S.d → S'.env = S.env → S'.env.locals = S'.L → Bl S' bl f) (Io : Bl S el g)
  {I : Addr} {n : Nat} {fp : List Addr} {P : Nat → Value → Prop} {St : Nat → Heap → Prop} {s1 : Shared} (W : Walks P0 S.w S.A I fp [I] n P St) (hobj : ∀ i h, St i h → ∃ oI, h.get? I = some oI) (hst : St 0 s1.heap)
  (hIL : I ≠ S.L) (hI0 : S.h₀.get? I = none) (hnI : ∀ p ∈ ledg S nx fz, p.1 ≠ I) (F : Fr S.h₀ S.L s1.heap fm) (N : News S.h₀ S.L s1.heap (ledg S nx fz)) (l : Loc (S.at fm) m') (R : Rel (S.at fm) ad μ ν m' nx fz) (hfp : ∀ b ∈ fp, b ≠ I → ∃ o, Zf S.h₀ fz b o)
  (hval : ValOk S fz n P vals) {KE KN : KP} (hk : forGK S.d.F vals sto n f KE KN K μ ν) (hKE : ∀ μ ν, KE μ ν → g (LoopQ KN K) μ ν) {s0 : Shared} (a0 : At s0 s1) :
  codeAny (model P0 S.w) S.A (.forLoop (.Name x px) (.ref I) bl el S.env) (fun r s' => match r with | .ok f => PS S s0 (LoopQ KN K) f s' | .error e => cameBackBy (model P0 S.w) S.A S.env EF e s') s1 := by
 (refine el_EAA hk fun J => ?_; try clear hk; intro h0 hturn hdone)
 have R1 : Rel ((S.pn (fz ++ S.pin)).at fm) ad μ ν m' nx fz := Rel.pn (S := S.at fm) R fun p hq => (List.mem_append.mp hq).elim id (R.pin p)
 have hown : ∀ p ∈ S.own, p.1 ≠ I := fun p hp => hnI p (List.mem_append_right _ (List.mem_append_right _ hp))
 have back : ∀ f s', PS (S.pn (fz ++ S.pin)) s0 (LoopQ KN K) f s' → PS S s0 (LoopQ KN K) f s' := fun f s' z => el_EEEEEAA z fun fm ad' sf μ' ν' a H r => ⟨fm, ad', sf, μ', ν', a, Hd.unpn H, r⟩
 refine forZ (h₀ := S.h₀) W hobj (fun n m nw => JK (S.pn (fz ++ S.pin)) (J n) m nw) (fun b hb hne => ?_) (hf ▸ hIL) hI0 hst (hf ▸ F) (hf ▸ N) hnI (weak_in (S := S.pn (fz ++ S.pin)) R1 l h0) ?_ ?_
 ·obtain ⟨o, z⟩ := hfp b hb hne
  refine ⟨o, fun i m nw h q F' N' => z.elim (fun z => F'.keep _ _ z) fun z => ?_⟩
  (refine el_EEEEEERAA q fun _ _ _ _ nx' fz' e R' _ _ => ?_; clear q)
  rw [e] at N'
  exact (N' _ (List.mem_append_right _ (List.mem_append_left _ (R'.pin _ (List.mem_append_left _ z))))).1
 ·intro i v m₁ nw h tk oI hin hP q19; (refine el_EEEEEERAA q19 fun ad1 μ1 ν1 m1' nx1 fz1 z09 => ?_; try clear q19; subst z09; intro R2 l1 j1); intro hne F₁ N₁
  have O2 := (O.pn (fz ++ S.pin)).ow (I, oI)
  have H2 : Hd (((S.pn (fz ++ S.pin)).ow (I, oI)).at m₁) h ad1 μ1 ν1 := ⟨m1', nx1, fz1, hf ▸ F₁, fun p hp => (hf ▸ N₁ :) p (by simp only [ledg, List.mem_append, List.mem_cons] at hp ⊢; grind), l1.imp_right fun q => q.imp fun oC q => ⟨List.mem_cons_of_mem _ q.1, q.2⟩, R2.ow hne⟩
  refine el_EEEAA (hval i v hin hP (((S.pn (fz ++ S.pin)).ow (I, oI)).at m₁) h ad1 μ1 ν1 _ rfl (fun p hp => List.mem_append_left _ hp) H2 (hturn i μ1 ν1 hin j1)) fun sv ad2 ν2 H3 r3 k3 => ?_
  refine wpAny_passesOwn PassesOwn.never (hsto ((S.pn (fz ++ S.pin)).ow (I, oI)) O2 rfl rfl hf m₁ sv v μ1 ν2 ({ s1 with heap := h, toks := tk } : Shared) ad2 _ _ k3 H3 r3 fun fm' h' tk' μ' ν' H4 k4 => wpAny_passesOwn PassesOwn.never (wpAny_mono (Ib ((S.pn (fz ++ S.pin)).ow (I, oI)) O2 rfl rfl hf fm' _ _ _ ({ s1 with heap := h', toks := tk' } : Shared) _ k4 H4) (fun f s3 z => ?_) fun _ _ x => x))
  have z := turn_end (S := S.pn (fz ++ S.pin)) hf hown (s1 := { s1 with heap := h', toks := tk' }) (a0.trans ⟨h', tk', rfl⟩) back z
  cases f with
  | ret v => exact z
  | brk => exact z
  | next => (refine el_EEEEAAA z fun h5 tk5 m5 nx5 => ?_; try clear z; intro e F5 N5 r); exact ⟨h5, tk5, m5, nx5, e, hf ▸ F5, hf ▸ N5, r⟩
  | cont => (refine el_EEEEAAA z fun h5 tk5 m5 nx5 => ?_; try clear z; intro e F5 N5 r); exact ⟨h5, tk5, m5, nx5, e, hf ▸ F5, hf ▸ N5, r⟩
 ·intro m₁ nw h tk q19; (refine el_EEEEEERAA q19 fun ad1 μ1 ν1 m1' nx1 fz1 z09 => ?_; try clear q19; subst z09; intro R2 l1 j1); intro F₁ N₁
  refine wpAny_passesOwn PassesOwn.never (wpAny_mono (Io m₁ _ _ _ ({ s1 with heap := h, toks := tk } : Shared) _ (hKE _ _ (hdone μ1 ν1 j1)) (Hd.unpn (S := S) (fm := m₁) (pin := fz) ⟨m1', nx1, fz1, hf ▸ F₁, hf ▸ N₁, l1, R2⟩)) (fun f s3 z => z.up (a0.trans ⟨h, tk, rfl⟩)) fun _ _ x => x)
theorem nil_bl : Bl S [] (fun K' => K' .next) := fun fm K μ ν s ad h H => wpAny_execs_nil ⟨fm, ad, .next, μ, ν, At.refl, H, rfl, h⟩
end
end Mine
end
section
namespace Mine
open PySem PySem.W PySem.Calls PySem.Spec PyProof.Rows
section
variable {S : Sit} {s s' : Shared} {ad ad' : List Addr} {μ : Mu} {ν : Nu} {K : KF} {a b sv : SV} {v va vb : Value} {h h' : Heap} {tk' : Nat} {fm m' : Str → Option Value} {nx fz : List (Addr × Obj)} {l : Nat} {t u x : T}
noncomputable abbrev BlAll (d : Df) (b : B) : Prop := ∀ S : Sit, Ok S → S.d = d → S.env.locals = S.L → Bl S (b.raw d) (st d b)
noncomputable abbrev RL' (S : Sit) (s0 : Shared) (K : KF) : Result → Shared → Prop := fun r s' => match r with | .ok f => PS S s0 K f s' | .error e => cameBackBy (model P0 S.w) S.A S.env EF e s'
section
variable {bl el : List Stmt} {f g : KF → KP} {xn : Str} {px : Pos} {vals : Nat → KV → KP} {sto : SV → KP → KP} {KE KN : KP} {s0 s1 : Shared}
theorem fresh_I {o : Obj} (F : Fr S.h₀ S.L s1.heap fm) (N : News S.h₀ S.L s1.heap (ledg S nx fz)) : s1.heap.objs.size ≠ S.L ∧ S.h₀.get? s1.heap.objs.size = none ∧ (∀ p ∈ ledg S nx fz, p.1 ≠ s1.heap.objs.size) ∧ Fr S.h₀ S.L (s1.heap.push o) fm ∧ News S.h₀ S.L (s1.heap.push o) (ledg S nx fz) :=
 ⟨fun e => absurd F.ns.lt (by rw [← e]; exact Nat.lt_irrefl _), next_is_new F, fun p hp => Nat.ne_of_lt (Heap.lt_size (N p hp).1), F.push _, fun p hp => ⟨Heap.get?_push_of_some _ (N p hp).1, (N p hp).2⟩⟩
theorem forR_core (O : Ok S) (hf : S.env.locals = S.L) (hsto : StoOk S xn sto) (Ib : ∀ S' : Sit, Ok S' → S'.d = S.d → S'.env = S.env → S'.env.locals = S'.L → Bl S' bl f) (Io : Bl S el g) {y z c : Int} {tt u w : Tok} {r : Addr} {n : Nat} (hr : IsRange s1.heap r y z c tt u w) (hsm : Builtin.Range.small y z c = true) (hn : Builtin.Range.rangeSize y z c = ((n : Nat) : Int)) (H : Hd (S.at fm) s1.heap ad μ ν)
  (hk : forGK S.d.F vals sto n f KE KN K μ ν) (hv : vals = fun i Q => Q (.i (y + (i : Int) * c))) (hKE : ∀ μ ν, KE μ ν → g (LoopQ KN K) μ ν) (a0 : At s0 s1) :
  wpS S (pyIter (.ref r)) (fun it s₂ => codeAny (model P0 S.w) S.A (.forLoop (.Name xn px) it bl el S.env) (RL' S s0 (LoopQ KN K)) s₂) s1 := by
 obtain ⟨m', nx, fz, F, N, l, R⟩ := H
 refine wpAny_pyIter_range hr hsm ?_
 obtain ⟨i1, i2, i3, F2, N2⟩ := fresh_I (o := _) F N
 refine forG_core (s1 := { s1 with heap := s1.heap.push _ }) O hf hsto Ib Io (P := fun i v => ∃ t, v = .int (y + (i : Int) * c) t) (St := fun i h => IsRangeIter h s1.heap.objs.size (y + (i : Int) * c) ((n : Int) - (i : Nat)) c) (Walks.range O.hnd _ y c n) (fun i h st => ⟨_, st⟩) (by show IsRangeIter _ _ _ _ _; rw [hn]; simpa using Heap.get?_push_size _ rfl) i1 i2 i3 F2 N2 l R (fun b hb hne => absurd (List.mem_singleton.mp hb) hne) (fun i v hi hP S' h ad μ ν Q _ _ H q => ?_) hk hKE (a0.trans ⟨_, s1.toks, rfl⟩)
 obtain ⟨t, rfl⟩ := hP
 rw [hv] at q
 exact ⟨_, ad, ν, H, rpI, q⟩
theorem forL_core (O : Ok S) (hf : S.env.locals = S.L) (hsto : StoOk S xn sto) (Ib : ∀ S' : Sit, Ok S' → S'.d = S.d → S'.env = S.env → S'.env.locals = S'.L → Bl S' bl f) (Io : Bl S el g) {D : Addr} {vs : List Value} {k n : Nat} {nx fz : List (Addr × Obj)} (F : Fr S.h₀ S.L s1.heap fm) (N : News S.h₀ S.L s1.heap (ledg S nx fz)) (l : Loc (S.at fm) m') (R : Rel (S.at fm) ad μ ν m' nx fz) (z : Zf S.h₀ fz D (listOf vs.toArray k)) (hn : vs.length = n)
  (hval : ValOk S fz n (fun i v => vs[i]? = some v) vals) (hk : forGK S.d.F vals sto n f KE KN K μ ν) (hKE : ∀ μ ν, KE μ ν → g (LoopQ KN K) μ ν) (a0 : At s0 s1) :
  wpS S (pyIter (.ref D)) (fun it s₂ => codeAny (model P0 S.w) S.A (.forLoop (.Name xn px) it bl el S.env) (RL' S s0 (LoopQ KN K)) s₂) s1 := by
 have hg := z.get (S := S.at fm) F N
 refine wpAny_pyIter_list (items := vs.toArray) ⟨_, hg, rfl, _, rfl⟩ ?_
 obtain ⟨i1, i2, i3, F2, N2⟩ := fresh_I (o := _) F N
 have W := Walks.list (prog := P0) (w := S.w) O.hnd s1.heap.objs.size D (Nat.ne_of_lt (Heap.lt_size hg)) vs.toArray
 have hsz : vs.toArray.size = n := by rw [List.size_toArray, hn]
 rw [hsz] at W
 refine forG_core (s1 := { s1 with heap := s1.heap.push _ }) O hf hsto Ib Io W (fun i h st => let ⟨⟨o, e, _⟩, _⟩ := st; ⟨o, e⟩) ⟨⟨_, Heap.get?_push_size _ rfl, rfl, rfl⟩, _, Heap.get?_push_of_some _ hg, rfl, _, rfl⟩ i1 i2 i3 F2 N2 l R (fun b hb hne => ?_) (fun i v hi hP => hval i v hi (by simpa using hP)) hk hKE (a0.trans ⟨_, s1.toks, rfl⟩)
 rcases List.mem_cons.mp hb with e | e
 ·exact absurd e hne
 ·rw [List.mem_singleton.mp e]; exact ⟨_, z⟩
theorem val_ints {vs : List Value} {ns : List Int} (hi : IntsAre vs ns) : ValOk S fz ns.length (fun i v => vs[i]? = some v) (fun n Q => Q (.i (ns.getD n 0))) := fun i v hl hP S' h ad μ ν Q _ _ H q => by
 (refine el_EER (IntsAre.at hi i v hP) fun z t z09 => ?_; subst z09; intro hz)
 dsimp only at q
 rw [show ns.getD i 0 = z from by rw [List.getD_eq_getElem?_getD, hz]; rfl] at q
 exact ⟨_, ad, ν, H, rpI, q⟩
theorem val_rows {vs : List Value} {rs : List (List Int)} (hi : RowsZ (fun a o => (a, o) ∈ fz) vs rs) : ValOk S fz rs.length (fun i v => vs[i]? = some v) (fun n Q μ ν => Q (.o ν.length) μ (ν ++ [.ro (rs.getD n [])])) := fun i v hl hP S' h ad μ ν Q e hp H q => by
 (refine el_EEERA (hi.at i v hP) fun a ws k z09 => ?_; subst z09; intro h1 h2)
 obtain ⟨m', nx, fz', F, N, l, R⟩ := H
 exact ⟨_, _, _, Hd.see (so := .ro (rs.getD i [])) R l rfl rfl F N (.inr (R.pin _ (hp _ h1))) ⟨ws, k, rfl, h2⟩, rpO (by rw [← R.len]; exact List.getElem?_concat_length), q⟩
end
theorem forL_st (O : Ok S) (hf : S.env.locals = S.L) {b : B} (Ib : BlAll S.d b) {i c c1 e1 l2 e : Nat} {KN : KP} (hi : i < S.d.F.ns.length) (h : ev S.d t false (fun a μ ν => wO a ν fun _ so => match so with
  | .ro ns => forK S.d.F i ns.length (fun n => .i (ns.getD n 0)) (st S.d b) KN K μ ν
  | .rrows rs => forGK S.d.F (fun n Q μ ν => Q (.o ν.length) μ (ν ++ [.ro (rs.getD n [])])) (stoK i) rs.length (st S.d b) KN KN K μ ν
  | _ => False) μ ν) (H : Hd (S.at fm) s.heap ad μ ν) :
  wpS S (exec (.For (.Name (nmL S.d.F i) ⟨l, c1, l, e1⟩) (t.raw l S.d) (b.raw S.d) [] ⟨l, c, l2, e⟩) S.env) (PS S s (LoopQ KN K)) s :=
 wpAny_For (bnd (S := S.at fm) ((ev_sound l t _ (O.at fm)).1 _ _ _ _ _ h H) fun v s1 ad1 sv μ1 ν1 a1 l1 H1 r1 k1 => by
  (refine el_EERA (wO_inv k1) fun j so z09 => ?_; subst z09; intro hj k2)
  obtain ⟨m', nx, fz, F, N, l, R⟩ := H1
  (refine el_EAr r1 fun D' z09 => ?_; try clear r1; subst z09; intro e4)
  cases so with
  | ro ns =>
   (refine el_EEAAbEERe (R.fro hj (fun e => by cases e) rfl) fun D o vs n z09 => ?_; subst z09; intro e1 hi e3)
   obtain rfl := Option.some.inj (e1.symm.trans e4)
   exact forL_core O hf (sto_ok O i) (fun S' O' e1 e2 e3 => Ib S' O' e1 e3) nil_bl F N l R e3 hi.length (val_ints hi) k2 (fun _ _ x => x) a1
  | rrows rs =>
   (refine el_EEAAbEERe (R.fsh hj rfl) fun D o vs n z09 => ?_; subst z09; intro e1 hi e3)
   obtain rfl := Option.some.inj (e1.symm.trans e4)
   exact forL_core O hf (sto_ok O i) (fun S' O' e1 e2 e3 => Ib S' O' e1 e3) nil_bl F N l R (.inr e3) hi.len (val_rows hi) k2 (fun _ _ x => x) a1
  | _ => exact k2.elim) (fsi (T.plain l S.d t) _)
theorem forE_st (O : Ok S) (hf : S.env.locals = S.L) {b : B} (Ib : BlAll S.d b) {el : List Stmt} {g : KF → KP} (Io : Bl S el g) {i bi ef c2 e2 c c1 e1 l2 e : Nat} {KE KN : KP} (hi : i < S.d.F.ns.length) (h : (match S.d.F.bi[bi]? with
  | some .range => ev S.d t false fun a μ ν => wI a fun z => (-2 ^ 62 ≤ z ∧ z < 2 ^ 62) ∧ forGK S.d.F (fun n Q => Q (.i (n : Int))) (stoK i) z.toNat (st S.d b) KE KN K μ ν
  | _ => fun _ _ => False) μ ν) (hKE : ∀ μ ν, KE μ ν → g (LoopQ KN K) μ ν) (H : Hd (S.at fm) s.heap ad μ ν) :
  wpS S (exec (.For (.Name (nmL S.d.F i) ⟨l, c1, l, e1⟩) (.Call (.Name (nmB S.d.F bi) ⟨l, c2, l, ef⟩) [t.raw l S.d] [] ⟨l, c2, l, e2⟩) (b.raw S.d) el ⟨l, c, l2, e⟩) S.env) (PS S s (LoopQ KN K)) s := by
 unfold nmB
 cases hb : S.d.F.bi[bi]? with
 | none => rw [hb] at h; exact h.elim
 | some o =>
  rw [hb] at h
  cases o with
  | range =>
   refine wpAny_For (Call_ (ev_bi (O.at fm) (List.mem_of_getElem? hb) (cw_bi (S := S.at fm) (o := .range) (T.plain l S.d t) rfl (args1 (S := S.at fm) ((ev_sound l t _ (O.at fm)).1) h H fun v s1 ad1 sv μ1 ν1 a1 l1 H1 r1 k1 => ?_)) H)) (fun _ => rfl)
   (refine el_ERA (wI_inv k1) fun z z09 => ?_; subst z09; intro hz k2)
   obtain ⟨t', rfl⟩ := r1
   obtain ⟨m', nx, fz, F, N, l0, R⟩ := H1
   refine range1_rows F N fun h2 tk t1 u1 v1 hR F2 N2 _ => ?_
   exact forR_core (s1 := { s1 with heap := h2, toks := tk }) O hf (sto_ok O i) (fun S' O' e1 e2 e3 => Ib S' O' e1 e3) Io hR (small_one (by decide) (by decide) hz.1 hz.2) (by rw [rangeSize_nat, Int.sub_zero]) ⟨m', nx, fz, F2, N2, l0, R⟩ k2 (by funext n Q; rw [Int.zero_add, Int.mul_one]) hKE (a1.trans ⟨h2, tk, rfl⟩)
  | _ => exact h.elim
theorem for2_st (O : Ok S) (hf : S.env.locals = S.L) {b : B} (Ib : BlAll S.d b) {xn : Str} {sto : SV → KP → KP} (hsto : StoOk S xn sto) {bi ef c2 e2 c c1 e1 l2 e : Nat} {KN : KP} (h : (match S.d.F.bi[bi]? with
  | some .range => ev S.d t false fun a => ev S.d u false fun a' μ ν => wI a fun w => wI a' fun z => (-2 ^ 62 ≤ w ∧ w < 2 ^ 62 ∧ -2 ^ 62 ≤ z ∧ z < 2 ^ 62) ∧ forGK S.d.F (fun n Q => Q (.i (w + (n : Int)))) sto (z - w).toNat (st S.d b) KN KN K μ ν
  | _ => fun _ _ => False) μ ν) (H : Hd (S.at fm) s.heap ad μ ν) :
  wpS S (exec (.For (.Name xn ⟨l, c1, l, e1⟩) (.Call (.Name (nmB S.d.F bi) ⟨l, c2, l, ef⟩) [t.raw l S.d, u.raw l S.d] [] ⟨l, c2, l, e2⟩) (b.raw S.d) [] ⟨l, c, l2, e⟩) S.env) (PS S s (LoopQ KN K)) s := by
 unfold nmB
 cases hb : S.d.F.bi[bi]? with
 | none => rw [hb] at h; exact h.elim
 | some o =>
  rw [hb] at h
  cases o with
  | range =>
   refine wpAny_For (Call_ (ev_bi (O.at fm) (List.mem_of_getElem? hb) (cw_bi (S := S.at fm) (o := .range) (T.plain l S.d t) (any2 (T.plain l S.d u) _ _) (args2 (S := S.at fm) (K := fun a a' μ ν => wI a fun w => wI a' fun z => (-2 ^ 62 ≤ w ∧ w < 2 ^ 62 ∧ -2 ^ 62 ≤ z ∧ z < 2 ^ 62) ∧ forGK S.d.F (fun n Q => Q (.i (w + (n : Int)))) sto (z - w).toNat (st S.d b) KN KN K μ ν) ((ev_sound l t _ (O.at fm)).1) ((ev_sound l u _ (O.at fm)).1) h H fun v v' s1 ad1 sv sv' μ1 ν1 a1 l1 H1 r1 r2 k1 => ?_)) H)) (fun _ => rfl)
   (refine el_ER (wI_inv k1) fun w z09 => ?_; subst z09; intro k1')
   (refine el_ERA (wI_inv k1') fun z z09 => ?_; subst z09; intro hz k2)
   obtain ⟨t', rfl⟩ := r1
   obtain ⟨u', rfl⟩ := r2
   obtain ⟨m', nx, fz, F, N, l0, R⟩ := H1
   refine range2_rows F N fun h2 tk t1 u1 v1 hR F2 N2 _ => ?_
   exact forR_core (s1 := { s1 with heap := h2, toks := tk }) O hf hsto (fun S' O' e1 e2 e3 => Ib S' O' e1 e3) nil_bl hR (small_one hz.1 hz.2.1 hz.2.2.1 hz.2.2.2) (rangeSize_nat _ _) ⟨m', nx, fz, F2, N2, l0, R⟩ k2 (by funext n Q; rw [Int.mul_one]) (fun _ _ x => x) (a1.trans ⟨h2, tk, rfl⟩)
  | _ => exact h.elim
theorem for3_st (O : Ok S) (hf : S.env.locals = S.L) {b : B} (Ib : BlAll S.d b) {xn : Str} {sto : SV → KP → KP} (hsto : StoOk S xn sto) {bi ef c2 e2 c c1 e1 l2 e : Nat} {KN : KP} (h : (match S.d.F.bi[bi]? with
  | some .range => ev S.d t false fun a => ev S.d u false fun a' => ev S.d x false fun a'' μ ν => wI a fun w => wI a' fun z => wI a'' fun q => ∃ cnt : Nat, (q ≠ 0 ∧ q.natAbs < 1073741824 ∧ Builtin.Range.small w z q = true ∧ Builtin.Range.rangeSize w z q = (cnt : Int)) ∧ forGK S.d.F (fun n Q => Q (.i (w + (n : Int) * q))) sto cnt (st S.d b) KN KN K μ ν
  | _ => fun _ _ => False) μ ν) (H : Hd (S.at fm) s.heap ad μ ν) :
  wpS S (exec (.For (.Name xn ⟨l, c1, l, e1⟩) (.Call (.Name (nmB S.d.F bi) ⟨l, c2, l, ef⟩) [t.raw l S.d, u.raw l S.d, x.raw l S.d] [] ⟨l, c2, l, e2⟩) (b.raw S.d) [] ⟨l, c, l2, e⟩) S.env) (PS S s (LoopQ KN K)) s := by
 unfold nmB
 cases hb : S.d.F.bi[bi]? with
 | none => rw [hb] at h; exact h.elim
 | some o =>
  rw [hb] at h
  cases o with
  | range =>
   refine wpAny_For (Call_ (ev_bi (O.at fm) (List.mem_of_getElem? hb) (cw_bi (S := S.at fm) (o := .range) (T.plain l S.d t) (any4 (T.plain l S.d u) (T.plain l S.d x) _ _) (args3 (S := S.at fm) (K := fun a a' a'' μ ν => wI a fun w => wI a' fun z => wI a'' fun q => ∃ cnt : Nat, (q ≠ 0 ∧ q.natAbs < 1073741824 ∧ Builtin.Range.small w z q = true ∧ Builtin.Range.rangeSize w z q = (cnt : Int)) ∧ forGK S.d.F (fun n Q => Q (.i (w + (n : Int) * q))) sto cnt (st S.d b) KN KN K μ ν) ((ev_sound l t _ (O.at fm)).1) ((ev_sound l u _ (O.at fm)).1) ((ev_sound l x _ (O.at fm)).1) h H fun v v' v'' s1 ad1 sv sv' sv'' μ1 ν1 a1 l1 H1 r1 r2 r3 k1 => ?_)) H)) (fun _ => rfl)
   (refine el_ER (wI_inv k1) fun w z09 => ?_; subst z09; intro k1')
   (refine el_ER (wI_inv k1') fun z z09 => ?_; subst z09; intro k1'')
   (refine el_EREA (wI_inv k1'') fun q cnt z09 => ?_; subst z09; intro hz k2)
   obtain ⟨t', rfl⟩ := r1
   obtain ⟨u', rfl⟩ := r2
   obtain ⟨x', rfl⟩ := r3
   obtain ⟨m', nx, fz, F, N, l0, R⟩ := H1
   refine range3_rows F N hz.1 (fun h2 tk t1 u1 v1 hR F2 N2 _ => ?_) (.inl (PyProof.noPylong_small hz.2.1))
   exact forR_core (s1 := { s1 with heap := h2, toks := tk }) O hf hsto (fun S' O' e1 e2 e3 => Ib S' O' e1 e3) nil_bl hR hz.2.2.1 hz.2.2.2 ⟨m', nx, fz, F2, N2, l0, R⟩ k2 rfl (fun _ _ x => x) (a1.trans ⟨h2, tk, rfl⟩)
  | _ => exact h.elim
theorem forV_st (O : Ok S) (hf : S.env.locals = S.L) {b : B} (Ib : BlAll S.d b) {i bi ef c2 e2 c c1 e1 l2 e : Nat} {KN : KP} (hi : i < S.d.F.ns.length) (h : (match S.d.F.bi[bi]? with
  | some .reversed => ev S.d t false fun a μ ν => wO a ν fun _ so => (match so with
   | .ro ns => forK S.d.F i ns.length (fun n => .i (ns.getD (ns.length - 1 - n) 0)) (st S.d b) KN K μ ν
   | _ => False)
  | _ => fun _ _ => False) μ ν) (H : Hd (S.at fm) s.heap ad μ ν) :
  wpS S (exec (.For (.Name (nmL S.d.F i) ⟨l, c1, l, e1⟩) (.Call (.Name (nmB S.d.F bi) ⟨l, c2, l, ef⟩) [t.raw l S.d] [] ⟨l, c2, l, e2⟩) (b.raw S.d) [] ⟨l, c, l2, e⟩) S.env) (PS S s (LoopQ KN K)) s := by
 unfold nmB
 cases hb : S.d.F.bi[bi]? with
 | none => rw [hb] at h; exact h.elim
 | some o =>
  rw [hb] at h
  cases o with
  | reversed =>
   refine wpAny_For (Call_ (ev_bi (O.at fm) (List.mem_of_getElem? hb) (cw_bi (S := S.at fm) (o := .reversed) (T.plain l S.d t) rfl (args1 (S := S.at fm) ((ev_sound l t _ (O.at fm)).1) h H fun v s1 ad1 sv μ1 ν1 a1 l1 H1 r1 k1 => ?_)) H)) (fun _ => rfl)
   (refine el_EERA (wO_inv k1) fun j so z09 => ?_; subst z09; intro hj k2)
   cases so with
   | ro ns =>
    obtain ⟨m', nx, fz, F, N, l0, R⟩ := H1
    (refine el_EEAAbEERe (R.fro hj (fun e => by cases e) rfl) fun D o vs n z09 => ?_; subst z09; intro e1 hin z)
    (refine el_EAr r1 fun D' z09 => ?_; try clear r1; subst z09; intro e4)
    obtain rfl := Option.some.inj (e1.symm.trans e4)
    have hl := hin.length
    have hg := z.get (S := S.at fm) F N
    refine krv_reversed F N (vs := vs) ⟨_, hg, rfl, _, rfl⟩ fun I h2 F2 N2 hlt => ?_
    have hI := N2 _ List.mem_cons_self
    have hg2 := z.get (S := S.at fm) F2 fun p hp => N2 p (List.mem_cons_of_mem _ hp)
    have hit : h2.IsRevIter I D ((vs.length : Int) - 1) := ⟨_, hI.1, rfl, rfl⟩
    have hne : D ≠ I := z.elim (fun z e => by have q := hI.2.2; rw [e] at z; rw [z] at q; cases q) fun z => Nat.ne_of_lt (hlt _ (List.mem_append_right _ (List.mem_append_left _ z)))
    refine wpAny_pyIter_revIter (s := { s1 with heap := h2 }) hit ?_
    have W := Walks.listRev (prog := P0) (w := S.w) O.hnd I D hne vs.toArray
    have hsz : vs.toArray.size = ns.length := by rw [List.size_toArray, hl]
    rw [hsz] at W
    refine forG_core (s1 := { s1 with heap := h2 }) O hf (sto_ok O i) (fun S' O' e1 e2 e3 => Ib S' O' e1 e3) nil_bl W (fun i h st => let ⟨_, ⟨o, e, _⟩, _⟩ := st; ⟨o, e⟩) ⟨Nat.zero_le _, by rw [hl] at hit; simpa using hit, _, hg2, rfl, _, rfl⟩ hI.2.1 hI.2.2 (fun p hp => Nat.ne_of_lt (hlt p hp)) F2 (fun p hp => N2 p (List.mem_cons_of_mem _ hp)) l0 R (fun b hb hne => ?_) (fun i v hi hP S' h ad μ ν Q _ _ H q => ?_) k2 (fun _ _ x => x) (a1.trans ⟨h2, s1.toks, rfl⟩)
    ·rcases List.mem_cons.mp hb with e | e
     ·exact absurd e hne
     ·rw [List.mem_singleton.mp e]; exact ⟨_, z⟩
    ·(refine el_EER (IntsAre.at hin (ns.length - 1 - i) v (by simpa using hP)) fun y t z09 => ?_; subst z09; intro hy)
     dsimp only at q
     rw [show ns.getD (ns.length - 1 - i) 0 = y from by rw [List.getD_eq_getElem?_getD, hy]; rfl] at q
     exact ⟨_, ad, ν, H, rpI, q⟩
   | _ => exact k2.elim
  | _ => exact h.elim
theorem seqT {x : Stmt} {r : List Stmt} {KN : KP} (h : wpS S (exec x S.env) (PS S s (thenK KN K)) s) (k : ∀ fm μ' ν' s' ad', KN μ' ν' → Hd (S.at fm) s'.heap ad' μ' ν' → wpS S (execs r S.env) (PS S s' K) s') : wpS S (execs (x :: r) S.env) (PS S s K) s :=
 seq h k (fun _ _ x => x) (fun _ _ x => x) fun _ _ _ x => x
theorem ite_st (O : Ok S) {b o : B} (Ib : Bl S (b.raw S.d) (st S.d b)) (Io : Bl S (o.raw S.d) (st S.d o)) {c l2 e : Nat} {K' : KF} (h : ev S.d t true (fun v => ifB v (st S.d b K') (st S.d o K')) μ ν) (H : Hd (S.at fm) s.heap ad μ ν) :
  wpS S (exec (.If (t.raw l S.d) (b.raw S.d) (o.raw S.d) ⟨l, c, l2, e⟩) S.env) (PS S s K') s :=
 wpAny_If (bndT (S := S.at fm) ((ev_sound l t _ (O.at fm)).2 _ _ _ _ _ h H) fun q s1 ad1 sv μ1 ν1 a1 l1 H1 r1 k1 => by
  have k2 := ifB_inv r1 k1
  cases q with
  | true => rw [if_pos rfl] at k2 ⊢; exact wpP a1 (Ib fm _ _ _ _ _ k2 H1)
  | false => rw [if_neg Bool.false_ne_true] at k2 ⊢; exact wpP a1 (Io fm _ _ _ _ _ k2 H1))
end
theorem st_sound (d : Df) (b : B) : BlAll d b := by
 induction b with
 | nil => rintro S O rfl hf fm K μ ν s ad h H; exact wpAny_execs_nil ⟨fm, ad, .next, μ, ν, At.refl, H, rfl, h⟩
 | set i v l c tn e k ik => rintro S O rfl hf fm K μ ν s ad h H; obtain ⟨h1, h2⟩ := onlyB_inv h; exact seqN (set_st (k := k) O hf h1 h2 H) fun fm μ' ν' s' ad' hk H' => ik S O rfl hf fm K _ _ _ _ hk H'
 | setc i v l c tn e k ik => rintro S O rfl hf fm K μ ν s ad h H; obtain ⟨h1, h2⟩ := onlyB_inv h; exact seqN (setc_st (k := k) O h1 h2 H) fun fm μ' ν' s' ad' hk H' => ik S O rfl hf fm K _ _ _ _ hk H'
 | setR i ck j elt n bi ef c1 e1 l c tn vc e k ik => rintro S O rfl hf fm K μ ν s ad h H; obtain ⟨h1, h2⟩ := onlyB_inv h; exact seqN (setR_st O hf h1 h2 H) fun fm μ' ν' s' ad' hk H' => ik S O rfl hf fm K _ _ _ _ hk H'
 | sset o i v l c tn e k ik => rintro S O rfl hf fm K μ ν s ad h H; obtain ⟨h1, h2⟩ := onlyB_inv h; exact seqN (sset_st O h1 h2 H) fun fm μ' ν' s' ad' hk H' => ik S O rfl hf fm K _ _ _ _ hk H'
 | unp i j v l c c1 c2 tn e k ik => rintro S O rfl hf fm K μ ν s ad h H; obtain ⟨h1, h2⟩ := onlyB_inv h; obtain ⟨h2, h3⟩ := onlyB_inv h2; exact seqN (unp_st O hf h1 h2 h3 H) fun fm μ' ν' s' ad' hk H' => ik S O rfl hf fm K _ _ _ _ hk H'
 | aug i o v l c tn e k ik => rintro S O rfl hf fm K μ ν s ad h H; exact seqN (aug_st O hf h H) fun fm μ' ν' s' ad' hk H' => ik S O rfl hf fm K _ _ _ _ hk H'
 | augs o i op v l c tn e k ik => rintro S O rfl hf fm K μ ν s ad h H; exact seqN (augs_st O h H) fun fm μ' ν' s' ad' hk H' => ik S O rfl hf fm K _ _ _ _ hk H'
 | expr v l c e k ik => rintro S O rfl hf fm K μ ν s ad h H; obtain ⟨h1, h2⟩ := onlyB_inv h; exact seqN (expr_st O h1 h2 H) fun fm μ' ν' s' ad' hk H' => ik S O rfl hf fm K _ _ _ _ hk H'
 | ite t b o l c l2 e k ib io ik => rintro S O rfl hf fm K μ ν s ad h H; exact seqT (ite_st O (ib S O rfl hf) (io S O rfl hf) h H) fun fm μ' ν' s' ad' hk H' => ik S O rfl hf fm K _ _ _ _ hk H'
 | whl t b l c l2 e k ib ik => intro S O q19; subst q19; intro hf fm K μ ν s ad q29; (refine el_EEA q29 fun J n₀ => ?_; try clear q29; intro h0 ht); intro H; exact seqT (whl_st O (ib S O rfl hf) h0 ht H) fun fm μ' ν' s' ad' hk H' => ik S O rfl hf fm K _ _ _ _ hk H'
 | forL i it b l c c1 e1 l2 e k ib ik => rintro S O rfl hf fm K μ ν s ad h H; obtain ⟨h1, h2⟩ := inB_inv h; exact seqT (forL_st O hf ib h1 h2 H) fun fm μ' ν' s' ad' hk H' => ik S O rfl hf fm K _ _ _ _ hk H'
 | forR i bi x ef c2 e2 b l c c1 e1 l2 e k ib ik => rintro S O rfl hf fm K μ ν s ad h H; obtain ⟨h1, h2⟩ := inB_inv h; exact seqT (forE_st O hf ib nil_bl h1 h2 (fun _ _ x => x) H) fun fm μ' ν' s' ad' hk H' => ik S O rfl hf fm K _ _ _ _ hk H'
 | forR2 i bi x y ef c2 e2 b l c c1 e1 l2 e k ib ik => rintro S O rfl hf fm K μ ν s ad h H; obtain ⟨h1, h2⟩ := inB_inv h; exact seqT (for2_st O hf ib (sto_ok O i) h2 H) fun fm μ' ν' s' ad' hk H' => ik S O rfl hf fm K _ _ _ _ hk H'
 | ret v l c e k ik => rintro S O rfl hf fm K μ ν s ad h H; exact wpAny_execs_cons (wpAny_Return_some (bnd (S := S.at fm) ((ev_sound l v _ (O.at fm)).1 _ _ _ _ _ h H) fun v s1 ad1 sv μ1 ν1 a1 l1 H1 r1 k1 => ⟨fm, ad1, .ret sv, μ1, ν1, a1, H1, ⟨v, rfl, r1⟩, k1⟩))
 | brk l c e k ik => rintro S O rfl hf fm K μ ν s ad h H; exact wpAny_execs_cons (wpAny_Break ⟨fm, ad, .brk, μ, ν, At.refl, H, rfl, h⟩)
 | setF i ck j elt tst it l c tn vc e k ik => rintro S O rfl hf fm K μ ν s ad h H; obtain ⟨h1, h2⟩ := onlyB_inv h; exact seqN (setF_st O hf h1 h2 H) fun fm μ' ν' s' ad' hk H' => ik S O rfl hf fm K _ _ _ _ hk H'
 | setRF i ck j elt tst n bi ef c1 e1 l c tn vc e k ik => rintro S O rfl hf fm K μ ν s ad h H; obtain ⟨h1, h2⟩ := onlyB_inv h; exact seqN (setRF_st O hf h1 h2 H) fun fm μ' ν' s' ad' hk H' => ik S O rfl hf fm K _ _ _ _ hk H'
 | forV i bi x ef c2 e2 b l c c1 e1 l2 e k ib ik => rintro S O rfl hf fm K μ ν s ad h H; obtain ⟨h1, h2⟩ := inB_inv h; exact seqT (forV_st O hf ib h1 h2 H) fun fm μ' ν' s' ad' hk H' => ik S O rfl hf fm K _ _ _ _ hk H'
 | forE i bi x ef c2 e2 b o l c c1 e1 l2 e k ib io ik => rintro S O rfl hf fm K μ ν s ad h H; obtain ⟨h1, h2⟩ := inB_inv h; exact seqT (forE_st O hf ib (io S O rfl hf) h1 h2 (fun _ _ x => x) H) fun fm μ' ν' s' ad' hk H' => ik S O rfl hf fm K _ _ _ _ hk H'
 | forC2 i bi x y ef c2 e2 b l c c1 e1 l2 e k ib ik => rintro S O rfl hf fm K μ ν s ad h H; exact seqT (for2_st O hf ib (stoC_ok O i) h H) fun fm μ' ν' s' ad' hk H' => ik S O rfl hf fm K _ _ _ _ hk H'
 | forC3 i bi x y z ef c2 e2 b l c c1 e1 l2 e k ib ik => rintro S O rfl hf fm K μ ν s ad h H; exact seqT (for3_st O hf ib (stoC_ok O i) h H) fun fm μ' ν' s' ad' hk H' => ik S O rfl hf fm K _ _ _ _ hk H'
 | any xs => rintro S O rfl hf fm K μ ν s ad h H; exact h.elim
 | ret0 l c e k ik => rintro S O rfl hf fm K μ ν s ad h H; exact wpAny_execs_cons (wpAny_Return_none ⟨fm, ad, .ret (.v .none), μ, ν, At.refl, H, ⟨.none, rfl, rfl⟩, h⟩)
 | fgt bs cs k ik =>
  intro S O q19; subst q19; intro hf fm K μ ν s ad q29; obtain ⟨h1, h2⟩ := q29; intro H
  obtain ⟨m', nx, fz, F, N, l, R⟩ := H
  exact ik S O rfl hf fm K _ _ s _ h2 ⟨m', nx, fz, F, N, l, R.weak (okW_inv h1).1 (okW_inv h1).2⟩
end Mine
end
section
namespace Mine
open PySem PySem.W PySem.Calls PySem.Spec PyProof.Rows
noncomputable def retK (P : SV → Nu → Prop) : KF := fun f _ ν => match f with
 | .ret v => P v ν
 | _ => False
noncomputable def intsV : List SV → Bool
 | [] => true
 | .i _ :: r => intsV r
 | _ :: _ => false
noncomputable def Dv (sv : SV) (ν' ν : Nu) (K : SV → Nu → Prop) : Prop := match sv with
 | .i n => K (.i n) ν
 | .s x => K (.s x) ν
 | .b c => K (.b c) ν
 | .o k => (match ν'[k]? with
  | some (.ints ns) => K (.o ν.length) (ν ++ [.ro ns])
  | some (.rows rs) => K (.o ν.length) (ν ++ [.rrows rs])
  | some (.tup svs) => intsV svs = true ∧ K (.o ν.length) (ν ++ [.tup svs])
  | _ => False)
 | _ => False
section
variable {ad : List Addr} {μ : Mu}
theorem intsV_RL {ad ad' : List Addr} {svs : List SV} : ∀ {vs : List Value}, intsV svs = true → RL ad svs vs → RL ad' svs vs := by
 induction svs with
 | nil => intro vs _ h; exact h
 | cons a r ih =>
  intro vs q q19; (refine el_EEAA q19 fun v s => ?_; try clear q19; intro e h1 h2)
  cases a with
  | i n => exact ⟨v, s, e, h1, ih q h2⟩
  | _ => cases q
noncomputable def stM (ad : List Addr) (m : Str → Option Value) : Mu → List Str → Prop
 | [], [] => True
 | sv :: r, x :: xs => (sv = .u ∨ ∃ v, m x = some v ∧ Rp ad sv v) ∧ stM ad m r xs
 | _, _ => False
theorem stM_len {m : Str → Option Value} {μ : Mu} : ∀ {ns : List Str}, stM ad m μ ns → μ.length = ns.length := by
 induction μ with
 | nil => intro ns h; cases ns <;> first | rfl | exact h.elim
 | cons a r ih => intro ns h; cases ns <;> first | exact h.elim | exact congrArg (· + 1) (ih h.2)
theorem stM_get {m : Str → Option Value} {μ : Mu} : ∀ {ns : List Str}, stM ad m μ ns → ∀ (i : Nat) (sv : SV) (x : Str), μ[i]? = some sv → ns[i]? = some x → sv = .u ∨ ∃ v, m x = some v ∧ Rp ad sv v := by
 induction μ with
 | nil => intro ns h i sv x e; cases e
 | cons a r ih =>
  intro ns h i sv x e1 e2
  cases ns with
  | nil => exact h.elim
  | cons y ys =>
   cases i with
   | zero => cases e1; cases e2; exact h.1
   | succ i => exact ih h.2 i sv x e1 e2
end
noncomputable abbrev Sit.of (w : World) (A : Around) (h₀ : Heap) (L : Addr) (env : Env) (d : Df) (fm : Str → Option Value) : Sit := { w := w, A := A, h₀ := h₀, L := L, env := env, d := d, fm := fm }
noncomputable def Good (f : Addr) (D U : Nat) (C : List SV → Nu → (SV → Nu → Prop) → Prop) : Prop :=
 ∀ (S : Sit) (D' U' : Nat) (fr : Option (List Env)) (gd : Option (List Code)) (env : Env), S.A = (AR D' U' fr gd).deeper env → D' + 1 ≤ D → U' + 3 ≤ U → Rdy S.w S.h₀ →
  ∀ (vs : List SV) (ν : Nu) (μ : Mu) (K : KV) (args : List Value) (s : Shared) (ad : List Addr), C vs ν (fun v ν => K v μ ν) → Hd S s.heap ad μ ν → RL ad vs args → wpS S (call (.ref f) args) (PX S s ad K) s
noncomputable def NmB (sc : Scope) (F : Fn) : Bool := (sc.kind == .function) && (allB (fun x => sc.names.lookup x == some .local && !(x == dbg)) F.ns && (allB (fun p => (sc.names.lookup p.2 == some .cell || (sc.names.lookup p.2 == some .free && !(p.2 == Str.ofString "__classdict__"))) && !(p.2 == dbg)) F.cs && (allB (fun p => sc.names.lookup p.1 == some .globalImplicit && !(p.1 == dbg)) F.gt && allB (fun (o : B1) => sc.names.lookup o.nm == some .globalImplicit) F.bi)))
noncomputable def GtOk (F : Fn) : Prop := ∀ w, ∀ p ∈ F.gt, nsIn (H39 w) mainGlobals p.1 = some (some p.2) ∧ keptV w p.2 = true
theorem NmOk.of {w : World} {env : Env} {F : Fn} (h : NmB env.scope F = true) (hg : GtOk F) (e1 : env.globals = mainGlobals) (e2 : env.builtins = builtinsNs) : NmOk w env F := by
 simp only [NmB, Bool.and_eq_true] at h
 (refine el_AAAA h ?_; try clear h; intro h1 h2 h3 h4 h5)
 refine ⟨by simpa using h1, e1, e2, fun x hx => ?_, fun p hp => ?_, fun p hp => ?_, fun o ho => ?_⟩
 ·have := allB_mem h2 x hx
  simp only [Bool.and_eq_true, Bool.not_eq_true'] at this
  exact ⟨by have := this.1; simpa [Env.kindOf] using this, this.2⟩
 ·have := allB_mem h3 p hp
  simp only [Bool.and_eq_true, Bool.or_eq_true, Bool.not_eq_true'] at this
  exact ⟨by have := this.1; simpa [Env.kindOf] using this, this.2⟩
 ·have := allB_mem h4 p hp
  simp only [Bool.and_eq_true, Bool.not_eq_true'] at this
  exact ⟨by have := this.1; simpa [Env.kindOf] using this, this.2, hg w p hp⟩
 ·have := allB_mem h5 o ho
  simpa [Env.kindOf] using this
end Mine
end
section
namespace Mine
open PySem PySem.W PySem.Calls PySem.Spec PyProof.Rows
noncomputable def impO : SO → SO
 | .ints ns => .ro ns
 | .ro ns => .ro ns
 | .ti ns => .ti ns
 | .ws n b nt cnt => .ws n b nt cnt
 | _ => .junk
noncomputable def impK (ν : Nu) (k : Nat) : SO := match ν[k]? with | some so => impO so | none => .junk
noncomputable def impN (ν : Nu) : List SV → Nu
 | [] => []
 | .o k :: r => impK ν k :: impN ν r
 | _ :: r => impN ν r
noncomputable def impV (i : Nat) : List SV → List SV
 | [] => []
 | .o _ :: r => .o i :: impV (i + 1) r
 | sv :: r => sv :: impV i r
noncomputable def impA (ad : List Addr) : List SV → List Addr
 | [] => []
 | .o k :: r => (match ad[k]? with | some a => a | none => 0) :: impA ad r
 | _ :: r => impA ad r
inductive stI (w : World) (G : Heap) (ad0 : List Addr) : List Addr → Nu → List (Addr × Obj) → Prop
 | nil : stI w G ad0 [] [] []
 | fro {a : Addr} {so : SO} {as : List Addr} {ν : Nu} {nx : List (Addr × Obj)} : so.own = false → so.fsh = false → (so ≠ .junk → ∃ o, Is w G [] ad0 so a o ∧ G.get? a = some o) → stI w G ad0 as ν nx → stI w G ad0 (a :: as) (so :: ν) nx
 | own {a : Addr} {o : Obj} {so : SO} {as : List Addr} {ν : Nu} {nx : List (Addr × Obj)} : so.own = true → Is w G [] ad0 so a o → stI w G ad0 as ν nx → stI w G ad0 (a :: as) (so :: ν) ((a, o) :: nx)
section
variable {w : World} {G : Heap} {ad0 as bs : List Addr} {ν ν' : Nu} {nx nx' : List (Addr × Obj)}
theorem stI_len (h : stI w G ad0 as ν nx) : as.length = ν.length := by
 induction h with
 | nil => rfl
 | fro _ _ _ _ ih => exact congrArg (· + 1) ih
 | own _ _ _ ih => exact congrArg (· + 1) ih
theorem stI_app (h' : stI w G ad0 bs ν' nx') (h : stI w G ad0 as ν nx) : stI w G ad0 (as ++ bs) (ν ++ ν') (nx ++ nx') := by
 induction h with
 | nil => exact h'
 | fro h1 h2 h3 _ ih => exact .fro h1 h2 h3 ih
 | own h1 h2 _ ih => exact .own h1 h2 ih
theorem stI_get (h : stI w G ad0 as ν nx) : ∀ (k : Nat) (so : SO), ν[k]? = some so → so ≠ .junk → ∃ a o, as[k]? = some a ∧ Is w G [] ad0 so a o ∧ if so.own = true then (a, o) ∈ nx else (so.fsh = true → (a, o) ∈ ([] : List (Addr × Obj))) ∧ Zf G [] a o := by
 induction h with
 | nil => intro k so e; cases e
 | fro h1 h2 h3 _ ih =>
  intro k so e hj
  cases k with
  | zero =>
   cases e
   refine el_EA (h3 hj) fun o h4 h5 => ?_
   exact ⟨_, o, rfl, h4, by rw [h1, if_neg Bool.false_ne_true]; exact ⟨(fun q => by rw [h2] at q; cases q), .inl h5⟩⟩
  | succ k => exact ih k so e hj
 | own h1 h2 _ ih =>
  intro k so e hj
  cases k with
  | zero => cases e; exact ⟨_, _, rfl, h2, by rw [if_pos h1]; exact List.mem_cons_self⟩
  | succ k =>
   refine el_EEAA (ih k so e hj) fun a o e1 e2 e3 => ?_
   refine ⟨a, o, e1, e2, ?_⟩
   by_cases q : so.own = true
   ·rw [if_pos q] at e3 ⊢; exact List.mem_cons_of_mem _ e3
   ·rw [if_neg q] at e3 ⊢; exact e3
theorem stI_dis (h : stI w G ad0 as ν nx) : (nx.map (·.1)).Nodup → ∀ (j k : Nat) (so so' : SO) (a : Addr), j ≠ k → ν[j]? = some so → ν[k]? = some so' → so.own = true → so'.own = true → as[j]? = some a → as[k]? = some a → False := by
 induction h with
 | nil => intro _ j k so so' a _ e; cases e
 | fro h1 h2 h3 _ ih =>
  intro hn j k so so' a hjk e1 e2 o1 o2 a1 a2
  cases j with
  | zero => cases e1; rw [h1] at o1; cases o1
  | succ j => cases k with
   | zero => cases e2; rw [h1] at o2; cases o2
   | succ k => exact ih hn j k so so' a (fun q => hjk (congrArg _ q)) e1 e2 o1 o2 a1 a2
 | own h1 h2 h3 ih =>
  intro hn j k so so' a hjk e1 e2 o1 o2 a1 a2
  rw [List.map_cons, List.nodup_cons] at hn
  have no : ∀ {i : Nat} {si : SO} {b : Addr}, _ → si.own = true → _ → b ∈ _ := fun {i si b} (e : _[i]? = some si) ho (ha : _[i]? = some b) => by
   refine el_EEAA (stI_get h3 i si e (own_junk ho)) fun b' o q1 _ q3 => ?_
   rw [if_pos ho] at q3
   obtain rfl := Option.some.inj (ha.symm.trans q1)
   exact List.mem_map_of_mem (f := (·.1)) q3
  cases j with
  | zero => cases k with
   | zero => exact hjk rfl
   | succ k => cases a1; exact hn.1 (no e2 o2 a2)
  | succ j => cases k with
   | zero => cases a2; exact hn.1 (no e1 o1 a1)
   | succ k => exact ih hn.2 j k so so' a (fun q => hjk (congrArg _ q)) e1 e2 o1 o2 a1 a2
theorem Rel.begin {S : Sit} {μ : Mu} {m : Str → Option Value} (h1 : stM ad0 m μ S.d.F.ns) (h2 : stI S.w S.h₀ ad0 ad0 ν nx) (hn : (nx.map (·.1)).Nodup) (hp : S.pin = []) (ho : S.own = []) (hc : ∀ p ∈ S.d.F.cs, ∃ c, S.env.cells.lookup p.2 = some c ∧ ad0[p.1]? = some c) : Rel S ad0 μ ν m nx [] :=
 ⟨stM_len h1, stM_get h1, stI_len h2, stI_get h2, hn, (fun p hp q hq => by rw [ho] at hq; cases hq), (fun _ h => nomatch h), stI_dis h2 hn, (by rw [hp]; exact fun _ h => nomatch h), hc⟩
end
section
variable {Sc : Sit} {h : Heap} {ad : List Addr} {μ : Mu} {ν : Nu} {m' : Str → Option Value} {nx fz : List (Addr × Obj)} {G : Heap}
theorem impO_own (so : SO) : (impO so).own = false ∧ (impO so).fsh = false := by cases so <;> exact ⟨rfl, rfl⟩
theorem imp (R : Rel Sc ad μ ν m' nx fz) (F : Fr Sc.h₀ Sc.L h Sc.fm) (N : News Sc.h₀ Sc.L h (ledg Sc nx fz)) (hG : ∀ a o, ((a, o) ∈ ledg Sc nx fz → ∀ (k : Nat) (so : SO), ν[k]? = some so → so.own = true → ad[k]? = some a → impO so ≠ .junk) → h.get? a = some o → G.get? a = some o) (hZ : ∀ a o, Zf Sc.h₀ fz a o → G.get? a = some o) (ad0 : List Addr) :
  ∀ vs : List SV, stI Sc.w G ad0 (impA ad vs) (impN ν vs) [] := by
 intro vs
 induction vs with
 | nil => exact .nil
 | cons sv r ih =>
  cases sv with
  | o k =>
   show stI _ _ _ (_ :: impA ad r) (impK ν k :: impN ν r) []
   unfold impK
   cases hk : ν[k]? with
   | none => exact .fro rfl rfl (fun q => (q rfl).elim) ih
   | some so =>
    refine .fro (impO_own so).1 (impO_own so).2 (fun q => ?_) ih
    have hj : so ≠ .junk := fun e => by rw [e] at q; exact q rfl
    refine el_EEAA (R.pl k so hk hj) fun a o e1 e2 e3 => ?_
    rw [e1]
    have get : so.own = true → G.get? a = some o := fun ho => by
     rw [if_pos ho] at e3
     refine hG a o (fun _ k' so' hk' ho' ha' => ?_) (N _ (List.mem_append_left _ e3)).1
     have : k' = k := by
      by_cases z : k' = k
      ·exact z
      ·exact (R.dis k' k so' so a z hk' hk ho' ho ha' e1).elim
     subst this
     obtain rfl := Option.some.inj (hk.symm.trans hk')
     exact q
    have get' : so.own = false → G.get? a = some o := fun ho => by
     rw [ho, if_neg Bool.false_ne_true] at e3
     exact hZ a o e3.2
    cases so with
    | «ints» ns => exact ⟨o, e2, get rfl⟩
    | ro ns => exact ⟨o, e2, get' rfl⟩
    | ti ns => exact ⟨o, e2, get' rfl⟩
    | ws n b nt cnt =>
     (refine el_EAA e2 fun objs => ?_; try clear e2; intro w1 w2 w3)
     exact ⟨o, ⟨objs, w1, w2, fun p hp => .inl (hZ _ _ (w3 p hp))⟩, get' rfl⟩
    | _ => exact absurd rfl q
  | _ => exact ih
theorem impV_RL {post : List Addr} : ∀ (vs : List SV) (pre : List Addr) {pos : List Value}, RL ad vs pos → RL (pre ++ (impA ad vs ++ post)) (impV pre.length vs) pos := by
 intro vs
 induction vs with
 | nil => intro pre pos h; exact h
 | cons sv r ih =>
  intro pre pos q19; (refine el_EERA q19 fun v s z09 => ?_; try clear q19; subst z09; intro h1 h2)
  cases sv with
  | o k =>
   (refine el_EAr h1 fun a z09 => ?_; try clear h1; subst z09; intro e1)
   refine ⟨_, s, rfl, ⟨a, ?_, rfl⟩, ?_⟩
   ·show (pre ++ ((match ad[k]? with | some a => a | none => 0) :: impA ad r ++ post))[pre.length]? = some a
    rw [e1, List.cons_append, List.getElem?_append_right (Nat.le_refl _), Nat.sub_self]; rfl
   ·have := ih (pre ++ [a]) h2
    rw [List.length_append, List.append_assoc] at this
    show RL (pre ++ ((match ad[k]? with | some a => a | none => 0) :: impA ad r ++ post)) (impV (pre.length + 1) r) s
    rw [e1]; exact this
  | _ => exact ⟨_, s, rfl, h1, ih pre h2⟩
theorem Rel.behind (R : Rel Sc ad μ ν m' nx fz) {fz' : List (Addr × Obj)} (z : ∀ p ∈ fz, p ∈ fz') (up : Addr × Obj → Obj) (hup : ∀ (k : Nat) (so : SO) (a : Addr) (o : Obj), ν[k]? = some so → so.own = true → ad[k]? = some a → (a, o) ∈ nx → Is Sc.w Sc.h₀ fz ad so a o → Is Sc.w Sc.h₀ fz' ad so a (up (a, o)))
  (hoff : ∀ p ∈ nx, ∀ q ∈ fz' ++ Sc.own, p.1 ≠ q.1) (hoz : ∀ p ∈ fz', ∀ q ∈ Sc.own, p.1 ≠ q.1) : Rel Sc ad μ ν m' (nx.map fun p => (p.1, up p)) fz' := by
 refine ⟨R.mlen, R.names, R.len, fun k so hk hj => ?_, ?_, fun p hp q hq => ?_, hoz, R.dis, fun p hp => z _ (R.pin p hp), R.cells⟩
 ·refine el_EEAA (R.pl k so hk hj) fun a o e1 e2 e3 => ?_
  by_cases q : so.own = true
  ·rw [if_pos q] at e3
   exact ⟨a, up (a, o), e1, hup k so a o hk q e1 e3 e2, by rw [if_pos q]; exact List.mem_map_of_mem (f := fun p => (p.1, up p)) e3⟩
  ·rw [if_neg q] at e3
   exact ⟨a, o, e1, e2.up Le.refl z, by rw [if_neg q]; exact ⟨fun h => z _ (e3.1 h), e3.2.up z⟩⟩
 ·rw [List.map_map]; exact R.nod
 ·(refine el_EAr (List.mem_map.mp hp) fun p' z09 => ?_; subst z09; intro hp')
  exact hoff p' hp' q hq
end
end Mine
end
section
namespace Mine
open PySem PySem.W PySem.Calls PySem.Spec PyProof.Rows
section
universe u₁ u₂ u₃
variable {α : Type} {β : Type} {γ : Type} {F : Fn} {μ : Mu} {ν : Nu}
noncomputable def J1 (f : α → Mu) (g : α → Nu) (P : Nat → α → Prop) (n : Nat) : KP := fun μ ν => ∃ a, μ = f a ∧ ν = g a ∧ P n a
noncomputable def J2 (f : α → β → Mu) (g : α → β → Nu) (P : Nat → α → β → Prop) (n : Nat) : KP := fun μ ν => ∃ a b, μ = f a b ∧ ν = g a b ∧ P n a b
noncomputable def J3 (f : α → β → γ → Mu) (g : α → β → γ → Nu) (P : Nat → α → β → γ → Prop) (n : Nat) : KP := fun μ ν => ∃ a b c, μ = f a b c ∧ ν = g a b c ∧ P n a b c
theorem in1 {f : α → Mu} {g : α → Nu} {P : Nat → α → Prop} {n : Nat} (bs cs : List Bool) (a : α) (h : okW F bs (maskM bs μ) (maskN cs ν) = true) (e1 : maskM bs μ = f a) (e2 : maskN cs ν = g a) (p : P n a) : InJ F (J1 f g P n) μ ν := ⟨none, bs, cs, h, a, e1, e2, p⟩
theorem in2 {f : α → β → Mu} {g : α → β → Nu} {P : Nat → α → β → Prop} {n : Nat} (bs cs : List Bool) (a : α) (b : β) (h : okW F bs (maskM bs μ) (maskN cs ν) = true) (e1 : maskM bs μ = f a b) (e2 : maskN cs ν = g a b) (p : P n a b) : InJ F (J2 f g P n) μ ν := ⟨none, bs, cs, h, a, b, e1, e2, p⟩
theorem in3 {f : α → β → γ → Mu} {g : α → β → γ → Nu} {P : Nat → α → β → γ → Prop} {n : Nat} (bs cs : List Bool) (a : α) (b : β) (c : γ) (h : okW F bs (maskM bs μ) (maskN cs ν) = true) (e1 : maskM bs μ = f a b c) (e2 : maskN cs ν = g a b c) (p : P n a b c) : InJ F (J3 f g P n) μ ν := ⟨none, bs, cs, h, a, b, c, e1, e2, p⟩
theorem in1m {f : α → Mu} {g : α → Nu} {P : Nat → α → Prop} {n : Nat} (p q : Nat) (bs cs : List Bool) (a : α) (m : okMv F p q ν = true) (h : okW F bs (maskM bs (μ.map (mvV p q))) (maskN cs (mvN p q ν)) = true) (e1 : maskM bs (μ.map (mvV p q)) = f a) (e2 : maskN cs (mvN p q ν) = g a) (x : P n a) : InJ F (J1 f g P n) μ ν := ⟨some (p, q), m, bs, cs, h, a, e1, e2, x⟩
variable {cnt : Nat} {val : Nat → SV} {sto : SV → KP → KP} {body : KF → KP} {KE KN : KP} {K : KF}
theorem for1 (f : α → Mu) (g : α → Nu) (P : Nat → α → Prop) (h0 : InJ F (J1 f g P 0) μ ν) (hs : ∀ n a, n < cnt → P n a → sto (val n) (body (loopK F (InJ F (J1 f g P (n + 1))) KN K)) (f a) (g a)) (he : ∀ a, P cnt a → KE (f a) (g a)) : forGK F (fun n Q => Q (val n)) sto cnt body KE KN K μ ν :=
 ⟨J1 f g P, h0, fun n _ _ hn j => by (refine el_ERR j fun a z09 z19 => ?_; try clear j; subst z09; subst z19; intro p); exact hs n a hn p, fun _ _ j => by (refine el_ERR j fun a z09 z19 => ?_; try clear j; subst z09; subst z19; intro p); exact he a p⟩
theorem for2 (f : α → β → Mu) (g : α → β → Nu) (P : Nat → α → β → Prop) (h0 : InJ F (J2 f g P 0) μ ν) (hs : ∀ n a b, n < cnt → P n a b → sto (val n) (body (loopK F (InJ F (J2 f g P (n + 1))) KN K)) (f a b) (g a b)) (he : ∀ a b, P cnt a b → KE (f a b) (g a b)) : forGK F (fun n Q => Q (val n)) sto cnt body KE KN K μ ν :=
 ⟨J2 f g P, h0, fun n _ _ hn j => by (refine el_EERR j fun a b z09 z19 => ?_; try clear j; subst z09; subst z19; intro p); exact hs n a b hn p, fun _ _ j => by (refine el_EERR j fun a b z09 z19 => ?_; try clear j; subst z09; subst z19; intro p); exact he a b p⟩
variable {test : KV → KP}
theorem whl1 (f : α → Mu) (g : α → Nu) (P : Nat → α → Prop) (n₀ : Nat) (h0 : InJ F (J1 f g P n₀) μ ν) (hs : ∀ n a, P n a → test (fun v => ifB v (body (loopK F (In F (J1 f g P) n) KN K)) KN) (f a) (g a)) : whlK F test body KN K μ ν :=
 ⟨J1 f g P, n₀, h0, fun n _ _ j => by (refine el_ERR j fun a z09 z19 => ?_; try clear j; subst z09; subst z19; intro p); exact hs n a p⟩
theorem whl2 (f : α → β → Mu) (g : α → β → Nu) (P : Nat → α → β → Prop) (n₀ : Nat) (h0 : InJ F (J2 f g P n₀) μ ν) (hs : ∀ n a b, P n a b → test (fun v => ifB v (body (loopK F (In F (J2 f g P) n) KN K)) KN) (f a b) (g a b)) : whlK F test body KN K μ ν :=
 ⟨J2 f g P, n₀, h0, fun n _ _ j => by (refine el_EERR j fun a b z09 z19 => ?_; try clear j; subst z09; subst z19; intro p); exact hs n a b p⟩
theorem whl3 (f : α → β → γ → Mu) (g : α → β → γ → Nu) (P : Nat → α → β → γ → Prop) (n₀ : Nat) (h0 : InJ F (J3 f g P n₀) μ ν) (hs : ∀ n a b c, P n a b c → test (fun v => ifB v (body (loopK F (In F (J3 f g P) n) KN K)) KN) (f a b c) (g a b c)) : whlK F test body KN K μ ν :=
 ⟨J3 f g P, n₀, h0, fun n _ _ j => by (refine el_EEERR j fun a b c z09 z19 => ?_; try clear j; subst z09; subst z19; intro p); exact hs n a b c p⟩
theorem turn1 {f : α → Mu} {g : α → Nu} {P : Nat → α → Prop} {n : Nat} (n' : Nat) (bs cs : List Bool) (a : α) (l : n' < n) (h : okW F bs (maskM bs μ) (maskN cs ν) = true) (e1 : maskM bs μ = f a) (e2 : maskN cs ν = g a) (p : P n' a) : In F (J1 f g P) n μ ν := ⟨n', l, none, bs, cs, h, a, e1, e2, p⟩
theorem turn2 {f : α → β → Mu} {g : α → β → Nu} {P : Nat → α → β → Prop} {n : Nat} (n' : Nat) (bs cs : List Bool) (a : α) (b : β) (l : n' < n) (h : okW F bs (maskM bs μ) (maskN cs ν) = true) (e1 : maskM bs μ = f a b) (e2 : maskN cs ν = g a b) (p : P n' a b) : In F (J2 f g P) n μ ν := ⟨n', l, none, bs, cs, h, a, b, e1, e2, p⟩
theorem turn3 {f : α → β → γ → Mu} {g : α → β → γ → Nu} {P : Nat → α → β → γ → Prop} {n : Nat} (n' : Nat) (bs cs : List Bool) (a : α) (b : β) (c : γ) (l : n' < n) (h : okW F bs (maskM bs μ) (maskN cs ν) = true) (e1 : maskM bs μ = f a b c) (e2 : maskN cs ν = g a b c) (p : P n' a b c) : In F (J3 f g P) n μ ν := ⟨n', l, none, bs, cs, h, a, b, c, e1, e2, p⟩
end
end Mine
end
section
namespace Mine
open PySem PySem.W PySem.Calls PySem.Spec PyProof.Rows
structure TabI where
 P : Addr
 l : Int
 c : Int
 q : Str
noncomputable def hasT (ν : Nu) (t : TabI) : Prop := ∃ (k : Nat) (cs : List (Addr × Obj)), ν[k]? = some (SO.tab t.P t.l t.c t.q cs)
noncomputable def TbOf : List TabI → Nu → Prop
 | [], tb => tb = []
 | t :: r, tb => ∃ cs tb', tb = SO.tab t.P t.l t.c t.q cs :: tb' ∧ TbOf r tb'
noncomputable def Kept (ν' : Nu) : Nu → Prop
 | [] => True
 | so :: r => (∃ k : Nat, ν'[k]? = some so) ∧ Kept ν' r
noncomputable def numC (n : Nat) : List Str → List (Nat × Str)
 | [] => []
 | x :: r => (n, x) :: numC (n + 1) r
noncomputable def TbS (h₀ : Heap) (fz : List (Addr × Obj)) (ad : List Addr) (ν : Nu) : List TabI → Nu → Prop
 | [], tb => tb = []
 | t :: r, tb => ∃ cs tb', tb = SO.tab t.P t.l t.c t.q cs :: tb' ∧ (∀ (k : Nat) (so : SO), ν[k]? = some so → so.own = true → ad[k]? = some t.P → ∃ cs0, so = SO.tab t.P t.l t.c t.q cs0 ∧ ∀ p ∈ cs, Zf h₀ fz p.1 p.2 ∧ (p ∈ cs0 ∨ p ∈ fz)) ∧ TbS h₀ fz ad ν r tb'
section
variable {Sc S : Sit} {s : Shared} {h' G : Heap} {ad ad' : List Addr} {μ μ' : Mu} {ν ν' : Nu} {m m' m'' : Str → Option Value} {nx fz nx' fz' : List (Addr × Obj)} {ts : List TabI}
theorem TbS.of : ∀ {ts : List TabI} {tb : Nu}, TbS Sc.h₀ fz ad ν ts tb → TbOf ts tb := by
 intro ts
 induction ts with
 | nil => intro tb h; exact h
 | cons t r ih => intro tb q19; (refine el_EEAA q19 fun cs tb' => ?_; try clear q19; intro e _ h); exact ⟨cs, tb', e, ih h⟩
theorem tab_at (R : Rel Sc ad μ ν m nx fz) {t : TabI} (ht : hasT ν t) : ∃ o cs, (t.P, o) ∈ nx ∧ (∀ (k : Nat) (so : SO), ν[k]? = some so → so.own = true → ad[k]? = some t.P → so = SO.tab t.P t.l t.c t.q cs) ∧ ((o = tabObj #[]) ∨ TabC t.l t.c t.q (fun a o => Zf Sc.h₀ fz a o ∧ ((a, o) ∈ cs ∨ (a, o) ∈ fz)) o) := by
 (refine el_EE ht fun k cs => ?_; try clear ht; intro hk)
 refine el_EEAA (R.own hk rfl) fun a o e1 e2 e3 => ?_
 obtain ⟨rfl, e2⟩ := e2
 refine ⟨o, cs, e3, fun k' so hk' ho ha => ?_, e2⟩
 by_cases q : k' = k
 ·subst q; obtain rfl := Option.some.inj (hk.symm.trans hk'); rfl
 ·exact (R.dis k' k _ _ _ q hk' hk ho rfl ha e1).elim
theorem tabs (R : Rel Sc ad μ ν m nx fz) (hZ : ∀ a o, Zf Sc.h₀ fz a o → G.get? a = some o) (ad0 : List Addr) : ∀ {ts : List TabI}, (∀ t ∈ ts, hasT ν t) →
  ∃ tb nxt, TbS Sc.h₀ fz ad ν ts tb ∧ stI Sc.w G ad0 (ts.map (·.P)) tb nxt ∧ nxt.map (·.1) = ts.map (·.P) ∧ ∀ q ∈ nxt, q ∈ nx := by
 intro ts
 induction ts with
 | nil => intro _; exact ⟨[], [], rfl, .nil, rfl, fun _ h => nomatch h⟩
 | cons t r ih =>
  intro h
  refine el_EEAAA (ih fun t ht => h t (List.mem_cons_of_mem _ ht)) fun tb nxt i1 i2 i3 i4 => ?_
  refine el_EEAA (tab_at R (h t List.mem_cons_self)) fun o cs0 e1 e2 e3 => ?_
  have key : ∃ cs, (∀ p ∈ cs, Zf Sc.h₀ fz p.1 p.2 ∧ (p ∈ cs0 ∨ p ∈ fz)) ∧ Is Sc.w G [] ad0 (SO.tab t.P t.l t.c t.q cs) t.P o := by
   rcases e3 with rfl | ⟨c', oc, vs, t', rfl, q1, q2, q3⟩
   ·exact ⟨[], (fun _ h => nomatch h), rfl, .inl rfl⟩
   ·exact ⟨[(c', oc)], (fun p hp => by rw [List.mem_singleton.mp hp]; exact q1), rfl, .inr ⟨c', oc, vs, t', rfl, ⟨.inl (hZ _ _ q1.1), .inl List.mem_cons_self⟩, q2, q3⟩⟩
  (refine el_EA key fun cs => ?_; try clear key; intro k1 k2)
  refine ⟨SO.tab t.P t.l t.c t.q cs :: tb, (t.P, o) :: nxt, ⟨cs, tb, rfl, fun k so hk ho ha => ⟨cs0, e2 k so hk ho ha, k1⟩, i1⟩, .own rfl k2 i2, by rw [List.map_cons, List.map_cons, i3], fun q hq => ?_⟩
  rcases List.mem_cons.mp hq with rfl | hq
  ·exact e1
  ·exact i4 q hq
theorem kept_at (R' : Rel S ad' μ' ν' m'' nx' fz') : ∀ {ts : List TabI} {tb : Nu}, TbS Sc.h₀ fz ad ν ts tb → Kept ν' tb → ∀ t ∈ ts, ∃ o' cs, (t.P, o') ∈ nx' ∧ (∃ (k : Nat), ν'[k]? = some (SO.tab t.P t.l t.c t.q cs) ∧ ad'[k]? = some t.P) ∧ ((o' = tabObj #[]) ∨ TabC t.l t.c t.q (fun a o => Zf S.h₀ fz' a o ∧ ((a, o) ∈ cs ∨ (a, o) ∈ fz')) o') ∧
  ∀ (k : Nat) (so : SO), ν[k]? = some so → so.own = true → ad[k]? = some t.P → ∃ cs0, so = SO.tab t.P t.l t.c t.q cs0 ∧ ∀ p ∈ cs, Zf Sc.h₀ fz p.1 p.2 ∧ (p ∈ cs0 ∨ p ∈ fz) := by
 intro ts
 induction ts with
 | nil => intro tb _ _ t h; cases h
 | cons t r ih =>
  intro tb q19; (refine el_EERA q19 fun cs tb' z09 => ?_; try clear q19; subst z09; intro h1 h2); intro q29; (refine el_AbEe q29 fun k => ?_; try clear q29; intro hk k2); intro t' ht
  rcases List.mem_cons.mp ht with rfl | ht
  ·refine el_EEAA (R'.own hk rfl) fun a o e1 e2 e3 => ?_
   obtain ⟨rfl, e2⟩ := e2
   exact ⟨o, cs, e3, ⟨k, hk, e1⟩, e2, h1⟩
  ·exact ih h2 k2 t' ht
theorem deliver (F : Fr Sc.h₀ Sc.L s.heap Sc.fm) (N : News Sc.h₀ Sc.L s.heap (ledg Sc nx fz)) (l : Loc Sc m') (R : Rel Sc ad μ ν m' nx fz) (htb : ∀ t ∈ ts, hasT ν t) (hGb : ∀ b o, s.heap.get? b = some o → b ∉ ts.map (·.P) → G.get? b = some o) (e0 : S.h₀ = G)
  {tb : Nu} (tbs : TbS Sc.h₀ fz ad ν ts tb) (H : Hd S h' ad' μ' ν') (kp : Kept ν' tb) {sv : SV} {v : Value} (r : Rp ad' sv v) {K : KV} {tk : Nat} (k : Dv sv ν' ν fun v ν => K v μ ν) : PX Sc s ad K v { s with heap := h', toks := tk } := by
 subst e0
 obtain ⟨m'', nx', fz', F', N', l', R'⟩ := H
 have KT := kept_at R' tbs kp
 have tnx : ∀ {a : Addr}, a ∈ ts.map (·.P) → ∃ o, (a, o) ∈ nx := fun {a} ha => by
  (refine el_EAr (List.mem_map.mp ha) fun t z09 => ?_; subst z09; intro ht)
  refine el_EEA (tab_at R (htb t ht)) fun o _ e _ => ?_
  exact ⟨o, e⟩
 have tnx' : ∀ {a : Addr}, a ∈ ts.map (·.P) → ∃ o, (a, o) ∈ nx' := fun {a} ha => by
  (refine el_EAr (List.mem_map.mp ha) fun t z09 => ?_; subst z09; intro ht)
  refine el_EEA (KT t ht) fun o _ e _ => ?_
  exact ⟨o, e⟩
 have stay : ∀ {b o}, s.heap.get? b = some o → b ∉ ts.map (·.P) → h'.get? b = some o := fun e q => F'.keep _ _ (hGb _ _ e q)
 have hrest : ∀ p ∈ fz ++ Sc.own, p.1 ∉ ts.map (·.P) := fun p hp q => by
  obtain ⟨o, ho⟩ := tnx q
  exact R.off _ ho p hp rfl
 let ext : List (Addr × Obj) := (ledg S nx' fz').filter fun q => decide (q.1 ∉ ts.map (·.P))
 have hext : ∀ q ∈ ext, h'.get? q.1 = some q.2 ∧ s.heap.get? q.1 = none := fun q hq => by
  obtain ⟨h1, h2⟩ := List.mem_filter.mp hq
  have h2 := of_decide_eq_true h2
  have n := N' q h1
  refine ⟨n.1, ?_⟩
  cases e : s.heap.get? q.1 with
  | none => rfl
  | some o => have := hGb _ _ e h2; rw [n.2.2] at this; cases this
 have inext : ∀ q ∈ ledg S nx' fz', q.1 ∉ ts.map (·.P) → q ∈ ext := fun q hq h => List.mem_filter.mpr ⟨hq, decide_eq_true h⟩
 have infz : ∀ q ∈ fz', q ∈ ext := fun q hq => inext q (List.mem_append_right _ (List.mem_append_left _ hq)) fun h => by
  obtain ⟨o, ho⟩ := tnx' h
  exact R'.off _ ho q (List.mem_append_left _ hq) rfl
 have xoff : ∀ q ∈ ext, ∀ p ∈ ledg Sc nx fz, p.1 ≠ q.1 := fun q hq p hp e => by
  have := (hext q hq).2
  rw [← e, (N p hp).1] at this; cases this
 let up : Addr × Obj → Obj := fun p => match h'.get? p.1 with | some o => o | none => p.2
 have upe : ∀ {p : Addr × Obj} {o : Obj}, h'.get? p.1 = some o → up p = o := fun {p o} e => by show (match h'.get? p.1 with | some o => o | none => p.2) = o; rw [e]
 have hoff : ∀ p ∈ nx, ∀ q ∈ (ext ++ fz) ++ Sc.own, p.1 ≠ q.1 := fun p hp q hq => by
  rw [List.append_assoc] at hq
  rcases List.mem_append.mp hq with hq | hq
  ·exact xoff q hq p (List.mem_append_left _ hp)
  ·exact R.off p hp q hq
 have hoz : ∀ p ∈ ext ++ fz, ∀ q ∈ Sc.own, p.1 ≠ q.1 := fun p hp q hq => by
  rcases List.mem_append.mp hp with hp | hp
  ·exact Ne.symm (xoff p hp q (List.mem_append_right _ (List.mem_append_right _ hq)))
  ·exact R.offz p hp q hq
 have R2 : Rel Sc ad μ ν m' (nx.map fun p => (p.1, up p)) (ext ++ fz) := R.behind (fun p hp => List.mem_append_right _ hp) up (fun k so a o hk ho ha hm hI => by
  by_cases q : a ∈ ts.map (·.P)
  ·(refine el_EAr (List.mem_map.mp q) fun t z09 => ?_; subst z09; intro ht)
   refine el_EEAAA (KT t ht) fun o' cs q1 _ q3 q4 => ?_
   rw [upe (p := (t.P, o)) (N' _ (List.mem_append_left _ q1)).1]
   (refine el_ER (q4 k so hk ho ha) fun cs0 z09 => ?_; subst z09; intro q5)
   refine ⟨rfl, q3.imp_right (ex4m fun c' oc vs t' z1 z2 => ?_)⟩
   rcases z2.2 with z2 | z2
   ·have := q5 _ z2
    exact ⟨this.1.up fun p hp => List.mem_append_right _ hp, this.2.imp_right fun hp => List.mem_append_right _ hp⟩
   ·exact ⟨.inr (List.mem_append_left _ (infz _ z2)), .inr (List.mem_append_left _ (infz _ z2))⟩
  ·rw [upe (p := (a, o)) (stay (N _ (List.mem_append_left _ hm)).1 q)]
   exact hI.up Le.refl fun p hp => List.mem_append_right _ hp) hoff hoz
 refine el_EEEA (F.ns) fun oL es ep hL hr' => ?_
 have LnT : Sc.L ∉ ts.map (·.P) := fun q => by
  obtain ⟨o, ho⟩ := tnx q
  exact (N _ (List.mem_append_left _ ho)).2.1 rfl
 have F2 : Fr Sc.h₀ Sc.L h' Sc.fm := ⟨⟨oL, es, ep, stay hL LnT, hr'⟩, fun b ob e => stay (F.keep _ _ e) (fun q => by
  obtain ⟨o, ho⟩ := tnx q
  have := (N _ (List.mem_append_left _ ho)).2.2
  rw [e] at this; cases this), F.above⟩
 have N2 : News Sc.h₀ Sc.L h' (ledg Sc (nx.map fun p => (p.1, up p)) (ext ++ fz)) := fun p hp => by
  rcases List.mem_append.mp hp with hp | hp
  ·(refine el_EAr (List.mem_map.mp hp) fun p0 z09 => ?_; subst z09; intro hp0)
   have n := N p0 (List.mem_append_left _ hp0)
   refine ⟨?_, n.2⟩
   by_cases q : p0.1 ∈ ts.map (·.P)
   ·obtain ⟨o, ho⟩ := tnx' q
    have := (N' _ (List.mem_append_left _ ho)).1
    exact this.trans (congrArg some (upe (p := p0) this).symm)
   ·have := stay n.1 q
    exact this.trans (congrArg some (upe (p := p0) this).symm)
  ·rw [List.append_assoc] at hp
   rcases List.mem_append.mp hp with hp | hp
   ·have e := hext p hp
    refine ⟨e.1, fun q => ?_, ?_⟩
    ·rw [q, hL] at e; cases e.2
    ·cases q : Sc.h₀.get? p.1 with
     | none => rfl
     | some o => rw [F.keep _ _ q] at e; cases e.2
   ·have n := N p (List.mem_append_right _ hp)
    exact ⟨stay n.1 (hrest p hp), n.2⟩
 have hl : ad.length = ν.length := R.len
 have H2 : Hd Sc h' ad μ ν := ⟨m', _, _, F2, N2, l, R2⟩
 have give : ∀ (so : SO) (x : Addr) (o : Obj), so.own = false → (x, o) ∈ ext → Is Sc.w Sc.h₀ (ext ++ fz) (ad ++ [x]) so x o → Hd Sc h' (ad ++ [x]) μ (ν ++ [so]) := fun so x o ho hm hI =>
  ⟨m', _, _, F2, N2, l, R2.add (fun _ h => h) (fun _ => hI) (by rw [if_neg (by rw [ho]; exact Bool.false_ne_true)]; exact ⟨rfl, .inr ⟨fun _ => List.mem_append_left _ hm, .inr (List.mem_append_left _ hm)⟩⟩) R2.off R2.offz⟩
 cases sv with
 | i n => exact PX.here H2 (show Rp ad (.i n) v from r) k
 | s x => exact PX.here H2 (show Rp ad (.s x) v from r) k
 | b c => exact PX.here H2 (show Rp ad (.b c) v from r) k
 | o j =>
  change (match ν'[j]? with
  | some (.ints ns) => K (.o ν.length) μ (ν ++ [.ro ns])
  | some (.rows rs) => K (.o ν.length) μ (ν ++ [.rrows rs])
  | some (.tup svs) => intsV svs = true ∧ K (.o ν.length) μ (ν ++ [.tup svs])
  | _ => False) at k
  (refine el_EAr r fun x z09 => ?_; try clear r; subst z09; intro e1)
  have ownx : ∀ {so : SO} {D : Addr} {o : Obj}, ν'[j]? = some so → so.own = true → ad'[j]? = some D → (D, o) ∈ nx' → (∀ P l c q cs, so ≠ SO.tab P l c q cs) → (D, o) ∈ ext := fun {so D o} hj ho hD hm hn => inext _ (List.mem_append_left _ hm) fun q => by
   (refine el_EAr (List.mem_map.mp q) fun t z09 => ?_; subst z09; intro ht)
   refine el_EEAAbEAe (KT t ht) fun _ cs k' _ q1 q2 _ => ?_
   by_cases z : j = k'
   ·subst z; obtain rfl := Option.some.inj (hj.symm.trans q1); exact hn _ _ _ _ _ rfl
   ·exact R'.dis j k' _ _ _ z hj q1 ho rfl hD q2
  cases hj : ν'[j]? with
  | none => rw [hj] at k; exact k.elim
  | some so =>
   rw [hj] at k
   cases so with
   | «ints» ns =>
    (refine el_EEAAbEERe (R'.own hj rfl) fun D o vs n z09 => ?_; subst z09; intro e2 hi e3)
    obtain rfl := Option.some.inj (e1.symm.trans e2)
    exact PX.new hl (give (.ro ns) x _ rfl (ownx hj rfl e1 e3 fun _ _ _ _ _ q => by cases q) ⟨vs, n, rfl, hi⟩) k
   | rows rs =>
    (refine el_EEAAbEERe (R'.own hj rfl) fun D o vs n z09 => ?_; subst z09; intro e2 hi e3)
    obtain rfl := Option.some.inj (e1.symm.trans e2)
    exact PX.new hl (give (.rrows rs) x _ rfl (ownx hj rfl e1 e3 fun _ _ _ _ _ q => by cases q) ⟨vs, n, rfl, hi.up fun a o z => List.mem_append_left _ (infz _ z)⟩) k
   | tup svs =>
    (refine el_EEAAbERe (R'.fsh hj rfl) fun D o vs z09 => ?_; subst z09; intro e2 hi e3)
    obtain rfl := Option.some.inj (e1.symm.trans e2)
    exact PX.new hl (give (.tup svs) x _ rfl (infz _ e3) ⟨vs, rfl, intsV_RL k.1 hi⟩) k.2
   | _ => exact k.elim
 | _ => exact k.elim
end
end Mine
end
section
namespace Mine
open PySem PySem.W PySem.Calls PySem.Spec PyProof.Rows
theorem cf_ok : ∀ (names : List (Str × NameKind)) (n : Nat) (acc : List (Str × Addr)), (acc.map (·.2)).Nodup → (∀ p ∈ acc, p.2 < n) → ∀ m, (∀ p ∈ acc, m ≤ p.2) → m ≤ n → ((cellsFrom n names acc).map (·.2)).Nodup ∧ ∀ p ∈ cellsFrom n names acc, m ≤ p.2 := by
 intro names
 induction names with
 | nil => intro n acc h1 _ m h2 _; exact ⟨h1, h2⟩
 | cons a r ih =>
  intro n acc h1 h2 m h3 hm
  unfold cellsFrom
  split
  ·refine ih (n + 1) _ ?_ (fun p hp => ?_) m (fun p hp => ?_) (Nat.le_succ_of_le hm)
   ·rw [List.map_cons, List.nodup_cons]
    exact ⟨fun q => by refine el_EA (List.mem_map.mp q) fun p hp e => ?_; exact Nat.lt_irrefl _ (e ▸ h2 p hp), h1⟩
   ·exact (List.mem_cons.mp hp).elim (fun e => by rw [e]; exact Nat.lt_succ_self n) fun hp => Nat.lt_succ_of_lt (h2 p hp)
   ·exact (List.mem_cons.mp hp).elim (fun e => by rw [e]; exact hm) fun hp => h3 p hp
  ·exact ih n acc h1 h2 m h3 hm
theorem cells_addrs {cm : Str → Option Value} {cs : List (Str × Addr)} {cells : List (Addr × Obj)} (Y : CellsAre cm cs cells) : cells.map (·.1) = cs.map (·.2) := by
 induction Y with
 | nil => rfl
 | cons _ _ ih => rw [List.map_cons, List.map_cons, ih]
theorem cells_stI {w : World} {G : Heap} {ad0 : List Addr} {cm : Str → Option Value} {cs : List (Str × Addr)} {cells : List (Addr × Obj)} (Y : CellsAre cm cs cells) : ∀ {cv : List SV}, stM ad0 cm cv (cs.map (·.1)) → stI w G ad0 (cs.map (·.2)) (cv.map SO.cell) cells := by
 induction Y with
 | nil => intro cv h; cases cv <;> first | exact .nil | exact h.elim
 | cons h1 _ ih =>
  intro cv h
  cases cv with
  | nil => exact h.elim
  | cons sv r =>
   refine .own rfl ?_ (ih h.2)
   cases sv with
   | u => exact ⟨_, h1⟩
   | _ => refine el_EA (h.1.resolve_left (fun e => by cases e)) fun v e1 e2 => ?_; exact ⟨v, h1.trans (congrArg _ e1), e2⟩
theorem cells_cs : ∀ (cs : List (Str × Addr)) (pre : List Addr), (cs.map (·.1)).Nodup → ∀ p ∈ numC pre.length (cs.map (·.1)), p.2 ∈ cs.map (·.1) ∧ ∃ c, cs.lookup p.2 = some c ∧ (pre ++ cs.map (·.2))[p.1]? = some c := by
 intro cs
 induction cs with
 | nil => intro pre _ p hp; cases hp
 | cons a r ih =>
  intro pre hn p hp
  rw [List.map_cons, List.nodup_cons] at hn
  rcases List.mem_cons.mp hp with rfl | hp
  ·exact ⟨List.mem_cons_self, a.2, by rw [List.lookup_cons]; simp, by rw [List.map_cons, List.getElem?_append_right (Nat.le_refl _), Nat.sub_self]; rfl⟩
  ·have := ih (pre ++ [a.2]) hn.2 p (by rw [List.length_append]; exact hp)
   rw [List.append_assoc] at this
   (refine el_AEA this fun c => ?_; try clear this; intro h1 h2 h3)
   refine ⟨List.mem_cons_of_mem _ h1, c, ?_, h3⟩
   have : (p.2 == a.1) = false := by rw [beq_eq_false_iff_ne]; exact fun e => hn.1 (e ▸ h1)
   rw [List.lookup_cons, this]; exact h2
section
variable {Sc : Sit} {D U : Nat} {fr : Option (List Env)} {gd : Option (List Code)} {s : Shared} {name qual : Str} {params : Arguments} {scope : Scope} {dV kV doc pm cdv ct oc : Value} {an od : Option Addr} {osl : Array (Option Value)} {f : Addr} {pos : List Value} {binds : List (Str × Value)}
 {d : Df} {b : B} {ad : List Addr} {μ μ0 : Mu} {ν : Nu} {K : KV}
theorem callB {body : List Stmt} (X : Rdy Sc.w Sc.h₀) (Hc : Hd Sc s.heap ad μ ν) {vs : List SV} (hv : RL ad vs pos)
  (ho : (H39 Sc.w).lookup f = some ⟨oc, od, .func (fnOf name qual params body scope dV kV doc pm an cdv ct), osl⟩) (hcd : codeIn (H39 Sc.w) cdv qual = true) (hroom : D < recursionLimit) (hu : U + 3 + 66 < cLine)
  (hbind : BindsTo s (fnOf name qual params body scope dV kV doc pm an cdv ct) ⟨pos, []⟩ binds)
  (hkind : (binds.all fun y => scope.names.lookup y.1 == some .local || scope.names.lookup y.1 == some .cell) = true)
  (hnd : ((cellsFrom 0 scope.names []).map (·.1)).Nodup) (hco : scope.isCoroutine = false) (hgen : scope.isGenerator = false) (hk : scope.kind = .function)
  (hN : NmB scope d.F = true) (hg : GtOk d.F) (hns : d.F.ns.Nodup) (ts : List TabI) (hts : (ts.map (·.P)).Nodup) (htb : ∀ t ∈ ts, hasT ν t)
  (hcs : d.F.cs = numC ((impA ad vs).length + ts.length) ((cellsFrom 0 scope.names []).map (·.1)))
  (hgood : ∀ S : Sit, S.w = Sc.w → S.d = d → (∃ L, S.A = (AR D U fr gd).deeper (envOfC qual scope L f cdv)) → Rdy S.w S.h₀ → CsOk S) (hcomp : ∀ S : Sit, S.d = d → (∃ L, S.env = envOfC qual scope L f cdv) → ∀ cd ∈ d.D, CompOk S cd)
  (cv : List SV) (h1 : ∀ L ad0, RL ad0 (impV 0 vs) pos → stM ad0 (bindL (envOfC qual scope L f cdv).kindOf binds fun _ => none) μ0 d.F.ns ∧ stM ad0 (bindC (envOfC qual scope L f cdv).kindOf binds fun _ => none) cv ((cellsFrom 0 scope.names []).map (·.1)))
  (hrun : ∀ G L fm s₁ ad0 tb, Ok (Sit.of Sc.w ((AR D U fr gd).deeper (envOfC qual scope L f cdv)) G L (envOfC qual scope L f cdv) d fm) → TbOf ts tb → Hd (Sit.of Sc.w ((AR D U fr gd).deeper (envOfC qual scope L f cdv)) G L (envOfC qual scope L f cdv) d fm) s₁.heap ad0 μ0 (impN ν vs ++ (tb ++ cv.map SO.cell)) →
   wpS (Sit.of Sc.w ((AR D U fr gd).deeper (envOfC qual scope L f cdv)) G L (envOfC qual scope L f cdv) d fm) (execs body (envOfC qual scope L f cdv)) (PS (Sit.of Sc.w ((AR D U fr gd).deeper (envOfC qual scope L f cdv)) G L (envOfC qual scope L f cdv) d fm) s₁ (retK fun sv ν' => Kept ν' tb ∧ Dv sv ν' ν fun v ν => K v μ ν)) s₁) :
  wpAny (model P0 Sc.w) (AR D U fr gd) (call (.ref f) pos []) (PX Sc s ad K) EF s := by
 obtain ⟨m', nx, fz, F, N, l, R⟩ := Hc
 have Xs : Rdy Sc.w s.heap := X.keeps F.keep
 refine el_AEEEEE (id X) fun p lo me mg mb X1 T => ?_
 have nT : ∀ {a o}, Zf Sc.h₀ fz a o → a ∉ ts.map (·.P) := fun {a o} z q => by
  (refine el_EAr (List.mem_map.mp q) fun t z09 => ?_; subst z09; intro ht)
  refine el_EEA (tab_at R (htb t ht)) fun o' _ e _ => ?_
  rcases z with z | z
  ·have := (N _ (List.mem_append_left _ e)).2.2
   rw [z] at this; cases this
  ·exact R.off _ e _ (List.mem_append_left _ z) rfl
 let G : Heap := hideAll s.heap (ts.map (·.P))
 have hGb : ∀ b o, s.heap.get? b = some o → b ∉ ts.map (·.P) → G.get? b = some o := fun b o e q => hideAll_get _ e q
 have hZ : ∀ a o, Zf Sc.h₀ fz a o → G.get? a = some o := fun a o z => hGb a o (z.get F N) (nT z)
 have st0 : Sc.h₀.StaysIn G := fun b o e => hZ b o (.inl e)
 refine wpAny_call (codeAny_call_function hroom (Xs.1 _ _ ho) rfl hco hgen rfl (codeRec_of Xs.1 hcd) (hbind _ _ _ _ ?_))
 refine wpAny_newFunctionEnv_cells hk (kindsX hkind _) fun env' he s' x => ?_
 subst he
 refine ⟨(T.nolimit.keeps F.keep).keeps x.toInCall.keep, codeAny_func ?_⟩
 (refine el_EER (x.done) fun h₁ tk z09 => ?_; subst z09; intro _)
 have hk₁ := x.toInCall.keep
 generalize hL' : s.heap.objs.size = L at *
 have hcf := cf_ok scope.names (L + 1) [] List.nodup_nil (fun _ h => nomatch h) (L + 1) (fun _ h => nomatch h) (Nat.le_refl _)
 have hcn : (cellsFrom (L + 1) scope.names []).map (·.1) = (cellsFrom 0 scope.names []).map (·.1) := cellsFrom_names scope.names _ _ [] [] rfl
 refine el_EA (Cl.news (h₀ := G) (L := L) (Nat.le_of_eq ((hideAll_size _ _).trans hL')) fun n c hm => ⟨x.cell n c (lookup_of_mem_nodup (hcn ▸ hnd) hm), x.above n c hm⟩) fun cells NC Y => ?_
 have Y : CellsAre (bindC (envOfC qual scope L f cdv).kindOf binds fun _ => none) (cellsFrom (L + 1) scope.names []) cells := Y
 have F' : Fr G L h₁ (bindL (envOfC qual scope L f cdv).kindOf binds fun _ => none) := ⟨x.toInCall.ns, fun b o e => hk₁ b o (of_hideAll _ e), Nat.le_of_eq ((hideAll_size _ _).trans hL')⟩
 have XG : Rdy Sc.w G := X.keeps st0
 have ea : cells.map (·.1) = (cellsFrom (L + 1) scope.names []).map (·.2) := cells_addrs Y
 let ad0 : List Addr := impA ad vs ++ (ts.map (·.P) ++ cells.map (·.1))
 refine el_EEAAA (tabs (ts := ts) R hZ ad0 htb) fun tb nxt t1 t2 t3 t4 => ?_
 have hm := h1 L ad0 (impV_RL (post := ts.map (·.P) ++ cells.map (·.1)) vs [] hv)
 have I : stI Sc.w G ad0 ad0 (impN ν vs ++ (tb ++ cv.map SO.cell)) (nxt ++ cells) := by
  have i1 := cells_stI (w := Sc.w) (G := G) Y (hcn.symm ▸ hm.2)
  rw [← ea] at i1
  refine stI_app (nx := []) (stI_app i1 t2) (imp R F N (fun a o hni e => hGb a o e fun q => ?_) hZ ad0 vs)
  (refine el_EAr (List.mem_map.mp q) fun t z09 => ?_; subst z09; intro ht)
  refine el_EE (htb t ht) fun k cs hkt => ?_
  refine el_EEAA (R.own hkt rfl) fun a o' e1 e2 e3 => ?_
  obtain ⟨rfl, _⟩ := e2
  have := (N _ (List.mem_append_left _ e3)).1
  obtain rfl := Option.some.inj (e.symm.trans this)
  exact hni (List.mem_append_left _ e3) k _ hkt rfl e1 rfl
 have hlt : ∀ q ∈ nxt, q.1 < L := fun q hq => hL' ▸ Heap.lt_size (N _ (List.mem_append_left _ (t4 q hq))).1
 have hgt : ∀ q ∈ cells, L < q.1 := fun q hq => by
  have : q.1 ∈ (cellsFrom (L + 1) scope.names []).map (·.2) := ea ▸ List.mem_map_of_mem (f := (·.1)) hq
  refine el_EA (List.mem_map.mp this) fun p hp e => ?_
  exact e ▸ hcf.2 p hp
 have N' : News G L h₁ (nxt ++ cells) := fun q hq => by
  rcases List.mem_append.mp hq with hq | hq
  ·refine ⟨hk₁ _ _ (N _ (List.mem_append_left _ (t4 q hq))).1, Nat.ne_of_lt (hlt q hq), hideAll_none _ (t3 ▸ List.mem_map_of_mem hq)⟩
  ·exact NC q hq
 have hn : ((nxt ++ cells).map (·.1)).Nodup := by
  rw [List.map_append, List.nodup_append]
  refine ⟨t3 ▸ hts, ea ▸ hcf.1, fun a h1 b h2 => ?_⟩
  (refine el_EAr (List.mem_map.mp h1) fun p z09 => ?_; subst z09; intro hp)
  (refine el_EAr (List.mem_map.mp h2) fun q z09 => ?_; subst z09; intro hq)
  exact Nat.ne_of_lt (Nat.lt_trans (hlt p hp) (hgt q hq))
 let S : Sit := Sit.of Sc.w ((AR D U fr gd).deeper (envOfC qual scope L f cdv)) G L (envOfC qual scope L f cdv) d (bindL (envOfC qual scope L f cdv).kindOf binds fun _ => none)
 have O : Ok S := ⟨NmOk.of hN hg rfl rfl, hns, rfl, hu, XG, fun fm pin own => hgood _ rfl rfl ⟨L, rfl⟩ XG, hcomp S rfl ⟨L, rfl⟩⟩
 have H : Hd S h₁ ad0 μ0 (impN ν vs ++ (tb ++ cv.map SO.cell)) := ⟨_, nxt ++ cells, [], F', fun q hq => N' q (by simpa [ledg, S] using hq), .inl ⟨rfl, rfl⟩, Rel.begin (S := S) hm.1 I hn rfl rfl fun p hp => by
  have := (cells_cs (cellsFrom (L + 1) scope.names []) (impA ad vs ++ ts.map (·.P)) (hcn ▸ hnd) p (by rw [hcn, List.length_append, List.length_map]; exact hcs ▸ hp)).2
  rw [List.append_assoc, ← ea] at this; exact this⟩
 refine wpAny_mono (hrun G L _ ({ s with heap := h₁, toks := tk } : Shared) _ tb O (TbS.of t1) H) ?_ fun _ _ x => x.elim
 intro fl _ q19; (refine el_EEEEEAbEEreAA q19 fun fm ad' sf μ' ν' h2 tk2 z09 => ?_; try clear q19; subst z09; intro H2 r2 k2)
 cases sf with
 | ret sv =>
  (refine el_ER r2 fun v z09 => ?_; try clear r2; subst z09; intro r2)
  exact deliver (S := S.at fm) F N l R htb hGb rfl t1 H2 k2.1 r2 k2.2
 | _ => exact k2.elim
end
end Mine
end
section
namespace Mine
open PySem PySem.W PySem.Calls PySem.Spec PyProof.Rows
theorem ex1 {α : Type} {l : List α} (h : l.length = 1) : ∃ a, l = [a] := by
 cases l with
 | nil => cases h
 | cons a r => exact ⟨a, congrArg (a :: ·) (List.eq_nil_of_length_eq_zero (Nat.succ.inj h))⟩
theorem ex2 {α : Type} {l : List α} (h : l.length = 2) : ∃ a b, l = [a, b] := by
 cases l with
 | nil => cases h
 | cons a r => exact (ex1 (Nat.succ.inj h)).elim fun b e => ⟨a, b, congrArg (a :: ·) e⟩
theorem ex3 {α : Type} {l : List α} (h : l.length = 3) : ∃ a b c, l = [a, b, c] := by
 cases l with
 | nil => cases h
 | cons a r => exact el_EE (ex2 (Nat.succ.inj h)) fun b c e => ⟨a, b, c, congrArg (a :: ·) e⟩
noncomputable def slots (pick : Str → Bool) : List Str → List SV → (Str → SV) → Str → SV
 | p :: ps, sv :: svs, f => slots pick ps svs (fun y => match pick p with | true => (match decide (y = p) with | true => sv | false => f y) | false => f y)
 | _, _, f => f
theorem slots_L {kind : Str → Option NameKind} {ad0 : List Addr} : ∀ (par : List Str) (svs : List SV) (pos : List Value) (f : Str → SV) (m : Str → Option Value), (∀ x, f x = .u ∨ ∃ v, m x = some v ∧ Rp ad0 (f x) v) → RL ad0 svs pos → ∀ x, slots (fun p => decide (kind p = some .local)) par svs f x = .u ∨ ∃ v, bindL kind (par.zip pos) m x = some v ∧ Rp ad0 (slots (fun p => decide (kind p = some .local)) par svs f x) v := by
 intro par
 induction par with
 | nil => intro svs pos f m h _; exact h
 | cons p r ih =>
  intro svs pos f m h hr
  cases svs with
  | nil => cases (show pos = [] from hr); exact h
  | cons sv svs =>
   (refine el_EERA hr fun v s z09 => ?_; try clear hr; subst z09; intro h1 h2)
   refine ih svs s _ _ (fun x => ?_) h2
   by_cases q : kind p = some .local
   ·dsimp only
    rw [decide_eq_true q, if_pos q]
    dsimp only
    by_cases e : x = p
    ·rw [decide_eq_true e]; exact .inr ⟨v, if_pos e, h1⟩
    ·rw [decide_eq_false e, if_neg e]; exact h x
   ·dsimp only
    rw [decide_eq_false q, if_neg q]; exact h x
theorem slots_C {kind : Str → Option NameKind} {ad0 : List Addr} : ∀ (par : List Str) (svs : List SV) (pos : List Value) (f : Str → SV) (m : Str → Option Value), (∀ x, f x = .u ∨ ∃ v, m x = some v ∧ Rp ad0 (f x) v) → RL ad0 svs pos → ∀ x, slots (fun p => !decide (kind p = some .local)) par svs f x = .u ∨ ∃ v, bindC kind (par.zip pos) m x = some v ∧ Rp ad0 (slots (fun p => !decide (kind p = some .local)) par svs f x) v := by
 intro par
 induction par with
 | nil => intro svs pos f m h _; exact h
 | cons p r ih =>
  intro svs pos f m h hr
  cases svs with
  | nil => cases (show pos = [] from hr); exact h
  | cons sv svs =>
   (refine el_EERA hr fun v s z09 => ?_; try clear hr; subst z09; intro h1 h2)
   refine ih svs s _ _ (fun x => ?_) h2
   by_cases q : kind p = some .local
   ·dsimp only
    rw [decide_eq_true q, if_pos q]; exact h x
   ·dsimp only
    rw [decide_eq_false q, if_neg q]
    by_cases e : x = p
    ·rw [decide_eq_true e]; exact .inr ⟨v, if_pos e, h1⟩
    ·rw [decide_eq_false e, if_neg e]; exact h x
theorem stM_map {ad0 : List Addr} {m : Str → Option Value} {f : Str → SV} (h : ∀ x, f x = .u ∨ ∃ v, m x = some v ∧ Rp ad0 (f x) v) : ∀ ns : List Str, stM ad0 m (ns.map f) ns := by
 intro ns
 induction ns with
 | nil => trivial
 | cons x r ih => exact ⟨h x, ih⟩
theorem kinds_zip {P : Str → Bool} : ∀ (par : List Str) (pos : List Value), allB P par = true → ((par.zip pos).all fun y => P y.1) = true := by
 intro par pos h
 rw [List.all_eq_true]
 intro y hy
 exact allB_mem h _ (List.of_mem_zip hy).1
noncomputable abbrev Co := List SV → Nu → (SV → Nu → Prop) → Prop
noncomputable def lookC : List (Nat × Co) → Cs
 | [], _, _, _, _ => False
 | p :: r, q, vs, ν, K => match Nat.beq p.1 q with | true => p.2 vs ν K | false => lookC r q vs ν K
noncomputable def AllG (D U : Nat) : List (Nat × Co) → Prop
 | [] => True
 | p :: r => (∃ D1 U1, D + 1 ≤ D1 ∧ U + 3 ≤ U1 ∧ Good p.1 D1 U1 p.2) ∧ AllG D U r
theorem CsOk.of {S : Sit} {D U : Nat} {fr : Option (List Env)} {gd : Option (List Code)} {env : Env} (eA : S.A = (AR D U fr gd).deeper env) (X : Rdy S.w S.h₀) : ∀ {l : List (Nat × Co)}, AllG D U l → ∀ (q : Nat) (vs : List SV) (ν : Nu) (μ : Mu) (K : KV) (args : List Value) (s : Shared) (ad : List Addr), lookC l q vs ν (fun v ν => K v μ ν) → Hd S s.heap ad μ ν → RL ad vs args → wpS S (call (.ref q) args) (PX S s ad K) s := by
 intro l
 induction l with
 | nil => intro _ q vs ν μ K args s ad h; exact h.elim
 | cons p r ih =>
  intro h q vs ν μ K args s ad k H hr
  change (match Nat.beq p.1 q with | true => p.2 vs ν _ | false => lookC r q vs ν _) at k
  cases e : Nat.beq p.1 q with
  | true =>
   rw [e] at k
   refine el_EEAA (h.1) fun D1 U1 h1 h2 g => ?_
   rw [← Nat.eq_of_beq_eq_true e]
   exact g S D U fr gd env eA h1 h2 X vs ν μ K args s ad k H hr
  | false => rw [e] at k; exact ih h.2 q vs ν μ K args s ad k H hr
noncomputable def compB (cd : CD) : Bool := allB (fun y : Str × NameKind => !(y.2 == .cell) && (!(y.2 == .local) || cd.sc.names.lookup y.1 == some .local)) cd.sc.names && (cd.sc.kind == .function && (cd.sc.names.lookup cd.x == some .local && decide (cd.F.ns = [cd.x])))
theorem CompOk.of {S : Sit} {cd : CD} (cl : List (Str × Addr)) (h1 : closureFor cd.sc S.env = pure cl) (h2 : compB cd = true) (h3 : NmB (relabel cd.sc S.env) cd.F = true) (hg : GtOk cd.F) (e1 : S.env.globals = mainGlobals) (e2 : S.env.builtins = builtinsNs) (h4 : ∀ p ∈ cd.F.cs, p ∈ S.d.F.cs ∧ cl.lookup p.2 = S.env.cells.lookup p.2) : CompOk S cd := by
 unfold compB at h2
 rw [Bool.and_eq_true, Bool.and_eq_true, Bool.and_eq_true] at h2
 refine ⟨cl, h1, fun y hy => ?_, by simpa using h2.2.1, fun y hy e => ?_, by simpa using h2.2.2.1, of_decide_eq_true h2.2.2.2, fun C => NmOk.of h3 hg e1 e2, h4⟩
 ·have := allB_mem h2.1 y hy
  rw [Bool.and_eq_true] at this
  simpa using this.1
 ·have := allB_mem h2.1 y hy
  rw [Bool.and_eq_true, e] at this
  simpa using this.2
noncomputable def GtL (w : World) : List (Str × Value) → Prop
 | [] => True
 | p :: r => (nsIn (H39 w) mainGlobals p.1 = some (some p.2) ∧ keptV w p.2 = true) ∧ GtL w r
theorem GtOk.of {F : Fn} (h : ∀ w, GtL w F.gt) : GtOk F := by
 intro w
 have := h w
 clear h
 generalize F.gt = l at *
 induction l with
 | nil => intro p hp; cases hp
 | cons a r ih => intro p hp; exact (List.mem_cons.mp hp).elim (fun e => e ▸ this.1) (ih this.2 p)
noncomputable def CsL (cs : List (Nat × Str)) (cl cells : List (Str × Addr)) : List (Nat × Str) → Prop
 | [] => True
 | p :: r => (p ∈ cs ∧ cl.lookup p.2 = cells.lookup p.2) ∧ CsL cs cl cells r
theorem CsL.all {cs : List (Nat × Str)} {cl cells : List (Str × Addr)} {l : List (Nat × Str)} (h : CsL cs cl cells l) : ∀ p ∈ l, p ∈ cs ∧ cl.lookup p.2 = cells.lookup p.2 := by
 induction l with
 | nil => intro p hp; cases hp
 | cons a r ih => intro p hp; exact (List.mem_cons.mp hp).elim (fun e => e ▸ h.1) (ih h.2 p)
noncomputable def CompL (F : Fn) (env : Env) : List CD → Prop
 | [] => True
 | cd :: r => (∃ cl, closureFor cd.sc env = pure cl ∧ compB cd = true ∧ NmB (relabel cd.sc env) cd.F = true ∧ (∀ w, GtL w cd.F.gt) ∧ CsL F.cs cl env.cells cd.F.cs) ∧ CompL F env r
theorem CompL.all {S : Sit} {F : Fn} (e : S.d.F = F) (e1 : S.env.globals = mainGlobals) (e2 : S.env.builtins = builtinsNs) {l : List CD} (h : CompL F S.env l) : ∀ cd ∈ l, CompOk S cd := by
 induction l with
 | nil => intro p hp; cases hp
 | cons a r ih =>
  intro p hp
  rcases List.mem_cons.mp hp with rfl | hp
  ·refine el_EAAAA (h.1) fun cl h1 h2 h3 h4 h5 => ?_
   exact CompOk.of cl h1 h2 h3 (GtOk.of h4) e1 e2 (e ▸ h5.all)
  ·exact ih h.2 p hp
noncomputable def a1 (vs : List SV) (k : SV → Prop) : Prop := match vs with | [a] => k a | _ => False
noncomputable def a2 (vs : List SV) (k : SV → SV → Prop) : Prop := match vs with | [a, b] => k a b | _ => False
noncomputable def a3 (vs : List SV) (k : SV → SV → SV → Prop) : Prop := match vs with | [a, b, c] => k a b c | _ => False
theorem a3_inv {vs : List SV} {k : SV → SV → SV → Prop} (h : a3 vs k) : ∃ a b c, vs = [a, b, c] ∧ k a b c := by
 cases vs with
 | nil => exact h.elim
 | cons a r => cases r with
  | nil => exact h.elim
  | cons b r => cases r with
   | nil => exact h.elim
   | cons c r => cases r with
    | nil => exact ⟨a, b, c, rfl, h⟩
    | cons _ _ => exact h.elim
theorem a1_inv {vs : List SV} {k : SV → Prop} (h : a1 vs k) : ∃ a, vs = [a] ∧ k a := by
 cases vs with
 | nil => exact h.elim
 | cons a r => cases r with
  | nil => exact ⟨a, rfl, h⟩
  | cons _ _ => exact h.elim
theorem a2_inv {vs : List SV} {k : SV → SV → Prop} (h : a2 vs k) : ∃ a b, vs = [a, b] ∧ k a b := by
 cases vs with
 | nil => exact h.elim
 | cons a r => cases r with
  | nil => exact h.elim
  | cons b r => cases r with
   | nil => exact ⟨a, b, rfl, h⟩
   | cons _ _ => exact h.elim
theorem getD_mem {ns : List Int} {i : Nat} (h : i < ns.length) : ns.getD i 0 ∈ ns := by rw [List.getD_eq_getElem?_getD, List.getElem?_eq_getElem h]; exact List.getElem_mem h
theorem map_getD {α : Type} (g : Int → α) (ns : List Int) : (List.range ns.length).map (fun i => g (ns.getD i 0)) = ns.map g := by
 refine List.ext_getElem (by simp) fun i h1 h2 => ?_
 rw [List.length_map] at h2
 simp [List.getD_eq_getElem?_getD, List.getElem?_eq_getElem h2]
theorem roI {k : Nat} {ns : List Int} {ν : Nu} (h : ν[k]? = some (.ints ns) ∨ ν[k]? = some (.ro ns)) : impK ν k = .ro ns := by
 unfold impK
 rcases h with h | h <;> rw [h] <;> rfl
theorem dvI {k : Nat} {ns : List Int} {ν ν' : Nu} {K : SV → Nu → Prop} (e : ν'[k]? = some (.ints ns)) (h : K (.o ν.length) (ν ++ [.ro ns])) : Dv (.o k) ν' ν K := by
 show (match ν'[k]? with | some (.ints ns) => _ | some (.rows rs) => _ | some (.tup svs) => _ | _ => False)
 rw [e]; exact h
theorem dvR {k : Nat} {rs : List (List Int)} {ν ν' : Nu} {K : SV → Nu → Prop} (e : ν'[k]? = some (.rows rs)) (h : K (.o ν.length) (ν ++ [.rrows rs])) : Dv (.o k) ν' ν K := by
 show (match ν'[k]? with | some (.ints ns) => _ | some (.rows rs) => _ | some (.tup svs) => _ | _ => False)
 rw [e]; exact h
theorem dvT {k : Nat} {svs : List SV} {ν ν' : Nu} {K : SV → Nu → Prop} (e : ν'[k]? = some (.tup svs)) (q : intsV svs = true) (h : K (.o ν.length) (ν ++ [.tup svs])) : Dv (.o k) ν' ν K := by
 show (match ν'[k]? with | some (.ints ns) => _ | some (.rows rs) => _ | some (.tup svs) => _ | _ => False)
 rw [e]; exact ⟨q, h⟩
theorem goodB {name qual : Str} {params : Arguments} {scope : Scope} {dV kV doc pm cdv ct oc : Value} {an od : Option Addr} {osl : Array (Option Value)} {f : Addr} {F : Fn} {Ds : List CD} {body : List Stmt} {Cl : List (Nat × Co)} {D U : Nat} {C : Co} (par : List Str) (ts : List TabI)
  (ho : ∀ w, (H39 w).lookup f = some ⟨oc, od, .func (fnOf name qual params body scope dV kV doc pm an cdv ct), osl⟩) (hcd : ∀ w, codeIn (H39 w) cdv qual = true) (hroom : D < recursionLimit) (hu : U + 3 + 66 < cLine)
  (hbind : ∀ s pos, pos.length = par.length → BindsTo s (fnOf name qual params body scope dV kV doc pm an cdv ct) ⟨pos, []⟩ (par.zip pos))
  (hkind : allB (fun y => scope.names.lookup y == some .local || scope.names.lookup y == some .cell) par = true)
  (hnd : ((cellsFrom 0 scope.names []).map (·.1)).Nodup) (hco : scope.isCoroutine = false) (hgen : scope.isGenerator = false) (hk : scope.kind = .function)
  (hN : NmB scope F = true) (hg : ∀ w, GtL w F.gt) (hns : F.ns.Nodup) (hts : (ts.map (·.P)).Nodup)
  (hcomp : ∀ L, CompL F (envOfC qual scope L f cdv) Ds) (hG : AllG D U Cl) (n : Nat)
  (hcs : F.cs = numC (n + ts.length) ((cellsFrom 0 scope.names []).map (·.1)))
  (core : ∀ (vs : List SV) (ν : Nu) (K : SV → Nu → Prop), C vs ν K → vs.length = par.length ∧ (impN ν vs).length = n ∧ (∀ t ∈ ts, hasT ν t) ∧ ∀ w fr gd G L fm s₁ ad0 tb, Ok (Sit.of w ((AR D U fr gd).deeper (envOfC qual scope L f cdv)) G L (envOfC qual scope L f cdv) { F := F, D := Ds, C := lookC Cl } fm) → TbOf ts tb → Hd (Sit.of w ((AR D U fr gd).deeper (envOfC qual scope L f cdv)) G L (envOfC qual scope L f cdv) { F := F, D := Ds, C := lookC Cl } fm) s₁.heap ad0
     (F.ns.map (slots (fun p => decide (scope.names.lookup p = some .local)) par (impV 0 vs) fun _ => .u)) (impN ν vs ++ (tb ++ (((cellsFrom 0 scope.names []).map (·.1)).map (slots (fun p => !decide (scope.names.lookup p = some .local)) par (impV 0 vs) fun _ => .u)).map SO.cell)) →
    wpS (Sit.of w ((AR D U fr gd).deeper (envOfC qual scope L f cdv)) G L (envOfC qual scope L f cdv) { F := F, D := Ds, C := lookC Cl } fm) (execs body (envOfC qual scope L f cdv)) (PS (Sit.of w ((AR D U fr gd).deeper (envOfC qual scope L f cdv)) G L (envOfC qual scope L f cdv) { F := F, D := Ds, C := lookC Cl } fm) s₁ (retK fun sv ν' => Kept ν' tb ∧ Dv sv ν' ν K)) s₁) : Good f D U C := by
 intro S D' U' fr gd env eA hD hU X vs ν μ K args s ad h Hc hv
 refine el_AAA (core vs ν _ h) fun c1 c2 c3 c4 => ?_
 have il : (impA ad vs).length = n := by
  rw [← c2]
  clear c2 c4 h hv c1
  induction vs with
  | nil => rfl
  | cons a r ih => cases a <;> first | exact ih | exact congrArg (· + 1) ih
 show wpAny _ S.A _ _ _ _
 rw [eA]
 refine at_call hD hU (callB (d := { F := F, D := Ds, C := lookC Cl }) X Hc hv (ho S.w) (hcd S.w) hroom hu (hbind s args ?_) (kinds_zip par args hkind) hnd hco hgen hk hN (GtOk.of hg) hns ts hts c3 (by rw [il]; exact hcs)
  (fun S' e1 e2 ⟨L, e3⟩ X' q vs ν μ K args s ad k H hr => CsOk.of e3 X' hG q vs ν μ K args s ad (by rw [e2] at k; exact k) H hr) (fun S' e1 ⟨L, e2⟩ => CompL.all (by rw [e1]) (by rw [e2]; rfl) (by rw [e2]; rfl) (by rw [e2]; exact hcomp L)) _ (fun L ad0 r => ⟨stM_map (fun x => slots_L par _ _ _ _ (fun _ => .inl rfl) r x) F.ns, stM_map (fun x => slots_C par _ _ _ _ (fun _ => .inl rfl) r x) _⟩) fun G L fm s₁ ad0 tb O => c4 S.w _ _ G L fm s₁ ad0 tb O)
 rw [← c1]; exact hv.len.symm
theorem goodX {name qual : Str} {params : Arguments} {scope : Scope} {dV kV doc pm cdv ct oc : Value} {an od : Option Addr} {osl : Array (Option Value)} {f : Addr} {F : Fn} {Ds : List CD} {b : B} {Cl : List (Nat × Co)} {D U : Nat} {C : Co} (par : List Str) (ts : List TabI)
  (ho : ∀ w, (H39 w).lookup f = some ⟨oc, od, .func (fnOf name qual params (b.raw { F := F, D := Ds, C := lookC Cl }) scope dV kV doc pm an cdv ct), osl⟩) (hcd : ∀ w, codeIn (H39 w) cdv qual = true) (hroom : D < recursionLimit) (hu : U + 3 + 66 < cLine)
  (hbind : ∀ s pos, pos.length = par.length → BindsTo s (fnOf name qual params (b.raw { F := F, D := Ds, C := lookC Cl }) scope dV kV doc pm an cdv ct) ⟨pos, []⟩ (par.zip pos))
  (hkind : allB (fun y => scope.names.lookup y == some .local || scope.names.lookup y == some .cell) par = true)
  (hnd : ((cellsFrom 0 scope.names []).map (·.1)).Nodup) (hco : scope.isCoroutine = false) (hgen : scope.isGenerator = false) (hk : scope.kind = .function)
  (hN : NmB scope F = true) (hg : ∀ w, GtL w F.gt) (hns : F.ns.Nodup) (hts : (ts.map (·.P)).Nodup)
  (hcomp : ∀ L, CompL F (envOfC qual scope L f cdv) Ds) (hG : AllG D U Cl) (n : Nat)
  (hcs : F.cs = numC (n + ts.length) ((cellsFrom 0 scope.names []).map (·.1)))
  (core : ∀ (vs : List SV) (ν : Nu) (K : SV → Nu → Prop), C vs ν K → vs.length = par.length ∧ (impN ν vs).length = n ∧ (∀ t ∈ ts, hasT ν t) ∧ ∀ tb, TbOf ts tb → st { F := F, D := Ds, C := lookC Cl } b (retK fun sv ν' => Kept ν' tb ∧ Dv sv ν' ν K)
   (F.ns.map (slots (fun p => decide (scope.names.lookup p = some .local)) par (impV 0 vs) fun _ => .u)) (impN ν vs ++ (tb ++ (((cellsFrom 0 scope.names []).map (·.1)).map (slots (fun p => !decide (scope.names.lookup p = some .local)) par (impV 0 vs) fun _ => .u)).map SO.cell))) : Good f D U C :=
 goodB par ts ho hcd hroom hu hbind hkind hnd hco hgen hk hN hg hns hts hcomp hG n hcs fun vs ν K h => have q := core vs ν K h
  ⟨q.1, q.2.1, q.2.2.1, fun w fr gd G L fm s₁ ad0 tb O ht H => st_sound _ b _ O rfl rfl _ _ _ _ s₁ _ (q.2.2.2 tb ht) H⟩
end Mine
end
section
namespace Mine
open PySem PySem.W PySem.Calls PySem.Spec PyProof.Rows
noncomputable def cellv (ν : Nu) (p : Nat) (sv : SV) : Prop := ν[p]? = some (.cell sv) ∨ ν[p]? = some (.fcell sv)
noncomputable def CellAt (h : Heap) (c : Addr) (v : Value) : Prop := ∃ o, h.get? c = some o ∧ o.data = .cell (some v)
section
variable {S : Sit} {s : Shared} {h : Heap} {ad : List Addr} {μ : Mu} {ν : Nu} {K : KF} {fm : Str → Option Value}
theorem Hd.dF {d' : Df} (e : d'.F = S.d.F) : Hd { S with d := d' } h ad μ ν ↔ Hd S h ad μ ν := by
 obtain ⟨w, A, h₀, L, env, ⟨F, D, C⟩, pin, own, fm⟩ := S
 obtain ⟨F', D', C'⟩ := d'
 cases e
 refine ⟨fun q => ?_, fun q => ?_⟩
 all_goals
  obtain ⟨m', nx, fz, F, N, l, R⟩ := q
  exact ⟨m', nx, fz, F, N, l, ⟨R.mlen, R.names, R.len, R.pl, R.nod, R.off, R.offz, R.dis, R.pin, R.cells⟩⟩
theorem cell_at (H : Hd S h ad μ ν) {p : Nat × Str} (hp : p ∈ S.d.F.cs) {sv : SV} (hc : cellv ν p.1 sv) (hu : sv ≠ .u) : ∃ c v, S.env.cells.lookup p.2 = some c ∧ CellAt h c v ∧ Rp ad sv v := by
 obtain ⟨m', nx, fz, F, N, l, R⟩ := H
 refine el_EA (R.cells p hp) fun c h1 h2 => ?_
 rcases hc with hc | hc
 ·refine el_EEAA (R.own hc rfl) fun D o h3 h4 h5 => ?_
  obtain rfl := Option.some.inj (h2.symm.trans h3)
  have : ∃ v, o.data = .cell (some v) ∧ Rp ad sv v := by
   cases sv with
   | u => exact absurd rfl hu
   | _ => exact h4
  (refine el_EA this fun v => ?_; try clear this; intro hd r)
  exact ⟨c, v, h1, ⟨o, (N _ (List.mem_append_left _ h5)).1, hd⟩, r⟩
 ·refine el_EEAAbEAe (R.fro hc (fun e => by cases e) rfl) fun D o v h3 hd r h5 => ?_
  obtain rfl := Option.some.inj (h2.symm.trans h3)
  exact ⟨c, v, h1, ⟨o, h5.get F N, hd⟩, r⟩
theorem swapC (O : Ok S) (hf : S.env.locals = S.L) {d' : Df} (e : d'.F = S.d.F) (eD : d'.D = []) (hC : ∀ fm pin own, CsOk { S with d := d', fm := fm, pin := pin, own := own }) {b : B} {body : List Stmt} (hb : body = b.raw d') (h : st d' b K μ ν) (H : Hd (S.at fm) s.heap ad μ ν) : wpS S (execs body S.env) (PS S s K) s := by
 subst hb
 have O2 : Ok { S with d := d' } := ⟨e.symm ▸ O.nm, e.symm ▸ O.nod, O.hnd, O.units, O.rdy, hC, fun cd hcd => by have : cd ∈ d'.D := hcd; rw [eD] at this; cases this⟩
 refine wpAny_mono (st_sound d' b { S with d := d' } O2 rfl hf fm _ _ _ s ad h ((Hd.dF (S := S.at fm) e).mpr H)) ?_ fun _ _ x => x
 intro fl s2 q19; (refine el_EEEEEAAA q19 fun fm' ad2 sf μ' ν' => ?_; try clear q19; intro a2 H3 r3 k3)
 exact ⟨fm', ad2, sf, μ', ν', a2, (Hd.dF (S := S.at fm') e).mp H3, r3, k3⟩
theorem nest_st (O : Ok S) {cn q x : Str} {scs scope : Scope} {cl clos : List (Str × Addr)} {a cc P : Addr} {kt ci kc : Nat} {l c : Int} {csT : List (Addr × Obj)} {params : Arguments} {body rest : List Stmt} {pos : Pos} (he : S.env = envX cn scs S.L a (.ref cc) cl) (hC : CodeHd S.h₀ cc P)
  (ht : ν[kt]? = some (.tab P l c q csT)) (hc : S.d.F.cs[ci]? = some (kc, x)) {sv : SV} (hcell : ν[kc]? = some (.cell sv)) (hk : kt ≠ kc) (hl : l = pos.line) (hcc : c = pos.col) (hcl : closureFor scope S.env = pure clos)
  (hd0 : params.defaults = []) (hk0 : params.kw_defaults = []) (ha : annTrees params none S.env = []) (hq : qualnameIn S.env x x = q) (H : Hd (S.at fm) s.heap ad μ ν)
  (k : ∀ (f c' : Addr) (oc : Obj) (vs : Array Value) (t : Tok) (ctv doc md : Value) (s' : Shared) (ad' : List Addr), oc.data = .fields vs → vs[1]? = some (.str q t) → Hd (S.at fm) s'.heap ad' μ ((ν ++ [SO.fn f [(f, fnMade x q params body scope clos doc md c' ctv), (c', oc)]]).set kc (.cell (.o ν.length))) → At s s' → wpS S (execs rest S.env) (PS S s' K) s') :
  wpS S (execs (.FunctionDef x params body [] none [] scope none x pos :: rest) S.env) (PS S s K) s := by
 obtain ⟨m', nx, fz, F, N, lo, R⟩ := H
 refine el_AEEEEE (O.rdy) fun pp loo me mg mb X T => ?_
 (refine el_EEAAbRe (R.own ht rfl) fun P' oP z09 => ?_; subst z09; intro p1 p2 p3)
 have hkl := lt_of_get hcell
 refine wpAny_execs_cons (nestDef_K hd0 hk0 ha ?_)
 rw [hq]
 (refine el_EEr (List.append_of_mem p3) fun pre post z09 => ?_; subst z09)
 have hn := nodup_split R.nod
 -- the store behind
 have fin : ∀ (f c' : Addr) (oc oP' : Obj) (vs : Array Value) (t : Tok) (ctv doc md : Value) (h' : Heap) (tk : Nat) (fz1 : List (Addr × Obj)), oc.data = .fields vs → vs[1]? = some (.str q t) → Fr S.h₀ S.L h' fm → News S.h₀ S.L h' (ledg S (pre ++ (P', oP') :: post) fz1) → (∀ p ∈ fz, p ∈ fz1) →
   (f, fnMade x q params body scope clos doc md c' ctv) ∈ fz1 → Zf S.h₀ fz1 c' oc → (oP' = tabObj #[] ∨ TabC l c q (fun a o => Zf S.h₀ fz1 a o ∧ ((a, o) ∈ csT ∨ (a, o) ∈ fz1)) oP') → (∀ p ∈ pre ++ (P', oP) :: post, ∀ q ∈ fz1 ++ S.own, p.1 ≠ q.1) → (∀ p ∈ fz1, ∀ q ∈ S.own, p.1 ≠ q.1) →
   wpS S (storeName S.env x (.ref f)) (fun _ s'' => wpS S (execs rest S.env) (PS S s K) s'') { s with heap := h', toks := tk } := fun f c' oc oP' vs t ctv doc md h' tk fz1 hd hv F1 N1 z hf hz hI off offz => by
  have R1 := R.more z off offz
  have R2 := R1.setO ht rfl p1 oP' (.tab P' l c q csT) rfl ⟨rfl, hI⟩
  have e1 : ν.set kt (.tab P' l c q csT) = ν := by obtain ⟨h1, h2⟩ := List.getElem?_eq_some_iff.mp ht; rw [← h2]; exact List.set_getElem_self h1
  rw [e1] at R2
  have R3 := R2.add (so := .fn f [(f, fnMade x q params body scope clos doc md c' ctv), (c', oc)]) (a := f) (o := fnMade x q params body scope clos doc md c' ctv) (fun _ h => h) (fun _ => ⟨rfl, ⟨_, _, _, _, rfl⟩, fun p hp => by
   rcases List.mem_cons.mp hp with rfl | hp
   ·exact .inr hf
   ·rw [List.mem_singleton.mp hp]; exact hz⟩) ⟨rfl, .inr ⟨(fun q => by cases q), .inr hf⟩⟩ R2.off R2.offz
  have hx : nmC S.d.F ci = x := by unfold nmC; rw [hc]
  have hlen := R.len
  have sto := stoC_sound (s := { s with heap := h', toks := tk }) (S := S) (fm := fm) (ad := ad ++ [f]) (μ := μ) (ν := ν ++ [SO.fn f [(f, fnMade x q params body scope clos doc md c' ctv), (c', oc)]]) (i := ci) (sv := .o ν.length) (v := .ref f) (P := fun μ1 ν1 => μ1 = μ ∧ ν1 = (ν ++ [SO.fn f [(f, fnMade x q params body scope clos doc md c' ctv), (c', oc)]]).set kc (.cell (.o ν.length))) (Q := fun _ s'' => wpS S (execs rest S.env) (PS S s K) s'') O
   (by unfold stoC; rw [hc]; dsimp only; rw [List.getElem?_append_left hkl, hcell]; exact ⟨rfl, rfl⟩) ⟨m', _, fz1, F1, N1, lo, R3⟩ ⟨f, by rw [← hlen]; exact List.getElem?_concat_length, rfl⟩ (fun h2 ν2 H2 ⟨_, e2⟩ => by
    subst e2
    have a1 : At s { s with heap := h2, toks := tk } := ⟨_, _, rfl⟩
    exact wpP a1 (k f c' oc vs t ctv doc md { s with heap := h2, toks := tk } _ hd hv H2 a1))
  rw [hx] at sto
  exact sto
 rw [he] at hcl ⊢
 rw [he] at fin
 have mem0 : (P', oP) ∈ ledg S (pre ++ (P', oP) :: post) fz := List.mem_append_left _ p3
 rcases p2 with rfl | ⟨c', oc, vs, t, rfl, ⟨z, zc⟩, hd, hv⟩
 ·have U : UpdF P' (tabObj #[]) (pre ++ (P', tabObj #[]) :: (post ++ (fz ++ S.own))) (fun o' => pre ++ (P', o') :: (post ++ (fz ++ S.own))) := UpdF.mid (fun p hp => (List.mem_append.mp hp).elim (hn.2 p) fun hp => (Ne.symm (R.off _ p3 p hp))) pre hn.1
  have N0 : News S.h₀ S.L s.heap (pre ++ (P', tabObj #[]) :: (post ++ (fz ++ S.own))) := fun p hp => N p (by simpa [ledg, List.append_assoc] using hp)
  refine nest_K F N0 T hC rfl U trivial rfl hcl fun f c' oc vs t ctv doc h' tk F1 N1 hd hv hlt hcf => ?_
  have hlt' : ∀ p ∈ ledg S (pre ++ (P', tabObj #[]) :: post) fz, p.1 < c' := fun p hp => hlt p (by simpa [ledg, List.append_assoc] using hp)
  refine fin f c' oc _ vs t ctv doc ((mg "__name__").getD .none) h' tk ((f, fnMade x q params body scope clos doc ((mg "__name__").getD .none) c' ctv) :: (c', oc) :: fz) hd hv F1 (fun p hp => N1 p ?_) (fun p hp => .tail _ (.tail _ hp)) (.head _) (.inr (.tail _ (.head _))) (.inr ⟨c', oc, vs, t, by rw [hl, hcc], ⟨.inr (.tail _ (.head _)), .inr (.tail _ (.head _))⟩, hd, hv⟩) (fun p hp q hq => ?_) (fun p hp q hq => ?_)
  ·simp only [ledg, List.mem_append, List.mem_cons] at hp ⊢
   rcases hp with (hp | hp | hp) | (hp | hp | hp) | hp
   ·exact .inr (.inr (.inl hp))
   ·exact .inr (.inr (.inr (.inl hp)))
   ·exact .inr (.inr (.inr (.inr (.inl hp))))
   ·exact .inl hp
   ·exact .inr (.inl hp)
   ·exact .inr (.inr (.inr (.inr (.inr (.inl hp)))))
   ·exact .inr (.inr (.inr (.inr (.inr (.inr hp)))))
  ·have lp := hlt' p (List.mem_append_left _ hp)
   rcases List.mem_cons.mp hq with rfl | hq
   ·exact Nat.ne_of_lt (Nat.lt_trans lp hcf)
   rcases List.mem_cons.mp hq with rfl | hq
   ·exact Nat.ne_of_lt lp
   ·exact R.off p hp q hq
  ·have lq := hlt' q (List.mem_append_right _ (List.mem_append_right _ hq))
   rcases List.mem_cons.mp hp with rfl | hp
   ·exact Nat.ne_of_gt (Nat.lt_trans lq hcf)
   rcases List.mem_cons.mp hp with rfl | hp
   ·exact Nat.ne_of_gt lq
   ·exact R.offz p hp q hq
 ·refine nestHit_K (c' := c') F N T hC rfl mem0 (by simp [TriplesOk, rawInt]) (by rw [hl, hcc]; simp [codeAmong, rawInt]) hcl fun f ctv doc h' tk F1 N1 hlt => ?_
  refine fin f c' oc _ vs t ctv doc ((mg "__name__").getD .none) h' tk ((f, fnMade x q params body scope clos doc ((mg "__name__").getD .none) c' ctv) :: fz) hd hv F1 (fun p hp => N1 p ?_) (fun p hp => .tail _ hp) (.head _) (z.up fun p hp => .tail _ hp) (.inr ⟨c', oc, vs, t, rfl, ⟨z.up fun p hp => .tail _ hp, zc.imp_right (.tail _)⟩, hd, hv⟩) (fun p hp q hq => ?_) (fun p hp q hq => ?_)
  ·simp only [ledg, List.mem_append, List.mem_cons] at hp ⊢
   rcases hp with hp | (hp | hp) | hp
   ·exact .inr (.inl hp)
   ·exact .inl hp
   ·exact .inr (.inr (.inl hp))
   ·exact .inr (.inr (.inr hp))
  ·rcases List.mem_cons.mp hq with rfl | hq
   ·exact Nat.ne_of_lt (hlt p (List.mem_append_left _ hp))
   ·exact R.off p hp q hq
  ·rcases List.mem_cons.mp hp with rfl | hp
   ·exact Nat.ne_of_gt (hlt q (List.mem_append_right _ (List.mem_append_right _ hq)))
   ·exact R.offz p hp q hq
end
noncomputable def endK (P : SV → Nu → Prop) : KF := fun f _ ν => match f with
 | .ret v => P v ν
 | .next => P (.v .none) ν
 | _ => False
theorem innC {w : World} {s : Shared} {D U : Nat} {fr : Option (List Env)} {gd : Option (List Code)} {g : Heap} {name qual : Str} {params : Arguments} {scope : Scope} {cl : List (Str × Addr)} {dV kV doc pm cdv ct oc : Value} {an od : Option Addr} {osl : Array (Option Value)} {f : Addr} {pos : List Value} {binds : List (Str × Value)}
  {d : Df} {body : List Stmt} {μ0 : Mu} {ν0 : Nu} {nx : List (Addr × Obj)} {R : Result → Shared → Prop} {P : SV → Nu → Prop} {as : List Addr} (hg : g.StaysIn s.heap) (X : Rdy w g) (hobj : ∀ q ∈ nx, s.heap.get? q.1 = some q.2 ∧ g.get? q.1 = none) (hnd : (nx.map (·.1)).Nodup)
  (ho : s.heap.get? f = some ⟨oc, od, .func (fnX name qual params body scope cl dV kV doc pm an cdv ct), osl⟩) (hcd : s.heap.CodeRec cdv qual) (hroom : D < recursionLimit) (hu : U + 3 + 66 < cLine)
  (hbind : BindsTo s (fnX name qual params body scope cl dV kV doc pm an cdv ct) ⟨pos, []⟩ binds) (hloc : ∀ y ∈ binds, scope.names.lookup y.1 = some .local)
  (hcell : ∀ x ∈ scope.names, x.2 ≠ .cell) (hco : scope.isCoroutine = false) (hgen : scope.isGenerator = false) (hk : scope.kind = .function)
  (hN : NmB scope d.F = true) (hgt : GtOk d.F) (hns : d.F.ns.Nodup) (hD : d.D = []) (hcs : ∀ p ∈ d.F.cs, ∃ c, cl.lookup p.2 = some c ∧ as[p.1]? = some c) (hm : stM as (fun y => binds.reverse.lookup y) μ0 d.F.ns)
  (hI : ∀ G : Heap, (∀ b o, s.heap.get? b = some o → b ∉ nx.map (·.1) → G.get? b = some o) → stI w G as as ν0 nx)
  (hC : ∀ S : Sit, S.w = w → S.d = d → S.env.cells = cl → (∃ env, S.A = (AR D U fr gd).deeper env) → Rdy S.w S.h₀ → CsOk S)
  (hrun : ∀ G L fm s₁, (∀ b o, s.heap.get? b = some o → b ∉ nx.map (·.1) → G.get? b = some o) → G = hideAll s.heap (nx.map (·.1)) → Ok (Sit.of w ((AR D U fr gd).deeper (envX qual scope L f cdv cl)) G L (envX qual scope L f cdv cl) d fm) → Hd (Sit.of w ((AR D U fr gd).deeper (envX qual scope L f cdv cl)) G L (envX qual scope L f cdv cl) d fm) s₁.heap as μ0 ν0 →
   wpS (Sit.of w ((AR D U fr gd).deeper (envX qual scope L f cdv cl)) G L (envX qual scope L f cdv cl) d fm) (execs body (envX qual scope L f cdv cl)) (PS (Sit.of w ((AR D U fr gd).deeper (envX qual scope L f cdv cl)) G L (envX qual scope L f cdv cl) d fm) s₁ (endK P)) s₁)
  (hq : ∀ (S : Sit) (h' : Heap) (tk : Nat) (ad' : List Addr) (μ' : Mu) (ν' : Nu) (sv : SV) (v : Value), (∀ b o, s.heap.get? b = some o → b ∉ nx.map (·.1) → S.h₀.get? b = some o) → S.env.cells = cl → S.d = d → S.w = w → Hd S h' ad' μ' ν' → Rp ad' sv v → P sv ν' → R (.ok (.ret v)) { s with heap := h', toks := tk }) :
  codeAny (model P0 w) (AR D U fr gd) (.call (.ref f) ⟨pos, []⟩) R s := by
 have nm : ∀ b o, g.get? b = some o → b ∉ nx.map (·.1) := fun b o e q => by
  (refine el_EAr (List.mem_map.mp q) fun q' z09 => ?_; subst z09; intro hq)
  rw [(hobj q' hq).2] at e; cases e
 have hGb : ∀ b o, s.heap.get? b = some o → b ∉ nx.map (·.1) → (hideAll s.heap (nx.map (·.1))).get? b = some o := fun b o e q => hideAll_get _ e q
 have st : g.StaysIn (hideAll s.heap (nx.map (·.1))) := fun b o e => hGb b o (hg b o e) (nm b o e)
 have XG := X.keeps st
 refine el_AEEEEE (id X) fun p lo me mg mb X1 T => ?_
 refine codeAny_call_def (fd := fnX name qual params body scope cl dV kV doc pm an cdv ct) (body := body) (binds := binds) hroom ho rfl (T.nolimit.keeps hg) hcd rfl hbind hcell hloc (fun h₁ hns₁ hk₁ => ?_) hco hgen hk
 let S : Sit := Sit.of w ((AR D U fr gd).deeper (envX qual scope s.heap.objs.size f cdv cl)) (hideAll s.heap (nx.map (·.1))) s.heap.objs.size (envX qual scope s.heap.objs.size f cdv cl) d (fun y => binds.reverse.lookup y)
 have O : Ok S := ⟨NmOk.of hN hgt rfl rfl, hns, rfl, hu, XG, fun fm pin own => hC _ rfl rfl rfl ⟨_, rfl⟩ XG, fun cd hcd => by have : cd ∈ d.D := hcd; rw [hD] at this; cases this⟩
 have H : Hd S h₁ as μ0 ν0 := ⟨_, nx, [], ⟨hns₁, fun b o e => hk₁ b o (of_hideAll _ e), Nat.le_of_eq (hideAll_size _ _)⟩, (fun q hq => by
  have hq : q ∈ nx := by simpa [ledg, S] using hq
  exact ⟨hk₁ _ _ (hobj q hq).1, Nat.ne_of_lt (Heap.lt_size (hobj q hq).1), hideAll_none _ (List.mem_map_of_mem hq)⟩), .inl ⟨rfl, rfl⟩, Rel.begin (S := S) hm (hI _ hGb) hnd rfl rfl hcs⟩
 refine wpAny_mono (hrun _ _ _ ({ s with heap := h₁, toks := s.toks + binds.length } : Shared) hGb rfl O H) ?_ fun _ _ x => x.elim
 intro fl _ q19; (refine el_EEEEEAbEEreAA q19 fun fm ad' sf μ' ν' h2 tk2 z09 => ?_; try clear q19; subst z09; intro H2 r2 k2)
 cases sf with
 | ret sv =>
  (refine el_ER r2 fun v z09 => ?_; try clear r2; subst z09; intro r2)
  exact hq (S.at fm) h2 tk2 ad' μ' ν' sv v hGb rfl rfl rfl H2 r2 k2
 | next => cases r2; exact hq (S.at fm) h2 tk2 ad' μ' ν' (.v .none) .none hGb rfl rfl rfl H2 rfl k2
 | _ => exact k2.elim
theorem innB {w : World} {s : Shared} {D U : Nat} {fr : Option (List Env)} {gd : Option (List Code)} {g : Heap} {name qual : Str} {params : Arguments} {scope : Scope} {cl : List (Str × Addr)} {dV kV doc pm cdv ct oc : Value} {an od : Option Addr} {osl : Array (Option Value)} {f : Addr} {pos : List Value} {binds : List (Str × Value)}
  {d : Df} {b : B} {μ0 : Mu} {ν0 : Nu} {nx : List (Addr × Obj)} {Q : Value → Shared → Prop} {P : SV → Nu → Prop} {as : List Addr} (hg : g.StaysIn s.heap) (X : Rdy w g) (hobj : ∀ q ∈ nx, s.heap.get? q.1 = some q.2 ∧ g.get? q.1 = none) (hnd : (nx.map (·.1)).Nodup)
  (ho : s.heap.get? f = some ⟨oc, od, .func (fnX name qual params (b.raw d) scope cl dV kV doc pm an cdv ct), osl⟩) (hcd : s.heap.CodeRec cdv qual) (hroom : D < recursionLimit) (hu : U + 3 + 66 < cLine)
  (hbind : BindsTo s (fnX name qual params (b.raw d) scope cl dV kV doc pm an cdv ct) ⟨pos, []⟩ binds) (hloc : ∀ y ∈ binds, scope.names.lookup y.1 = some .local)
  (hcell : ∀ x ∈ scope.names, x.2 ≠ .cell) (hco : scope.isCoroutine = false) (hgen : scope.isGenerator = false) (hk : scope.kind = .function)
  (hN : NmB scope d.F = true) (hgt : GtOk d.F) (hns : d.F.ns.Nodup) (hD : d.D = []) (hcs : ∀ p ∈ d.F.cs, ∃ c, cl.lookup p.2 = some c ∧ as[p.1]? = some c) (hm : stM as (fun y => binds.reverse.lookup y) μ0 d.F.ns)
  (hI : ∀ G : Heap, (∀ b o, s.heap.get? b = some o → b ∉ nx.map (·.1) → G.get? b = some o) → stI w G as as ν0 nx)
  (hC : ∀ S : Sit, S.w = w → S.d = d → S.env.cells = cl → (∃ env, S.A = (AR D U fr gd).deeper env) → Rdy S.w S.h₀ → CsOk S) (hst : st d b (endK P) μ0 ν0)
  (hq : ∀ (S : Sit) (h' : Heap) (tk : Nat) (ad' : List Addr) (μ' : Mu) (ν' : Nu) (sv : SV) (v : Value), (∀ b o, s.heap.get? b = some o → b ∉ nx.map (·.1) → S.h₀.get? b = some o) → S.env.cells = cl → S.d = d → S.w = w → Hd S h' ad' μ' ν' → Rp ad' sv v → P sv ν' → Q v { s with heap := h', toks := tk }) :
  wpAny (model P0 w) (AR D U fr gd) (call (.ref f) pos []) Q EF s :=
 wpAny_call (innC hg X hobj hnd ho hcd hroom hu hbind hloc hcell hco hgen hk hN hgt hns hD hcs hm hI hC (fun G L fm s₁ _ _ O H => st_sound d b _ O rfl rfl _ _ _ _ s₁ _ hst H) hq)
noncomputable def InD (f : Addr) (os : List (Addr × Obj)) (n : Int) (p : Nat × Nat × Nat) (kd : Nat) (ν : Nu) : Prop := cellv ν p.1 (.o kd) ∧ cellv ν p.2.2 (.i n) ∧ ∃ kf : Nat, cellv ν p.2.1 (.o kf) ∧ ν[kf]? = some (SO.fn f os)
noncomputable def InH (h : Heap) (f c' : Addr) (c : Addr × Addr × Addr) (l : Addr) (oF oc : Obj) (n : Int) : Prop := h.get? f = some oF ∧ h.get? c' = some oc ∧ CellAt h c.1 (.ref l) ∧ CellAt h c.2.1 (.ref f) ∧ ∃ t, CellAt h c.2.2 (.int n t)
noncomputable def InC (x : Str) (c : Addr × Addr × Addr) (cl : List (Str × Addr)) : Prop := cl.lookup x = some c.1 ∧ cl.lookup (Str.ofString "inner") = some c.2.1 ∧ cl.lookup (Str.ofString "n") = some c.2.2
noncomputable def InM (x : Str) (p : Nat × Nat × Nat) (cs : List (Nat × Str)) : Prop := (p.1, x) ∈ cs ∧ (p.2.1, Str.ofString "inner") ∈ cs ∧ (p.2.2, Str.ofString "n") ∈ cs
section
variable {S : Sit} {h h' : Heap} {ad : List Addr} {μ : Mu} {ν : Nu} {f c' l : Addr} {c : Addr × Addr × Addr} {oF oc : Obj} {n : Int} {p : Nat × Nat × Nat} {kd : Nat} {x : Str}
theorem InD.heap (I : InD f [(f, oF), (c', oc)] n p kd ν) (H : Hd S h ad μ ν) (m : InM x p S.d.F.cs) (lk : InC x c S.env.cells) : ∃ l, InH h f c' c l oF oc n ∧ ad[kd]? = some l := by
 (refine el_AAEA I fun kf => ?_; try clear I; intro x1 x5 x3 x4)
 (refine el_EEAAEAr (cell_at H m.1 x1 (fun e => by cases e)) fun _ _ l z09 => ?_; subst z09; intro e1 y1 z1)
 (refine el_EEAAEAr (cell_at H m.2.1 x3 (fun e => by cases e)) fun _ _ l2' z09 => ?_; subst z09; intro e2 y2 z2)
 (refine el_EEAAEr (cell_at H m.2.2 x5 (fun e => by cases e)) fun _ _ t z09 => ?_; subst z09; intro e3 y3)
 cases lk.1.symm.trans e1
 cases lk.2.1.symm.trans e2
 cases lk.2.2.symm.trans e3
 have fa := (fn_at H x4).2
 obtain rfl := Option.some.inj (z2.symm.trans fa)
 obtain ⟨m', nx, fz, F, N, lo, R⟩ := H
 refine el_EEAAbAAe (R.fro x4 (fun e => by cases e) rfl) fun D2 o2 w4 _ _ w5 _ => ?_
 exact ⟨l, ⟨(w5 _ (.head _)).get F N, (w5 _ (.tail _ (.head _))).get F N, y1, y2, ⟨t, y3⟩⟩, z1⟩
theorem InH.start {w : World} {G : Heap} (I : InH h f c' c l oF oc n) (hf : ∃ oc od fd sl, oF = ⟨oc, od, .func fd, sl⟩) {vs : Array Value} (hd : oc.data = .fields vs) (hG : ∀ b o, h.get? b = some o → (∀ vs n, o ≠ listOf vs n) → G.get? b = some o) :
  stI w G [l, c.1, c.2.1, c.2.2, f] [c.1, c.2.1, c.2.2, f] [.fcell (.o 0), .fcell (.o 4), .fcell (.i n), .fn f [(f, oF), (c', oc)]] [] := by
 obtain ⟨i1, i2, ⟨o1, y1, y2⟩, ⟨o2, y5, y6⟩, t, o3, y7, y8⟩ := I
 have cell : ∀ {b o v}, h.get? b = some o → o.data = .cell (some v) → G.get? b = some o := fun e d => hG _ _ e fun vs n q => by rw [q] at d; cases d
 have g1 := hG _ _ i1 fun vs n q => by (refine el_EEEE hf fun _ _ _ _ => ?_; try clear hf; intro e); rw [e] at q; cases q
 have g2 := hG _ _ i2 fun vs n q => by rw [q] at hd; cases hd
 exact .fro rfl rfl (fun _ => ⟨o1, ⟨_, y2, l, rfl, rfl⟩, cell y1 y2⟩) (.fro rfl rfl (fun _ => ⟨o2, ⟨_, y6, f, rfl, rfl⟩, cell y5 y6⟩) (.fro rfl rfl (fun _ => ⟨o3, ⟨_, y8, t, rfl⟩, cell y7 y8⟩) (.fro rfl rfl (fun _ => ⟨_, ⟨rfl, hf, fun p hp => .inl (by
  rcases List.mem_cons.mp hp with rfl | hp
  ·exact g1
  ·rw [List.mem_singleton.mp hp]; exact g2)⟩, g1⟩) .nil)))
theorem InC.cs {cl : List (Str × Addr)} (I : InC x c cl) : ∀ p ∈ [((1 : Nat), x), (2, Str.ofString "inner"), (3, Str.ofString "n")], ∃ c₁, cl.lookup p.2 = some c₁ ∧ [l, c.1, c.2.1, c.2.2, f][p.1]? = some c₁ := fun p hp => by
 rcases List.mem_cons.mp hp with rfl | hp
 ·exact ⟨_, I.1, rfl⟩
 rcases List.mem_cons.mp hp with rfl | hp
 ·exact ⟨_, I.2.1, rfl⟩
 ·rw [List.mem_singleton.mp hp]; exact ⟨_, I.2.2, rfl⟩
theorem Hd.keeps (H : Hd S h ad μ ν) (k : h.StaysIn h') : Hd S h' ad μ ν := by
 obtain ⟨m', nx, fz, F, N, l, R⟩ := H
 exact ⟨m', nx, fz, ⟨F.ns.keeps k, fun b o e => k _ _ (F.keep b o e), F.above⟩, fun p hp => ⟨k _ _ (N p hp).1, (N p hp).2⟩, l, R⟩
theorem Hd.ints (H : Hd S h ad μ ν) {ns : List Int} (hk : ν[kd]? = some (.ints ns)) (hl : ad[kd]? = some l) : ∃ vs nl, h.get? l = some (listOf vs.toArray nl) ∧ IntsAre vs ns ∧ S.h₀.get? l = none := by
 obtain ⟨m', nx, fz, F, N, lo, R⟩ := H
 (refine el_EEAAbEERe (R.own hk rfl) fun D o vs nl z09 => ?_; subst z09; intro e1 hi e3)
 obtain rfl := Option.some.inj (hl.symm.trans e1)
 have n := N _ (List.mem_append_left _ e3)
 exact ⟨vs, nl, n.1, hi, n.2.2⟩
theorem Rel.weakO {m : Str → Option Value} {nx fz : List (Addr × Obj)} (R : Rel S ad μ ν m nx fz) {k : Nat} {so so' : SO} (hk : ν[k]? = some so) (ho : so.own = true) (ho' : so'.own = true) (hi : ∀ a o, ad[k]? = some a → Is S.w S.h₀ fz ad so a o → Is S.w S.h₀ fz ad so' a o) : Rel S ad μ (ν.set k so') m nx fz := by
 refine el_EEAA (R.own hk ho) fun D o e1 eI e3 => ?_
 (refine el_EEr (List.append_of_mem e3) fun pre post z09 => ?_; subst z09)
 exact R.setO hk ho e1 o so' ho' (hi _ _ e1 eI)
theorem Hd.setO (H : Hd S h ad μ ν) {so so' : SO} {o' : Obj} (hk : ν[kd]? = some so) (ho : so.own = true) (ho' : so'.own = true) (hl : ad[kd]? = some l) (keep : ∀ b o, h.get? b = some o → b ≠ l → h'.get? b = some o) (e : h'.get? l = some o') (hi : ∀ w h₀ fz o, Is w h₀ fz ad so l o → Is w h₀ fz ad so' l o') : Hd S h' ad μ (ν.set kd so') := by
 obtain ⟨m', nx, fz, F, N, lo, R⟩ := H
 refine el_EEAA (R.own hk ho) fun D o e1 eI e3 => ?_
 obtain rfl := Option.some.inj (hl.symm.trans e1)
 (refine el_EEr (List.append_of_mem e3) fun pre post z09 => ?_; subst z09)
 have hn := nodup_split R.nod
 have nD := N _ (List.mem_append_left _ e3)
 refine el_EEEA (F.ns) fun oL es ep hL hr => ?_
 refine ⟨m', _, fz, ⟨⟨oL, es, ep, keep _ _ hL (Ne.symm nD.2.1), hr⟩, fun b o q => keep _ _ (F.keep b o q) (fun z => by rw [z, nD.2.2] at q; cases q), F.above⟩, fun p hp => ?_, lo, R.setO hk ho hl o' so' ho' (hi _ _ _ _ eI)⟩
 have kp : ∀ {q : Addr × Obj}, q ∈ ledg S (pre ++ (l, o) :: post) fz → q.1 ≠ l → h'.get? q.1 = some q.2 ∧ q.1 ≠ S.L ∧ S.h₀.get? q.1 = none := fun hq hne => ⟨keep _ _ (N _ hq).1 hne, (N _ hq).2⟩
 rcases List.mem_append.mp hp with hp | hp
 ·rcases List.mem_append.mp hp with hp | hp
  ·exact kp (List.mem_append_left _ (List.mem_append_left _ hp)) (hn.1 p hp)
  ·rcases List.mem_cons.mp hp with rfl | hp
   ·exact ⟨e, nD.2⟩
   ·exact kp (List.mem_append_left _ (List.mem_append_right _ (.tail _ hp))) (hn.2 p hp)
 ·exact kp (List.mem_append_right _ hp) (Ne.symm (R.off _ e3 p hp))
theorem Hd.setI (H : Hd S h ad μ ν) {ns ns' : List Int} (hk : ν[kd]? = some (.ints ns)) (hl : ad[kd]? = some l) (keep : ∀ b o, h.get? b = some o → b ≠ l → h'.get? b = some o) {ws : List Value} {nk : Nat} (e : h'.get? l = some (listOf ws.toArray nk)) (hi : IntsAre ws ns') : Hd S h' ad μ (ν.set kd (.ints ns')) :=
 H.setO hk rfl rfl hl keep e fun _ _ _ _ _ => ⟨ws, nk, rfl, hi⟩
end
end Mine
end
section
namespace Mine
open PySem PySem.W PySem.Calls PySem.Spec PyProof.Rows
section
variable {w : World} {ad : List Addr} {x : Str} {sv : SV} {v : Value} {t : Tok}
theorem FldE.app (r : Rp ad sv v) : ∀ {fs : List (Str × SV)} {es : List DictEntry}, FldE w ad fs es → FldE w ad (fs ++ [(x, sv)]) (es ++ [⟨PyData.keyHash w.params x, .str x t, v⟩]) := by
 intro fs
 induction fs with
 | nil => intro es h; cases (show es = [] from h); exact ⟨t, v, [], rfl, r, rfl⟩
 | cons p q ih => intro es q19; (refine el_EEERA q19 fun t' v' tl z09 => ?_; try clear q19; subst z09; intro h1 h2); exact ⟨t', v', _, rfl, h1, ih h2⟩
theorem isStr_ne {y : Str} (h : (x == y) = false) : Value.isStr (.str y t) x = false := by
 show (y == x) = false
 rw [beq_eq_false_iff_ne] at h ⊢
 exact Ne.symm h
theorem FldE.new {hsh : Int} {k u : Value} {n : Nat} : ∀ {fs : List (Str × SV)} {es : List DictEntry}, FldE w ad fs es → fs.lookup x = none → getL x es = some none ∧ putL x hsh k u es = es ++ [⟨hsh, k, u⟩] ∧ putN x es n = n + 1 ∧ es.length = fs.length := by
 intro fs
 induction fs with
 | nil => intro es h _; cases (show es = [] from h); exact ⟨rfl, rfl, rfl, rfl⟩
 | cons p q ih =>
  intro es q19; (refine el_EEERA q19 fun t' v' tl z09 => ?_; try clear q19; subst z09; intro h1 h2); intro hx
  rw [List.lookup_cons] at hx
  cases e : x == p.1 with
  | true => rw [e] at hx; cases hx
  | false =>
   rw [e] at hx
   refine el_AAA (ih h2 hx) fun i1 i2 i3 i4 => ?_
   have e' := isStr_ne (t := t') e
   refine ⟨?_, ?_, ?_, congrArg (· + 1) i4⟩
   ·unfold getL at i1 ⊢
    rw [List.find?_cons, e']
    exact i1
   ·unfold putL; rw [e', if_neg Bool.false_ne_true, i2]; rfl
   ·unfold putN at i3 ⊢; rw [List.any_cons, e']; exact i3
theorem FldE.look : ∀ {fs : List (Str × SV)} {es : List DictEntry}, FldE w ad fs es → fs.lookup x = some sv → ∃ v, getL x es = some (some v) ∧ Rp ad sv v := by
 intro fs
 induction fs with
 | nil => intro es _ h; cases h
 | cons p q ih =>
  intro es q19; (refine el_EEERA q19 fun t' v' tl z09 => ?_; try clear q19; subst z09; intro h1 h2); intro hx
  rw [List.lookup_cons] at hx
  cases e : x == p.1 with
  | true =>
   rw [e] at hx; cases hx
   refine ⟨v', ?_, h1⟩
   unfold getL
   rw [List.find?_cons, show Value.isStr (.str p.1 t') x = true from by rw [eq_of_beq e]; exact beq_self_eq_true _]
  | false =>
   rw [e] at hx
   refine el_EA (ih h2 hx) fun v i1 i2 => ?_
   refine ⟨v, ?_, i2⟩
   unfold getL at i1 ⊢
   rw [List.find?_cons, isStr_ne (t := t') e]
   exact i1
end
noncomputable def SetOk (x : Str) : Prop := ∀ w, findIn (H39 w) (.ref 164) "__setattr__" = some (some (.builtin "object.__setattr__")) ∧ plainOver (H39 w) 164 = true ∧ takerIn (H39 w) 164 x = some none ∧ hasDictIn (H39 w) 164 = true
noncomputable def GetOk (x : Str) : Prop := ∀ w, ∃ attr, plainGet (H39 w) 164 x = true ∧ hasDictIn (H39 w) 164 = true ∧ findIn (H39 w) (.ref 164) x = some attr ∧ noGet (H39 w) attr = true
section
variable {S : Sit} {s s' : Shared} {h h' : Heap} {ad : List Addr} {μ : Mu} {ν : Nu} {K : KF} {fm : Str → Option Value} {l : Nat} {t : T} {x : Str} {sv : SV} {v : Value} {x1 : Addr} {fs : List (Str × SV)} {kd j : Nat}
theorem seta_sound (O : Ok S) (H : Hd S s.heap ad μ ν) (hk : ν[kd]? = some (.fld x1 fs)) (hx : fs.lookup x = none) (hl : fs.length ≤ 100) (r : Rp ad sv v) (so : SetOk x) {Q : Unit → Shared → Prop} (hq : ∀ h' tk, Hd S h' ad μ (ν.set kd (.fld x1 (fs ++ [(x, sv)]))) → Q () { s with heap := h', toks := tk }) : wpS S (setAttr (.ref x1) x v) Q s := by
 obtain ⟨m', nx, fz, F, N, lo, R⟩ := H
 (refine el_EEEAAAbAEReA (R.upd hk rfl) fun D o f es z09 => ?_; subst z09; intro g1 g2 zx E g4 g5)
 refine el_AAA (so S.w) fun so1 so2 so3 so4 => ?_
 have e := E.new (hsh := PyData.keyHash S.w.params x) (k := .str x (s.toks + 1)) (u := v) (n := fs.length) hx
 refine set_dict (es' := es ++ [⟨PyData.keyHash S.w.params x, .str x (s.toks + 1), v⟩]) (n' := fs.length + 1) F O.rdy.1 N ⟨zx.get F N, rfl, rfl, (N _ (List.mem_append_left _ g2)).1⟩ rfl so1 so2 so3 so4 (by rw [e.1]; rfl) (by rw [e.2.1, e.2.2.1]) (updOf g4) (by rw [List.length_append, e.2.2.2, List.length_singleton]; exact Nat.lt_of_le_of_lt (by assumption) (by decide)) fun h' F' N' => hq h' _ ⟨m', _, fz, F', N', lo, g5 _ (.fld x1 (fs ++ [(x, sv)])) rfl ⟨zx, _, by rw [List.length_append]; rfl, E.app r⟩⟩
theorem loc_at (O : Ok S) {c e : Nat} (hj : μ[j]? = some (.v (.ref x1))) (H : Hd S s.heap ad μ ν) {Q : Value → Shared → Prop} (k : ∀ s' ad', At s s' → Le ad ad' → Hd S s'.heap ad' μ ν → Q (.ref x1) s') : wpS S (eval (.Name (nmL S.d.F j) ⟨l, c, l, e⟩) S.env) Q s :=
 bnd (loc_sound (l := l) (i := j) (c := c) (e := e) O (fun sv' μ2 ν2 => sv' = .v (.ref x1) ∧ μ2 = μ ∧ ν2 = ν) μ ν _ _ (by
   show (match μ[j]? with | some sv => knownK sv _ μ ν | none => False)
   rw [hj]; exact ⟨rfl, rfl, rfl⟩) H) fun v2 s2 ad2 sv2 μ2 ν2 a2 l2 H2 r2 ⟨e1, e2, e3⟩ => by
    subst e1 e2 e3
    cases (show v2 = .ref x1 from r2)
    exact k _ _ a2 l2 H2
theorem seta_st (O : Ok S) {c en tn e : Nat} (hc : t.isC = false) (so : SetOk x) {P : KP} (h : ev S.d t false (fun sv μ ν => μ[j]? = some (.v (.ref x1)) ∧ ∃ fs, ν[kd]? = some (.fld x1 fs) ∧ fs.lookup x = none ∧ fs.length ≤ 100 ∧ P μ (ν.set kd (.fld x1 (fs ++ [(x, sv)])))) μ ν) (H : Hd (S.at fm) s.heap ad μ ν) :
  wpS S (exec (.Assign [.Attribute (.Name (nmL S.d.F j) ⟨l, c, l, en⟩) x ⟨l, c, l, tn⟩] (t.raw l S.d) ⟨l, c, l, e⟩) S.env) (PN S s P) s :=
 plainObj_wpAny_Assign_Attribute (bnd (S := S.at fm) ((ev_sound l t _ (O.at fm)).1 _ _ _ _ _ h H) fun v s1 ad1 sv μ1 ν1 a1 l1 H1 r1 q => el_AEAAA q fun fs k1 k2 k3 k4 k5 =>
  loc_at (S := S.at fm) (O.at fm) k1 H1 fun s2 ad2 a2 l2 H2 => seta_sound (S := S.at fm) (O.at fm) H2 k2 k3 k4 (r1.up l2) so fun h' tk H3 => ⟨rfl, fm, ad2, _, _, (a1.trans a2).trans ⟨h', tk, rfl⟩, H3, k5⟩) (swap_no hc _ _ _)
theorem set3_st (O : Ok S) (hf : S.env.locals = S.L) {i j k : Nat} {p1 p2 p3 p : Pos} {P : KP} (h : ev S.d t false (fun sv => stoK i sv (stoK j sv (stoK k sv P))) μ ν) (H : Hd (S.at fm) s.heap ad μ ν) :
  wpS S (exec (.Assign [.Name (nmL S.d.F i) p1, .Name (nmL S.d.F j) p2, .Name (nmL S.d.F k) p3] (t.raw l S.d) p) S.env) (PN S s P) s :=
 wpAny_Assign_three (bnd (S := S.at fm) ((ev_sound l t _ (O.at fm)).1 _ _ _ _ _ h H) fun v s1 ad1 sv μ1 ν1 a1 l1 H1 r1 k1 =>
  assign_Name (sto_sound O hf k1 H1 r1 fun fm2 h2 tk2 μ2 H2 k2 => assign_Name (sto_sound (s := { s1 with heap := h2, toks := tk2 }) O hf k2 H2 r1 fun fm3 h3 tk3 μ3 H3 k3 => assign_Name (sto_sound (s := { s1 with heap := h3, toks := tk3 }) O hf k3 H3 r1 fun fm4 h4 tk4 μ4 H4 k4 =>
   ⟨rfl, fm4, ad1, μ4, ν1, a1.trans ⟨h4, tk4, rfl⟩, H4, k4⟩))))
noncomputable def ClsS (x z : Str) : Prop := ∀ w, ∃ mc t, typeIn (H39 w) (.ref 164) = some mc ∧ readsIn (H39 w) 164 mc = true ∧ findCls (H39 w) (.ref 164) mc x = some (.val (.str z t))
theorem clsS_at (O : Ok S) {xw z : Str} {q1 q2 : Pos} (hg : (xw, Value.ref 164) ∈ S.d.F.gt) (ca : ClsS x z) (H : Hd S s.heap ad μ ν) {Q : Value → Shared → Prop} (k : ∀ t tk, Q (.str z t) { s with toks := tk }) : wpS S (eval (.Attribute (.Name xw q1) x q2) S.env) Q s := by
 refine PyProof.Rows.Attribute_Name_ (ev_glo O hg (Q := fun o s₁ => wpS S (getAttr o x true) Q s₁) ?_ H)
 refine el_EEAA (ca S.w) fun mc t c1 c2 c3 => ?_
 obtain ⟨m', nx, fz, F, N, lo, R⟩ := H
 exact cls_val F O.rdy.1 c1 c2 c3 rfl (k t _)
theorem unpC_st (O : Ok S) (hf : S.env.locals = S.L) {i j : Nat} {xw a b z1 z2 : Str} {q1 q2 q3 q4 q5 q6 q7 q8 q9 : Pos} (hg : (xw, Value.ref 164) ∈ S.d.F.gt) (ca : ClsS a z1) (cb : ClsS b z2)
  (hs : swapsWithSole [.Tuple [.Name (nmL S.d.F i) q1, .Name (nmL S.d.F j) q2] 0 q3] (.Tuple [.Attribute (.Name xw q4) a q5, .Attribute (.Name xw q6) b q7] 0 q8) q9.line S.env = pure false)
  (hw : swappedStores [.Tuple [.Name (nmL S.d.F i) q1, .Name (nmL S.d.F j) q2] 0 q3] (.Tuple [.Attribute (.Name xw q4) a q5, .Attribute (.Name xw q6) b q7] 0 q8) S.env = pure (some [nmL S.d.F i, nmL S.d.F j]))
  {P : KP} (h : stoK j (.s z2) (stoK i (.s z1) P) μ ν) (H : Hd (S.at fm) s.heap ad μ ν) :
  wpS S (exec (.Assign [.Tuple [.Name (nmL S.d.F i) q1, .Name (nmL S.d.F j) q2] 0 q3] (.Tuple [.Attribute (.Name xw q4) a q5, .Attribute (.Name xw q6) b q7] 0 q8) q9) S.env) (PN S s P) s := by
 refine Assign_Tuple_swapped (Tuple_ (args_cons (clsS_at (S := S.at fm) (O.at fm) hg ca H fun t1 tk1 => args_cons (clsS_at (S := S.at fm) (s := { s with toks := tk1 }) (O.at fm) hg cb H fun t2 tk2 => args_nil ?_)))) hs hw
 obtain ⟨m', nx, fz, F, N, lo, R⟩ := H
 refine kup_newTuple (s := { s with toks := tk2 }) F N (fun D h1 F1 N1 lt => ?_) (by rw [sizeLine_eq]; show 2 ≤ 16777216; decide)
 refine unpackItemsN_ (s := { s with heap := h1, toks := tk2 }) F1 (fun p hp => N1 p (List.mem_cons_of_mem _ hp)) ⟨_, (N1 _ List.mem_cons_self).1, rfl, _, rfl⟩ O.hnd rfl fun h2 F2 N2 => ?_
 refine assignInOrder_cons (bindName_ (sto_sound (s := { s with heap := h2, toks := tk2 }) O hf h (⟨m', nx, fz, F2, N2, lo, R⟩ : Hd (S.at fm) h2 ad μ ν) ⟨t2, rfl⟩ fun fm3 h3 tk3 μ3 H3 k3 => ?_))
 exact assignInOrder_cons (bindName_ (sto_sound (s := { s with heap := h3, toks := tk3 }) O hf k3 H3 ⟨t1, rfl⟩ fun fm4 h4 tk4 μ4 H4 k4 => assignInOrder_nil ⟨rfl, fm4, ad, μ4, ν, ⟨h4, tk4, rfl⟩, H4, k4⟩))
noncomputable def chrAt (z : Str) (n : Nat) : SV := .s ⟨#[(z.cps[n]?).getD 0]⟩
theorem forS_st (O : Ok S) (hf : S.env.locals = S.L) {b : B} (Ib : BlAll S.d b) {i c en : Nat} {px p2 p : Pos} {KN : KP} {z : Str} (go : GetOk x) (hj : μ[j]? = some (.v (.ref x1))) (hk : ν[kd]? = some (.fld x1 fs)) (hx : fs.lookup x = some (.s z)) (h : forGK S.d.F (fun n Q => Q (chrAt z n)) (stoK i) z.cps.size (st S.d b) KN KN K μ ν) (H : Hd (S.at fm) s.heap ad μ ν) :
  wpS S (exec (.For (.Name (nmL S.d.F i) px) (.Attribute (.Name (nmL S.d.F j) ⟨l, c, l, en⟩) x p2) (b.raw S.d) [] p) S.env) (PS S s (LoopQ KN K)) s := by
 refine wpAny_For (PyProof.Rows.Attribute_Name_ (loc_at (S := S.at fm) (O.at fm) hj H fun s2 ad2 a2 l2 H2 => ?_)) (fun _ => rfl)
 refine el_EAAA (go S.w) fun attr o1 o2 o3 o4 => ?_
 obtain ⟨m', nx, fz, F, N, lo, R⟩ := H2
 (refine el_EEEAAAbAEReA (R.upd hk rfl) fun D o f es z09 => ?_; subst z09; intro g1 g2 zx E g4 g5)
 (refine el_EAEr (E.look hx) fun v tz z09 => ?_; subst z09; intro e1)
 refine get_own F O.rdy.1 ⟨zx.get (S := S.at fm) F N, rfl, rfl, (N _ (List.mem_append_left _ g2)).1⟩ o1 o2 o3 o4 e1 rfl ?_
 have key : ∀ (oI : Obj) (St : Nat → Heap → Prop), Walks P0 S.w S.A s2.heap.objs.size [s2.heap.objs.size] [s2.heap.objs.size] z.cps.size (SignAt z) St → St 0 (s2.heap.push oI) → (∀ i h, St i h → ∃ o, h.get? s2.heap.objs.size = some o) →
   codeAny (model P0 S.w) S.A (.forLoop (.Name (nmL S.d.F i) px) (.ref s2.heap.objs.size) (b.raw S.d) [] S.env) (RL' S s (LoopQ KN K)) { s2 with heap := s2.heap.push oI, toks := s2.toks + 1 } := fun oI St W hst hob => by
  refine el_AAAA (fresh_I (s1 := s2) (o := oI) F N) fun i1 i2 i3 F2 N2 => ?_
  exact forG_core (s1 := { s2 with heap := s2.heap.push oI, toks := s2.toks + 1 }) O hf (sto_ok O i) (fun S' O' e1 e2 e3 => Ib S' O' e1 e3) nil_bl W hob hst i1 i2 i3 F2 N2 lo R (fun b hb hne => absurd (List.mem_singleton.mp hb) hne) (fun i v hi hP S' h ad μ ν Q _ _ H q => by
   (refine el_EEAr hP fun c u z09 => ?_; try clear hP; subst z09; intro hc)
   refine ⟨chrAt z i, ad, ν, H, ⟨u, ?_⟩, q⟩
   rw [hc]; rfl) h (fun _ _ x => x) (a2.trans ⟨_, _, rfl⟩)
 cases ha : z.cps.all (· < 128)
 ·exact wpAny_pyIter_wide ha (key _ _ (Walks.strWide O.hnd _ z tz) ⟨_, Heap.get?_push_size _ rfl, rfl, rfl⟩ fun i h st => let ⟨o, e, _⟩ := st; ⟨o, e⟩)
 ·exact wpAny_pyIter_ascii ha (key _ _ (Walks.strAscii O.hnd _ z tz) ⟨_, Heap.get?_push_size _ rfl, rfl, rfl⟩ fun i h st => let ⟨o, e, _⟩ := st; ⟨o, e⟩)
theorem Hd.giveL (H : Hd S h ad μ ν) (st : ∀ b o, h.get? b = some o → b ≠ S.L → h'.get? b = some o) (sn : h.Ns S.L S.fm → h'.Ns S.L S.fm) {ext : List (Addr × Obj)} (he : ∀ q ∈ ext, h'.get? q.1 = some q.2 ∧ h.get? q.1 = none) {so : SO} (ho : so.own = false) {a : Addr} {o : Obj} (hm : (a, o) ∈ ext) (hI : ∀ h₀ fz, (∀ q ∈ ext, q ∈ fz) → Is S.w h₀ fz (ad ++ [a]) so a o) : Hd S h' (ad ++ [a]) μ (ν ++ [so]) := by
 obtain ⟨m', nx, fz, F, N, l, R⟩ := H
 have off : ∀ p ∈ ledg S nx fz, ∀ q ∈ ext, p.1 ≠ q.1 := fun p hp q hq e => by
  have := (he q hq).2
  rw [← e, (N p hp).1] at this; cases this
 have inl : ∀ q ∈ ext, q ∈ ext ++ fz := fun q hq => List.mem_append_left _ hq
 refine ⟨m', nx, ext ++ fz, ⟨sn F.ns, fun b o e => st _ _ (F.keep b o e) (fun q => by rw [q, kts_self F] at e; cases e), F.above⟩, fun p hp => ?_, l, R.add (fun _ h => List.mem_append_right _ h) (fun _ => hI _ _ inl) (by rw [if_neg (by rw [ho]; exact Bool.false_ne_true)]; exact ⟨rfl, .inr ⟨fun _ => inl _ hm, .inr (inl _ hm)⟩⟩) (fun p hp q hq => ?_) (fun p hp q hq => ?_)⟩
 ·simp only [ledg, List.mem_append] at hp
  rcases hp with hp | (hp | hp) | hp
  ·have n := N p (List.mem_append_left _ hp); exact ⟨st _ _ n.1 n.2.1, n.2⟩
  ·refine ⟨(he p hp).1, fun e => ?_, ?_⟩
   ·refine el_EEEA (F.ns) fun oL es ep hL _ => ?_
    have := (he p hp).2
    rw [e, hL] at this; cases this
   ·cases q : S.h₀.get? p.1 with
    | none => rfl
    | some o => have := (he p hp).2; rw [F.keep _ _ q] at this; cases this
  ·have n := N p (List.mem_append_right _ (List.mem_append_left _ hp)); exact ⟨st _ _ n.1 n.2.1, n.2⟩
  ·have n := N p (List.mem_append_right _ (List.mem_append_right _ hp)); exact ⟨st _ _ n.1 n.2.1, n.2⟩
 ·rw [List.append_assoc] at hq
  rcases List.mem_append.mp hq with hq | hq
  ·exact off p (List.mem_append_left _ hp) q hq
  ·exact R.off p hp q hq
 ·rcases List.mem_append.mp hp with hp | hp
  ·exact Ne.symm (off q (List.mem_append_right _ (List.mem_append_right _ hq)) p hp)
  ·exact R.offz p hp q hq
theorem Hd.give (H : Hd S h ad μ ν) (st : h.StaysIn h') {ext : List (Addr × Obj)} (he : ∀ q ∈ ext, h'.get? q.1 = some q.2 ∧ h.get? q.1 = none) {so : SO} (ho : so.own = false) {a : Addr} {o : Obj} (hm : (a, o) ∈ ext) (hI : ∀ h₀ fz, (∀ q ∈ ext, q ∈ fz) → Is S.w h₀ fz (ad ++ [a]) so a o) : Hd S h' (ad ++ [a]) μ (ν ++ [so]) :=
 H.giveL (fun b o e _ => st b o e) (fun n => n.keeps st) he ho hm hI
end
end Mine
end
section
namespace Mine
open PySem PySem.W PySem.Calls PySem.Spec PyProof.Rows
noncomputable def fn_ist : Fn := { ns := [Str.ofString "x"], gt := [(Str.ofString "NT_OFFSET", .int 256 294)] }
noncomputable def bl_ist : B := (.ret (.cmp .lt (.loc 0 11 12) (.glo 0 15 24) 11 24) 57 4 24 .nil)
noncomputable abbrev d_ist : Df := { F := fn_ist, D := [], C := lookC [] }
noncomputable def C_ist : Co := fun vs ν K => a1 vs fun a => wI a fun x => K (.b (decide (x < 256))) ν
theorem good_ist : Good 31 800 8000 C_ist :=
 goodX (b := bl_ist) (F := fn_ist) (Ds := d_ist.D) (Cl := []) [Str.ofString "x"] [] (fun _ => rfl) (fun _ => rfl) (by decide) (by decide) (fun s pos h => by obtain ⟨a, rfl⟩ := ex1 h; exact .of_eq rfl) rfl (by decide) rfl rfl rfl rfl (fun _ => ⟨⟨rfl, rfl⟩, trivial⟩) (by decide) List.nodup_nil (fun _ => trivial) trivial 0 rfl fun vs ν K h => by
  (refine el_ER (a1_inv h) fun a z09 => ?_; subst z09; intro h)
  (refine el_ER (wI_inv h) fun x z09 => ?_; subst z09; intro h)
  exact ⟨rfl, rfl, (fun _ h => nomatch h), fun tb e => by cases e; exact ⟨trivial, h⟩⟩
noncomputable def fn_ins : Fn := { ns := [Str.ofString "x"], gt := [(Str.ofString "NT_OFFSET", .int 256 294)] }
noncomputable def bl_ins : B := (.ret (.cmp .ge (.loc 0 11 12) (.glo 0 16 25) 11 25) 59 4 25 .nil)
noncomputable abbrev d_ins : Df := { F := fn_ins, D := [], C := lookC [] }
noncomputable def C_ins : Co := fun vs ν K => a1 vs fun a => wI a fun x => K (.b (decide (256 ≤ x))) ν
theorem good_ins : Good 38 800 8000 C_ins :=
 goodX (b := bl_ins) (F := fn_ins) (Ds := d_ins.D) (Cl := []) [Str.ofString "x"] [] (fun _ => rfl) (fun _ => rfl) (by decide) (by decide) (fun s pos h => by obtain ⟨a, rfl⟩ := ex1 h; exact .of_eq rfl) rfl (by decide) rfl rfl rfl rfl (fun _ => ⟨⟨rfl, rfl⟩, trivial⟩) (by decide) List.nodup_nil (fun _ => trivial) trivial 0 rfl fun vs ν K h => by
  (refine el_ER (a1_inv h) fun a z09 => ?_; subst z09; intro h)
  (refine el_ER (wI_inv h) fun x z09 => ?_; subst z09; intro h)
  exact ⟨rfl, rfl, (fun _ h => nomatch h), fun tb e => by cases e; exact ⟨trivial, h⟩⟩
noncomputable def fn_ise : Fn := { ns := [Str.ofString "x"], gt := [(Str.ofString "ENDMARKER", .int 0 196)] }
noncomputable def bl_ise : B := (.ret (.cmp .eq (.loc 0 11 12) (.glo 0 16 25) 11 25) 61 4 25 .nil)
noncomputable abbrev d_ise : Df := { F := fn_ise, D := [], C := lookC [] }
noncomputable def C_ise : Co := fun vs ν K => a1 vs fun a => wI a fun x => K (.b (decide (x = 0))) ν
theorem good_ise : Good 45 800 8000 C_ise :=
 goodX (b := bl_ise) (F := fn_ise) (Ds := d_ise.D) (Cl := []) [Str.ofString "x"] [] (fun _ => rfl) (fun _ => rfl) (by decide) (by decide) (fun s pos h => by obtain ⟨a, rfl⟩ := ex1 h; exact .of_eq rfl) rfl (by decide) rfl rfl rfl rfl (fun _ => ⟨⟨rfl, rfl⟩, trivial⟩) (by decide) List.nodup_nil (fun _ => trivial) trivial 0 rfl fun vs ν K h => by
  (refine el_ER (a1_inv h) fun a z09 => ?_; subst z09; intro h)
  (refine el_ER (wI_inv h) fun x z09 => ?_; subst z09; intro h)
  exact ⟨rfl, rfl, (fun _ h => nomatch h), fun tb e => by cases e; exact ⟨trivial, h⟩⟩
end Mine
end
section
namespace Mine
open PySem PySem.W PySem.Calls PySem.Spec PyProof.Rows
noncomputable def fn_wei : Fn := { ns := [Str.ofString "parts", Str.ofString "size", Str.ofString "weights", Str.ofString "part", Str.ofString "copies"] }
noncomputable def bl_wei : B := (.set 2 (.bin .mul (.lst (.int 0 15 16) 14 17) (.int 10 20 22) 14 22) 282 4 11 22 (.forL 3 (.loc 0 16 21) (.set 4 (.int 1 17 18) 284 8 14 18 (.whl (.cmp .eq (.bin .mod (.loc 3 14 18) (.loc 1 21 25) 14 25) (.int 0 29 30) 14 30) (.aug 3 .div (.loc 1 21 25) 286 12 16 25 (.aug 4 .mul (.loc 1 22 26) 287 12 18 26 .nil)) 285 8 287 26 (.augs (.loc 2 8 15) (.loc 3 16 20) .add (.loc 4 25 31) 288 8 21 31 .nil))) 283 4 8 12 288 31 (.whl (.cmp .eq (.last (.loc 2 10 17) 18 20 19 10 21) (.int 0 25 26) 10 26) (.expr (.m0 .pop (.loc 2 8 15) 19 8 21) 290 8 21 .nil) 289 4 290 21 (.ret (.loc 2 11 18) 291 4 18 .nil))))
noncomputable abbrev d_wei : Df := { F := fn_wei }
theorem sum_set (gs : List Int) : ∀ (k : Nat) (a : Int), k < gs.length → (gs.set k a).sum = gs.sum - gs.getD k 0 + a := by
 induction gs with
 | nil => intro _ _ h; cases h
 | cons g r ih =>
  intro k a h
  cases k with
  | zero => rw [List.set_cons_zero, List.sum_cons, List.sum_cons, List.getD_cons_zero]; lia
  | succ k => rw [List.set_cons_succ, List.sum_cons, List.sum_cons, List.getD_cons_succ, ih k a (Nat.lt_of_succ_lt_succ h)]; lia
theorem dvm {z l : Int} (hz : z = 2 ∨ z = 3) (h : 0 < l) : (0 < z ∧ z < 1073741824) ∧ 0 ≤ l / z ∧ l / z < l ∧ 0 ≤ l % z ∧ l % z + l / z ≤ l := by
 have z0 : 0 < z := by lia
 have h1 := Int.emod_nonneg l (Int.ne_of_gt z0)
 have h2 := Int.ediv_nonneg (Int.le_of_lt h) (Int.le_of_lt z0)
 have h3 := Int.mul_ediv_add_emod l z
 have h4 : 2 * (l / z) ≤ z * (l / z) := Int.mul_le_mul_of_nonneg_right (by lia) h2
 rw [← h3] at h
 generalize e : z * (l / z) = w at *
 generalize l / z = q at *
 generalize l % z = r at *
 exact ⟨⟨z0, by lia⟩, h2, by omega, h1, by lia⟩
theorem wei_a {z y c : Int} (hz : z = 2 ∨ z = 3) (k1 : 1 ≤ y) (k2 : y ≤ 9) (k3 : 1 ≤ c) (k5 : c * y ≤ 9) (hm : y % z = 0) : (0 < z ∧ z < 1073741824) ∧ 1 ≤ y / z ∧ y / z ≤ 9 ∧ (y / z).toNat < y.toNat ∧ 1 ≤ c * z ∧ c * z * (y / z) ≤ 9 := by
 have a := dvm hz k1
 have d := Int.dvd_of_emod_eq_zero hm
 refine ⟨a.1, Int.ediv_pos_of_pos_of_dvd k1 (Int.le_of_lt a.1.1) d, Int.le_trans (Int.le_of_lt a.2.2.1) k2, (Int.toNat_lt_toNat k1).mpr a.2.2.1, Int.mul_pos k3 a.1.1, ?_⟩
 rw [Int.mul_assoc, Int.mul_ediv_cancel' d]; exact k5
theorem wei_b {z y c : Int} (hz : z = 2 ∨ z = 3) (k1 : 1 ≤ y) (hm : y % z = 0) : red z (y / z) (c * z) = red z y c := by rw [red.eq_1 z y c, if_pos ⟨by lia, k1, hm⟩]
theorem take_getD {ns : List Int} {i : Nat} (h : i < ns.length) : ns.take (i + 1) = ns.take i ++ [ns.getD i 0] := by rw [List.take_add_one, List.getD_eq_getElem?_getD, List.getElem?_eq_getElem h]; rfl
theorem wei_c {ns gs : List Int} {z y c : Int} {i : Nat} (hi : i < ns.length) (h1 : gs.length = 10) (h2 : gs = (ns.take i).foldl (wStep z) (List.replicate 10 0)) (h3 : (i : Int) ≤ gs.sum) (k1 : 1 ≤ y) (k2 : y ≤ 9) (k3 : 1 ≤ c) (e : red z y c = red z (ns.getD i 0) 1) (hm : ¬ y % z = 0) :
  (gs.set y.toNat (gs.getD y.toNat 0 + c)).length = 10 ∧ gs.set y.toNat (gs.getD y.toNat 0 + c) = (ns.take (i + 1)).foldl (wStep z) (List.replicate 10 0) ∧ ((i + 1 : Nat) : Int) ≤ (gs.set y.toNat (gs.getD y.toNat 0 + c)).sum := by
 rw [red.eq_1 z y c, if_neg (fun h => hm h.2.2)] at e
 refine ⟨by rw [List.length_set]; exact h1, ?_, ?_⟩
 ·rw [take_getD hi, List.foldl_append, ← h2]
  show _ = wStep z gs _
  unfold wStep
  rw [← e]
 ·rw [sum_set gs y.toNat _ (by lia)]; lia
theorem wei_d {gs : List Int} (h : 1 ≤ gs.sum) : 1 ≤ gs.length := by cases gs with | nil => cases h | cons a r => exact Nat.succ_le_succ (Nat.zero_le _)
theorem wei_e {gs : List Int} (h : 1 ≤ gs.length) : gs = gs.dropLast ++ [gs.getD (gs.length - 1) 0] := by
 rcases List.eq_nil_or_concat gs with rfl | ⟨l, a, rfl⟩
 ·cases h
 ·simp
theorem wei_f {gs : List Int} (h : 1 ≤ gs.sum) (hm : gs.getD (gs.length - 1) 0 = 0) : gs.dropLast.length < gs.length ∧ 1 ≤ gs.dropLast.sum ∧ trim gs.dropLast = trim gs := by
 have e := wei_e (wei_d h)
 rw [hm] at e
 refine ⟨by rw [List.length_dropLast]; have := wei_d h; omega, ?_, ?_⟩
 ·rw [e, List.sum_append] at h; simpa using h
 ·rw [trim.eq_1 gs, if_pos (by rw [e]; simp)]
theorem wei_g {gs : List Int} (h : 1 ≤ gs.sum) (hm : ¬ gs.getD (gs.length - 1) 0 = 0) : gs = trim gs := by
 rw [trim.eq_1 gs, if_neg (by rw [wei_e (wei_d h)]; simpa using hm)]
theorem wei_st {ns : List Int} {z : Int} {P : SV → Nu → Prop} (hb : ∀ x ∈ ns, 1 ≤ x ∧ x ≤ 9) (hne : ns ≠ []) (hz : z = 2 ∨ z = 3) (hP : ∀ k ν', ν'[k]? = some (.ints (weiF z ns)) → P (.o k) ν') :
  st d_wei bl_wei (retK P) [.o 0, .i z, .u, .u, .u] [.ro ns] := by
 refine ⟨by decide, for1 (fun gs => [.o 0, .i z, .o 2, .u, .u]) (fun gs => [.ro ns, .junk, .ints gs]) (fun i gs => gs.length = 10 ∧ gs = (ns.take i).foldl (wStep z) (List.replicate 10 0) ∧ (i : Int) ≤ gs.sum) (in1 [true, true, true, false, false] [true, false, true] _ rfl rfl rfl ⟨rfl, rfl, Int.le_refl 0⟩) (fun i gs hi h => ?_) fun gs h => ?_⟩
 ·have hx := hb _ (getD_mem hi)
  refine whl2 (fun y c => [.o 0, .i z, .o 2, .i y, .i c]) (fun _ _ => [.ro ns, .junk, .ints gs]) (fun n y c => n = y.toNat ∧ 1 ≤ y ∧ y ≤ 9 ∧ 1 ≤ c ∧ c * y ≤ 9 ∧ red z y c = red z (ns.getD i 0) 1) _ (in2 [true, true, true, true, true] [true, false, true] _ _ rfl rfl rfl ⟨rfl, hx.1, hx.2, Int.le_refl 1, by rw [Int.one_mul]; exact hx.2, rfl⟩) fun n y c k => ?_
  refine ⟨by lia, fun hm => ?_, fun hm => ?_⟩
  ·have a := wei_a hz k.2.1 k.2.2.1 k.2.2.2.1 k.2.2.2.2.1 hm
   exact ⟨a.1, IntMulOk.of_right (intBits_le_64 (by omega) (by omega)), turn2 _ [true, true, true, true, true] [true, false, true] _ _ (k.1 ▸ a.2.2.2.1) rfl rfl rfl ⟨rfl, a.2.1, a.2.2.1, a.2.2.2.2.1, a.2.2.2.2.2, (wei_b hz k.2.1 hm).trans k.2.2.2.2.2⟩⟩
  ·have q : 0 ≤ y ∧ y < gs.length ∧ gs.length ≤ 16000000 := by rw [h.1]; exact ⟨Int.le_of_lt k.2.1, Int.lt_of_le_of_lt k.2.2.1 (by decide), by decide⟩
   exact ⟨q, q, in1 [true, true, true, false, false] [true, false, true] _ rfl rfl rfl (wei_c hi h.1 h.2.1 h.2.2 k.2.1 k.2.2.1 k.2.2.2.1 k.2.2.2.2.2 hm)⟩
 ·have h2 := h.2.1
  rw [List.take_length] at h2
  have hl : 0 < ns.length := List.length_pos_iff.mpr hne
  refine whl1 (fun _ => [.u, .u, .o 2, .u, .u]) (fun gs => [.junk, .junk, .ints gs]) (fun n gs => n = gs.length ∧ gs.length ≤ 10 ∧ 1 ≤ gs.sum ∧ trim gs = weiF z ns) _ (in1 [false, false, true, false, false] [false, false, true] gs rfl rfl rfl ⟨rfl, Nat.le_of_eq h.1, by have := h.2.2; lia, by rw [h2]; rfl⟩) fun n gs k => ?_
  have q : 1 ≤ gs.length ∧ gs.length ≤ 16000000 := ⟨wei_d k.2.2.1, by have := k.2.1; exact Nat.le_trans (by assumption) (by decide)⟩
  refine ⟨q, fun hm => ⟨q, ?_⟩, fun hm => hP _ _ (show some _ = some _ from congrArg (fun x => some (SO.ints x)) ((wei_g k.2.2.1 hm).trans k.2.2.2))⟩
  have a := wei_f k.2.2.1 hm
  exact turn1 _ [false, false, true, false, false] [false, false, true] _ (k.1 ▸ a.1) rfl rfl rfl ⟨rfl, Nat.le_trans (Nat.le_of_lt a.1) k.2.1, a.2.1, a.2.2.trans k.2.2.2⟩
end Mine
end
section
namespace Mine
open PySem PySem.W PySem.Calls PySem.Spec PyProof.Rows
noncomputable def C_wei : Co := fun vs ν K => a2 vs fun a b => wL a ν fun ns => wI b fun z => ((∀ x ∈ ns, 1 ≤ x ∧ x ≤ 9) ∧ ns ≠ [] ∧ (z = 2 ∨ z = 3)) ∧ K (.o ν.length) (ν ++ [.ro (weiF z ns)])
theorem good_wei : Good 206 500 5000 C_wei :=
 goodX (b := bl_wei) (F := fn_wei) (Ds := []) (Cl := []) [Str.ofString "parts", Str.ofString "size"] [] (fun _ => rfl) (fun _ => rfl) (by decide) (by decide) (fun s pos h => by (refine el_EEr (ex2 h) fun a b z09 => ?_; subst z09); exact .of_eq rfl) rfl (by decide) rfl rfl rfl rfl (fun _ => trivial) (by decide) List.nodup_nil (fun _ => trivial) trivial 1 rfl fun vs ν K h => by
  (refine el_EER (a2_inv h) fun a b z09 => ?_; subst z09; intro h)
  (refine el_EERA (wL_inv h) fun k ns z09 => ?_; subst z09; intro hk h)
  (refine el_ER (wI_inv h) fun z z09 => ?_; subst z09; intro h)
  refine ⟨rfl, rfl, (fun _ h => nomatch h), ?_⟩
  rintro tb rfl
  show st _ _ _ [.o 0, .i z, .u, .u, .u] [impK ν k]
  rw [roI hk]
  exact wei_st h.1.1 h.1.2.1 h.1.2.2 fun k ν' e => ⟨trivial, dvI e h.2⟩
end Mine
end
section
namespace Mine
open PySem PySem.W PySem.Calls PySem.Spec PyProof.Rows
noncomputable def fn_lea : Fn := { ns := [Str.ofString "parts"], cs := [(1, Str.ofString "fewer")] }
noncomputable def cd_lea0 : CD := { x := Str.ofString "part", c := 52, e := 56, sc := {kind := ScopeKind.function, names := [ (Str.ofString ".0", NameKind.local), (Str.ofString "part", NameKind.local), (Str.ofString "fewer", NameKind.free)], isGenerator := false, isCoroutine := false, more := []}, F := { ns := [Str.ofString "part"], cs := [(1, Str.ofString "fewer")] } }
noncomputable def bl_lea : B := (.ret (.m1 .join (.str (Str.ofString "") 11 13) (.comp .strs 0 (.bin .add (.bin .mul (.str (Str.ofString " ") 20 23) (.bin .sub (.loc 0 27 31) (.cel 0 34 39) 27 39) 20 40) (.str (Str.ofString "\t") 43 47) 20 47) (.loc 0 60 65) 19 66) 18 11 67) 326 4 67 .nil)
noncomputable abbrev d_lea : Df := { F := fn_lea, D := [cd_lea0], C := lookC [] }
noncomputable def leadS (f : Int) (ns : List Int) : Str := Txt.join (Str.ofString "") (ns.map (leadEl f))
noncomputable def C_lea : Co := fun vs ν K => a2 vs fun a b => wL a ν fun ns => wI b fun f => ((∀ x ∈ ns, 1 ≤ x ∧ x ≤ 9) ∧ ns.length ≤ 200 ∧ (f = 0 ∨ f = 1)) ∧ K (.s (leadS f ns)) ν
theorem lea_a {ns : List Int} {f : Int} (h : (∀ x ∈ ns, 1 ≤ x ∧ x ≤ 9) ∧ ns.length ≤ 200 ∧ (f = 0 ∨ f = 1)) : ((ns.map (leadEl f)).map (·.length)).sum + (ns.map (leadEl f)).length * 0 ≤ 16777216 := by
 have : ∀ ms : List Int, (∀ x ∈ ms, 1 ≤ x ∧ x ≤ 9) → ((ms.map (leadEl f)).map (·.length)).sum ≤ 10 * ms.length := by
  intro ms
  induction ms with
  | nil => intro _; exact Nat.le_refl _
  | cons a r ih =>
   intro hb
   have h1 := ih fun x hx => hb x (List.mem_cons_of_mem _ hx)
   have h2 := hb a List.mem_cons_self
   rw [List.map_cons, List.map_cons, List.sum_cons, leadEl_length, List.length_cons]
   exact lea_e h1 h2.2 (h.2.2.elim (fun e => e ▸ Int.le_refl 0) fun e => e ▸ (by decide))
 rw [Nat.mul_zero]
 exact Nat.le_trans (this ns h.1) (Nat.le_trans (Nat.mul_le_mul_left 10 h.2.1) (by decide))
theorem lea_b {f x : Int} (h : (x - f).toNat ≤ 10) : (Txt.mul (Str.ofString " ") (x - f)).length + (Str.ofString "\t").length ≤ 16777216 := by
 have e : (leadEl f x).length = (Txt.mul (Str.ofString " ") (x - f)).length + (Str.ofString "\t").length := by
  show Array.size (_ ++ _) = _
  rw [Array.size_append]; rfl
 rw [← e, leadEl_length]; exact Nat.lt_of_le_of_lt (by assumption) (by decide)
theorem good_lea : Good 235 500 5000 C_lea :=
 goodX (b := bl_lea) (F := fn_lea) (Ds := d_lea.D) (Cl := []) [Str.ofString "parts", Str.ofString "fewer"] [] (fun _ => rfl) (fun _ => rfl) (by decide) (by decide) (fun s pos h => by (refine el_EEr (ex2 h) fun a b z09 => ?_; subst z09); exact .of_eq rfl) rfl (by decide) rfl rfl rfl rfl (fun _ => trivial) (by decide) List.nodup_nil (fun _ => ⟨⟨_, rfl, rfl, rfl, fun _ => trivial, ⟨⟨(.head _), rfl⟩, trivial⟩⟩, trivial⟩) trivial 1 rfl fun vs ν K h => by
  (refine el_EER (a2_inv h) fun a b z09 => ?_; subst z09; intro h)
  (refine el_EERA (wL_inv h) fun k ns z09 => ?_; subst z09; intro hk h)
  (refine el_ER (wI_inv h) fun f z09 => ?_; subst z09; intro h)
  refine ⟨rfl, rfl, (fun _ h => nomatch h), fun tb e => ?_⟩
  cases e
  show st d_lea bl_lea _ [.o 0] [impK ν k, .cell (.i f)]
  rw [roI hk]
  have hb := h.1
  refine ⟨by have := hb.2.1; exact Nat.le_trans (by assumption) (by decide), fun i => leadEl f (ns.getD i 0), fun i hi => ?_, ?_⟩
  ·have := hb.1 _ (getD_mem hi)
   exact ⟨⟨show (1 : Nat) ≤ 16 by decide, by omega, by omega⟩, lea_b (by omega), rfl⟩
  ·rw [map_getD]
   exact ⟨lea_a hb, trivial, h.2⟩
end Mine
end
section
namespace Mine
open PySem PySem.W PySem.Calls PySem.Spec PyProof.Rows
noncomputable def fn_oct : Fn := { ns := [Str.ofString "numbers", Str.ofString "number", Str.ofString "figures"], cs := [(1, Str.ofString "octets")], bi := [.range, .len] }
noncomputable def cd_oct0 : CD := { x := Str.ofString "k", c := 42, e := 43, sc := {kind := ScopeKind.function, names := [ (Str.ofString ".0", NameKind.local), (Str.ofString "k", NameKind.local), (Str.ofString "octets", NameKind.free)], isGenerator := false, isCoroutine := false, more := []}, F := { ns := [Str.ofString "k"], cs := [(1, Str.ofString "octets")] } }
noncomputable def bl_oct : B := (.setc 0 (.nil false 13 15) 218 4 10 15 (.forL 1 (.loc 0 18 25) (.set 2 (.lst (.bin .mod (.loc 1 19 25) (.int 64 28 30) 19 30) 18 31) 220 8 15 31 (.whl (.cmp .ge (.loc 1 14 20) (.int 64 24 26) 14 26) (.aug 1 .div (.int 64 23 25) 222 12 18 25 (.expr (.m1 .append (.loc 2 12 19) (.bin .add (.bin .mod (.loc 1 27 33) (.int 64 36 38) 27 38) (.int 64 41 43) 27 43) 26 12 44) 223 12 44 .nil)) 221 8 223 44 (.expr (.m1 .extend (.cel 0 8 14) (.srev (.loc 2 22 29) 33 30 34 22 35) 21 8 36) 224 8 36 .nil))) 219 4 8 14 224 36 (.ret (.compR .ints 0 (.bin .add (.sub (.cel 0 12 18) (.loc 0 19 20) 12 21) (.bin .mul (.int 128 24 27) (.bin .mod (.loc 0 31 32) (.int 2 35 36) 31 36) 24 37) 12 37) (.b1 1 (.cel 0 57 63) 56 53 64) 0 52 47 65 11 66) 225 4 66 .nil)))
noncomputable abbrev d_oct : Df := { F := fn_oct, D := [cd_oct0], C := lookC [] }
noncomputable def C_oct : Co := fun vs ν K => a1 vs fun a => wL a ν fun ns => ((∀ x ∈ ns, 0 ≤ x ∧ x < 1000000) ∧ ns.length ≤ 5) ∧ K (.o ν.length) (ν ++ [.ro (octF ns)])
theorem oct_a (out : List Int) : (List.range out.length).map (fun (i : Nat) => out.getD (i : Int).toNat 0 + 128 * ((i : Int) % 2)) = octC out := by
 unfold octC rangeKs
 rw [List.map_map, show ((out.length : Int) - 0).toNat = out.length by exact Int.toNat_natCast _]
 refine List.map_congr_left fun i _ => ?_
 show _ = out.getD (0 + (i : Int)).toNat 0 + 128 * (0 + (i : Int)).fmod 2
 rw [Int.zero_add, Int.fmod_eq_emod_of_nonneg _ (by decide)]
theorem oct_b {y x : Int} {fs : List Int} (h1 : 0 ≤ y) (h2 : figs y fs = figs x [x % 64]) (h3 : fs.length + y.toNat ≤ 1000001) (hy : 64 ≤ y) : (y / 64).toNat < y.toNat ∧ 0 ≤ y / 64 ∧ figs (y / 64) (fs ++ [y / 64 % 64 + 64]) = figs x [x % 64] ∧ (fs ++ [y / 64 % 64 + 64]).length + (y / 64).toNat ≤ 1000001 := by
 have d := tn_div (Int.le_trans (by decide) hy) (show (2 : Int) ≤ 64 by decide)
 refine ⟨d, Int.ediv_nonneg h1 (by decide), by rw [← h2, figs.eq_1 y fs, if_pos hy], ?_⟩
 rw [List.length_append, List.length_singleton, Nat.add_assoc, Nat.add_comm 1]; exact Nat.le_trans (Nat.add_le_add_left d _) h3
theorem oct_c {y x : Int} {ns gs fs : List Int} {i : Nat} (hi : i < ns.length) (e : x = ns.getD i 0) (h1 : gs = (ns.take i).flatMap fun x => (figs x [x % 64]).reverse) (h2 : gs.length ≤ i * 1000001) (h3 : figs y fs = figs x [x % 64]) (h4 : fs.length + y.toNat ≤ 1000001) (hy : ¬ 64 ≤ y) :
  gs ++ fs.reverse = ((ns.take (i + 1)).flatMap fun x => (figs x [x % 64]).reverse) ∧ (gs ++ fs.reverse).length ≤ (i + 1) * 1000001 := by
 rw [figs.eq_1 y fs, if_neg hy, e] at h3
 refine ⟨by rw [take_getD hi, List.flatMap_append, ← h1, List.flatMap_cons, List.flatMap_nil, List.append_nil, ← h3], ?_⟩
 rw [List.length_append, List.length_reverse, Nat.succ_mul]; exact Nat.add_le_add h2 (Nat.le_trans (Nat.le_add_right _ _) h4)
theorem oct_st {ns : List Int} {P : SV → Nu → Prop} (hb : ∀ x ∈ ns, 0 ≤ x ∧ x < 1000000) (hl : ns.length ≤ 5) (hP : ∀ k ν', ν'[k]? = some (.ints (octF ns)) → P (.o k) ν') :
  st d_oct bl_oct (retK P) [.o 0, .u, .u] [.ro ns, .cell .u] := by
 refine for1 (fun _ => [.o 0, .u, .u]) (fun gs => [.ro ns, .cell (.o 2), .ints gs]) (fun i gs => gs = ((ns.take i).flatMap fun x => (figs x [x % 64]).reverse) ∧ gs.length ≤ i * 1000001) (in1 [true, true, true] [true, true, true] [] rfl rfl rfl ⟨rfl, Nat.zero_le _⟩) (fun i gs hi h => ?_) fun gs h => ?_
 ·have hx := hb _ (getD_mem hi)
  have hg : gs.length ≤ 5000005 := by have := h.2; lia
  refine ⟨by decide, whl2 (fun y _ => [.o 0, .i y, .o 3]) (fun _ fs => [.ro ns, .cell (.o 2), .ints gs, .ints fs]) (fun n y fs => n = y.toNat ∧ 0 ≤ y ∧ figs y fs = figs (ns.getD i 0) [ns.getD i 0 % 64] ∧ fs.length + y.toNat ≤ 1000001) _ (in2 [true, true, true] [true, true, true, true] _ _ rfl rfl rfl ⟨rfl, hx.1, rfl, Nat.add_le_add_left (Int.toNat_le.2 (Int.le_of_lt hx.2)) 1⟩) fun n y fs k => ⟨fun hy => ?_, fun hy => ?_⟩⟩
  ·have a := oct_b k.2.1 k.2.2.1 k.2.2.2 hy
   exact ⟨by decide, by decide, by have := k.2.2.2; lia, turn2 _ [true, true, true] [true, true, true, true] _ _ (k.1 ▸ a.1) rfl rfl rfl ⟨rfl, a.2⟩⟩
  ·have a := oct_c hi rfl h.1 h.2 k.2.2.1 k.2.2.2 hy
   have q := k.2.2.2
   exact ⟨by lia, by rw [List.length_reverse]; lia, in1 [true, false, false] [true, true, true] _ rfl rfl rfl a⟩
 ·have e := h.1
  rw [List.take_length] at e
  have hg : gs.length ≤ 16000000 := by have := h.2; lia
  refine ⟨hg, by grind only, fun i => gs.getD (i : Int).toNat 0 + 128 * ((i : Int) % 2), fun i hi => ⟨⟨by exact Int.natCast_nonneg _, by lia, hg⟩, by decide, IntMulOk.of_left (intBits_le_64 (by decide) (by decide)), rfl⟩, hP _ _ (show some _ = some _ from congrArg (fun x => some (SO.ints x)) ?_)⟩
  rw [show octF ns = octC gs from congrArg octC e.symm, ← oct_a]; rfl
theorem good_oct : Good 173 500 5000 C_oct :=
 goodX (b := bl_oct) (F := fn_oct) (Ds := d_oct.D) (Cl := []) [Str.ofString "numbers"] [] (fun _ => rfl) (fun _ => rfl) (by decide) (by decide) (fun s pos h => by obtain ⟨a, rfl⟩ := ex1 h; exact .of_eq rfl) rfl (by decide) rfl rfl rfl rfl (fun _ => trivial) (by decide) List.nodup_nil (fun _ => ⟨⟨_, rfl, rfl, rfl, fun _ => trivial, ⟨⟨(.head _), rfl⟩, trivial⟩⟩, trivial⟩) trivial 1 rfl fun vs ν K h => by
  (refine el_ER (a1_inv h) fun a z09 => ?_; subst z09; intro h)
  (refine el_EERA (wL_inv h) fun k ns z09 => ?_; subst z09; intro hk h)
  refine ⟨rfl, rfl, (fun _ h => nomatch h), fun tb e => ?_⟩
  cases e
  show st d_oct bl_oct _ [.o 0, .u, .u] [impK ν k, .cell .u]
  rw [roI hk]
  exact oct_st h.1.1 h.1.2 fun k ν' e => ⟨trivial, dvI e h.2⟩
end Mine
end
section
namespace Mine
open PySem PySem.W PySem.Calls PySem.Spec PyProof.Rows
noncomputable def fn_fig : Fn := { ns := [Str.ofString "weights", Str.ofString "size", Str.ofString "due", Str.ofString "k", Str.ofString "part", Str.ofString "left"], bi := [.range, .len, .sorted] }
noncomputable def bl_fig : B := (.set 2 (.nil false 10 12) 293 4 7 12 (.forR 3 0 (.b1 1 (.loc 0 23 30) 22 19 31) 18 13 32 (.set 4 (.loc 3 15 16) 295 8 12 16 (.set 5 (.sub (.loc 0 15 22) (.loc 3 23 24) 15 25) 296 8 12 25 (.whl (.cmp .gt (.loc 5 14 18) (.int 0 21 22) 14 22) (.expr (.m1 .extend (.loc 2 12 15) (.bin .mul (.lst (.loc 4 24 28) 23 29) (.bin .mod (.loc 5 33 37) (.loc 1 40 44) 33 44) 23 45) 22 12 46) 298 12 46 (.aug 5 .div (.loc 1 21 25) 299 12 16 25 (.aug 4 .mul (.loc 1 20 24) 300 12 16 24 .nil))) 297 8 300 24 .nil))) 294 4 8 9 300 24 (.ret (.b1 2 (.loc 2 18 21) 17 11 22) 301 4 22 .nil)))
noncomputable abbrev d_fig : Df := { F := fn_fig, D := [], C := lookC [] }
noncomputable def C_fig : Co := fun vs ν K => a2 vs fun a b => wL a ν fun ns => wI b fun z => ((∀ x ∈ ns, 0 ≤ x ∧ x ≤ 200) ∧ ns.length ≤ 10 ∧ (z = 2 ∨ z = 3) ∧ (figF z ns ns.length).length < 64) ∧ ∀ ms : List Int, ms.Perm (figF z ns ns.length) → ms.Pairwise (· ≤ ·) → K (.o ν.length) (ν ++ [.ro ms])
theorem fig_a {z left : Int} (hz : z = 2 ∨ z = 3) (h1 : 0 < left) (h2 : left ≤ 200) : (0 < z ∧ z < 1073741824) ∧ 0 ≤ left / z ∧ left / z ≤ 200 ∧ (left / z).toNat < left.toNat ∧ 0 ≤ left % z ∧ left % z ≤ 200 ∧ (left % z).toNat + (left / z).toNat ≤ left.toNat := by
 have a := dvm hz h1
 have b := a.2.2
 exact ⟨a.1, a.2.1, Int.le_trans (Int.le_of_lt b.1) h2, (Int.toNat_lt_toNat h1).mpr b.1, b.2.1, Int.le_trans (Int.le_trans (Int.le_add_of_nonneg_right a.2.1) b.2.2) h2, by rw [← Int.toNat_add b.2.1 a.2.1]; exact Int.toNat_le_toNat b.2.2⟩
theorem fig_b {z part left : Int} {due r : List Int} (hz : z = 2 ∨ z = 3) (h1 : 0 < left) (e : figW z part left due = r) : figW z (part * z) (left / z) (due ++ (List.replicate (left % z).toNat [part]).flatten) = r := by
 rw [← e, figW.eq_1 z part left due, if_pos ⟨h1, by lia⟩, show (List.replicate (left % z).toNat [part]).flatten = List.replicate (left % z).toNat part from by simp]
theorem fig_c {z part left : Int} {due : List Int} {ns : List Int} {i : Nat} (h1 : ¬ 0 < left) (e : figW z part left due = figW z i (ns.getD i 0) (figF z ns i)) : due = figF z ns (i + 1) := by
 rw [figW.eq_1 z part left due, if_neg (fun h => h1 h.1)] at e
 unfold figF
 rw [rangeKs_succ, List.foldl_append, e]
 show _ = figW z (0 + (i : Int)) (ns.getD (0 + (i : Int)).toNat 0) _
 rw [Int.zero_add]; rfl
theorem fig_d {part left z : Int} {due : List Int} {i : Nat} (h : due.length + left.toNat ≤ 200 * (i + 1)) (q : (left % z).toNat + (left / z).toNat ≤ left.toNat) : (due ++ (List.replicate (left % z).toNat [part]).flatten).length + (left / z).toNat ≤ 200 * (i + 1) := by
 rw [List.length_append, show (List.replicate (left % z).toNat [part]).flatten = List.replicate (left % z).toNat part from by simp, List.length_replicate, Nat.add_assoc]; exact Nat.le_trans (Nat.add_le_add_left q _) h
theorem fig_st {ns : List Int} {z : Int} {P : SV → Nu → Prop} (hb : ∀ x ∈ ns, 0 ≤ x ∧ x ≤ 200) (hl : ns.length ≤ 10) (hz : z = 2 ∨ z = 3) (h64 : (figF z ns ns.length).length < 64) (hP : ∀ (k : Nat) (ν' : Nu) (ms : List Int), ms.Perm (figF z ns ns.length) → ms.Pairwise (· ≤ ·) → ν'[k]? = some (.ints ms) → P (.o k) ν') :
  st d_fig bl_fig (retK P) [.o 0, .i z, .u, .u, .u, .u] [.ro ns] := by
 refine ⟨by exact Nat.le_trans (by assumption) (by decide), by lia, for1 (fun _ => [.o 0, .i z, .o 1, .u, .u, .u]) (fun due => [.ro ns, .ints due]) (fun i due => due = figF z ns i ∧ due.length ≤ 200 * i) (in1 [true, true, true, false, false, false] [true, true] _ rfl rfl rfl ⟨rfl, Nat.zero_le _⟩) (fun i due hi h => ?_) fun due h => ?_⟩
 ·have hi : i < ns.length := hi
  have hx := hb _ (getD_mem hi)
  refine ⟨by lia, whl3 (fun p l _ => [.o 0, .i z, .o 1, .u, .i p, .i l]) (fun _ _ d => [.ro ns, .ints d]) (fun n p l d => n = l.toNat ∧ 0 ≤ l ∧ l ≤ 200 ∧ d.length + l.toNat ≤ 200 * (i + 1) ∧ figW z p l d = figW z i (ns.getD i 0) (figF z ns i)) _ (in3 [true, true, true, false, true, true] [true, true] _ _ _ rfl rfl rfl ⟨rfl, hx.1, hx.2, (Nat.add_le_add h.2 (Int.toNat_le.2 hx.2) : due.length + (ns.getD i 0).toNat ≤ 200 * (i + 1)), by rw [h.1]; rfl⟩) fun n p l d k => ⟨fun hy => ?_, fun hy => ?_⟩⟩
  ·have a := fig_a hz hy k.2.2.1
   have b := fig_d (part := p) k.2.2.2.1 a.2.2.2.2.2.2
   exact ⟨a.1.1, rep_ok a.2.2.2.2.1 (Int.le_trans a.2.2.2.2.2.1 (by decide)), by rw [List.length_append] at b; lia, a.1, (zM hz p).2, turn3 _ [true, true, true, false, true, true] [true, true] _ _ _ (k.1 ▸ a.2.2.2.1) rfl rfl rfl ⟨rfl, a.2.1, a.2.2.1, b, fig_b hz hy k.2.2.2.2⟩⟩
  ·exact in1 [true, true, true, false, false, false] [true, true] _ rfl rfl rfl ⟨fig_c hy k.2.2.2.2, Nat.le_trans (Nat.le_add_right _ _) k.2.2.2.1⟩
 ·have e : due = figF z ns ns.length := h.1
  exact ⟨by rw [e]; exact h64, fun ms p q => hP _ _ ms (e ▸ p) q rfl⟩
theorem good_fig : Good 213 500 5000 C_fig :=
 goodX (b := bl_fig) (F := fn_fig) (Ds := d_fig.D) (Cl := []) [Str.ofString "weights", Str.ofString "size"] [] (fun _ => rfl) (fun _ => rfl) (by decide) (by decide) (fun s pos h => by (refine el_EEr (ex2 h) fun a b z09 => ?_; subst z09); exact .of_eq rfl) rfl (by decide) rfl rfl rfl rfl (fun _ => trivial) (by decide) List.nodup_nil (fun _ => trivial) trivial 1 rfl fun vs ν K h => by
  (refine el_EER (a2_inv h) fun a b z09 => ?_; subst z09; intro h)
  (refine el_EERA (wL_inv h) fun k ns z09 => ?_; subst z09; intro hk h)
  (refine el_ER (wI_inv h) fun z z09 => ?_; subst z09; intro h)
  refine ⟨rfl, rfl, (fun _ h => nomatch h), fun tb e => ?_⟩
  cases e
  show st d_fig bl_fig _ [.o 0, .i z, .u, .u, .u, .u] [impK ν k]
  rw [roI hk]
  have q := h.1
  exact fig_st q.1 q.2.1 q.2.2.1 q.2.2.2 fun k ν' ms p1 p2 e => ⟨trivial, dvI e (h.2 ms p1 p2)⟩
end Mine
end
section
namespace Mine
open PySem PySem.W PySem.Calls PySem.Spec PyProof.Rows
noncomputable def fn_way : Fn := { ns := [Str.ofString "most", Str.ofString "size", Str.ofString "ways", Str.ofString "part", Str.ofString "longer", Str.ofString "copies", Str.ofString "k"], bi := [.range, .len] }
noncomputable def bl_way : B := (.set 2 (.lst (.int 1 12 13) 11 14) 317 4 8 14 (.forR2 3 0 (.int 1 22 23) (.bin .add (.loc 0 25 29) (.int 1 32 33) 25 33) 21 16 34 (.set 4 (.bin .mul (.lst (.int 0 18 19) 17 20) (.bin .add (.b1 1 (.loc 2 28 32) 27 24 33) (.bin .mul (.loc 3 36 40) (.bin .sub (.loc 1 44 48) (.int 1 51 52) 44 52) 36 53) 24 53) 17 54) 319 8 14 54 (.forR 5 0 (.loc 1 28 32) 27 22 33 (.forR 6 0 (.b1 1 (.loc 2 31 35) 30 27 36) 26 21 37 (.augs (.loc 4 16 22) (.bin .add (.loc 6 23 24) (.bin .mul (.loc 3 27 31) (.loc 5 34 40) 27 40) 23 40) .add (.sub (.loc 2 45 49) (.loc 6 50 51) 45 52) 322 16 41 52 .nil) 321 12 16 17 322 52 .nil) 320 8 12 18 322 52 (.set 2 (.loc 4 15 21) 323 8 12 21 .nil))) 318 4 8 12 323 21 (.ret (.loc 2 11 15) 324 4 15 .nil)))
noncomputable abbrev d_way : Df := { F := fn_way, D := [], C := lookC [] }
noncomputable def C_way : Co := fun vs ν K => a2 vs fun a b => wI a fun m => wI b fun z => (1 ≤ m ∧ m ≤ 5 ∧ (z = 2 ∨ z = 3)) ∧ K (.o ν.length) (ν ++ [.ro (waysF m z)])
theorem addK_length (ways : List Int) (off : Int) (l : List Int) (k : Int) : (addK ways off l k).length = l.length := by unfold addK; rw [List.length_set]
theorem fold_len {g : List Int → Int → List Int} (hg : ∀ l k, (g l k).length = l.length) : ∀ (ks l : List Int), (ks.foldl g l).length = l.length := by
 intro ks
 induction ks with
 | nil => intro l; rfl
 | cons k r ih => intro l; rw [List.foldl_cons, ih, hg]
theorem addC_length (ways : List Int) (part : Int) (l : List Int) (c : Int) : (addC ways part l c).length = l.length := fold_len (addK_length ways _) _ l
theorem way_a {i : Nat} {z : Int} (hi : i < 5) (hz : z = 2 ∨ z = 3) : 0 ≤ (1 + (i : Int)) * (z - 1) ∧ (1 + (i : Int)) * (z - 1) ≤ 10 := by rcases hz with rfl | rfl <;> lia
theorem way_b {i c : Nat} {z : Int} (hi : i < 5) (hz : z = 2 ∨ z = 3) (hc : c < z.toNat) : 0 ≤ (1 + (i : Int)) * (c : Int) ∧ (1 + (i : Int)) * (c : Int) ≤ (1 + (i : Int)) * (z - 1) := ⟨Int.mul_nonneg (by exact Int.natCast_nonneg _) (by exact Int.natCast_nonneg _), Int.mul_le_mul_of_nonneg_left (by lia) (by exact Int.natCast_nonneg _)⟩
theorem way_s {wy : List Int} {z : Int} {i : Nat} (h : wy = (rangeKs 1 i).foldl (stepW z) [1]) : stepW z wy (1 + (i : Int)) = (rangeKs 1 (i + 1)).foldl (stepW z) [1] := by
 rw [rangeKs_succ, List.foldl_append, ← h]; rfl
theorem way_c {wy lg l0 : List Int} {p : Int} {c : Nat} (h : lg = (rangeKs 0 c).foldl (addC wy p) l0) : (rangeKs 0 wy.length).foldl (addK wy (p * (c : Int))) lg = (rangeKs 0 (c + 1)).foldl (addC wy p) l0 := by
 rw [rangeKs_succ, List.foldl_append, ← h]
 show _ = addC wy p lg (0 + (c : Int))
 rw [Int.zero_add]; rfl
theorem way_k {wy lg l0 : List Int} {p : Int} {q : Nat} (h : lg = (rangeKs 0 q).foldl (addK wy p) l0) : lg.set ((q : Int) + p).toNat (lg.getD ((q : Int) + p).toNat 0 + wy.getD (q : Int).toNat 0) = (rangeKs 0 (q + 1)).foldl (addK wy p) l0 := by
 rw [rangeKs_succ, List.foldl_append, ← h]
 show _ = addK wy p lg (0 + (q : Int))
 rw [Int.zero_add]; rfl
theorem flat1 (n : Nat) (x : Int) : (List.replicate n [x]).flatten = List.replicate n x := by simp
theorem way_r {q l n : Nat} {p r : Int} (hq : q < l) (b : 0 ≤ p ∧ p ≤ r) (hn : n = (l + r).toNat) (hL : l + r ≤ 70) : 0 ≤ q + p ∧ q + p < n ∧ n ≤ 16000000 := by
 subst hn
 have t : 0 ≤ l + r := Int.add_nonneg (Int.natCast_nonneg l) (Int.le_trans b.1 b.2)
 rw [Int.toNat_of_nonneg t]
 exact ⟨Int.add_nonneg (Int.natCast_nonneg q) b.1, Int.add_lt_add_of_lt_of_le (Int.ofNat_lt.2 hq) b.2, Int.toNat_le.2 (Int.le_trans hL (by decide))⟩
theorem way_n {l n i : Nat} {r : Int} (hn : n = (l + r).toNat) (h : l ≤ 1 + 10 * i) (b : r ≤ 10) : n ≤ 1 + 10 * (i + 1) := hn ▸ Int.toNat_le.2 (Int.add_le_add (Int.ofNat_le.2 h) b)
theorem way_l {l : Nat} {r : Int} (h : l ≤ 60) (b : 0 ≤ r ∧ r ≤ 10) : l + r ≤ 70 ∧ 0 ≤ l + r := ⟨Int.add_le_add (Int.ofNat_le.2 h) b.2, Int.add_nonneg (Int.natCast_nonneg l) b.1⟩
theorem way_st {m z : Int} {P : SV → Nu → Prop} (h1 : 1 ≤ m) (h5 : m ≤ 5) (hz : z = 2 ∨ z = 3) (hP : ∀ k ν', ν'[k]? = some (.ints (waysF m z)) → P (.o k) ν') :
  st d_way bl_way (retK P) [.i m, .i z, .u, .u, .u, .u, .u] [] := by
 refine ⟨⟨by decide, by decide, by lia, by lia⟩, for1 (fun _ => [.i m, .i z, .o 0, .u, .u, .u, .u]) (fun wy => [.ints wy]) (fun i wy => wy = (rangeKs 1 i).foldl (stepW z) [1] ∧ wy.length ≤ 1 + 10 * i) (in1 [true, true, true, false, false, false, false] [true] _ rfl rfl rfl ⟨rfl, Nat.le_refl _⟩) (fun i wy hi h => ?_) fun wy h => ?_⟩
 ·have hi : i < 5 := by grind only
  have a := way_a hi hz
  have hl : wy.length ≤ 60 := Nat.le_trans h.2 (Nat.le_trans (Nat.add_le_add_left (Nat.mul_le_mul_left 10 (Nat.le_of_lt hi)) 1) (by decide))
  have hL := way_l hl a
  refine ⟨by exact Nat.le_trans (by assumption) (by decide), IntMulOk.of_right (intBits_le_64 (by lia) (by lia)), rep_ok hL.2 (Int.le_trans hL.1 (by decide)), by lia, ?_⟩
  rw [flat1]
  refine for1 (fun _ => [.i m, .i z, .o 0, .i (1 + (i : Int)), .o 2, .u, .u]) (fun lg => [.ints wy, .junk, .ints lg]) (fun c lg => lg = (rangeKs 0 c).foldl (addC wy (1 + (i : Int))) (List.replicate ((wy.length : Int) + (1 + (i : Int)) * (z - 1)).toNat 0)) (in1 [true, true, true, true, true, false, false] [true, false, true] _ rfl rfl rfl rfl) (fun c lg hc h2 => ?_) fun lg h2 => ?_
  ·have b := way_b hi hz hc
   have hll : lg.length = ((wy.length : Int) + (1 + (i : Int)) * (z - 1)).toNat := by rw [h2, fold_len (addC_length _ _), List.length_replicate]
   refine ⟨by exact Nat.le_trans (by assumption) (by decide), r62n (Nat.le_trans hl (by decide)), for1 (fun _ => [.i m, .i z, .o 0, .i (1 + (i : Int)), .o 2, .i (c : Int), .u]) (fun l3 => [.ints wy, .junk, .ints l3]) (fun q l3 => l3 = (rangeKs 0 q).foldl (addK wy ((1 + (i : Int)) * (c : Int))) lg) (in1 [true, true, true, true, true, true, false] [true, false, true] _ rfl rfl rfl rfl) (fun q l3 hq h3 => ?_) fun l3 h3 => ?_⟩
   ·have hq : q < wy.length := hq
    have hl3 : l3.length = lg.length := by rw [h3, fold_len (addK_length _ _)]
    have r : 0 ≤ (q : Int) + (1 + (i : Int)) * (c : Int) ∧ (q : Int) + (1 + (i : Int)) * (c : Int) < l3.length ∧ l3.length ≤ 16000000 := way_r hq b (hl3.trans hll) hL.1
    exact ⟨IntMulOk.of_right (intBits_le_64 (by exact Int.natCast_nonneg _) (by lia)), r, ⟨by exact Int.natCast_nonneg _, by lia, by exact Nat.le_trans (by assumption) (by decide)⟩, r, in1 [true, true, true, true, true, true, false] [true, false, true] _ rfl rfl rfl (way_k h3)⟩
   ·exact in1 [true, true, true, true, true, false, false] [true, false, true] _ rfl rfl rfl (h3.trans (way_c h2))
  ·have e : lg = stepW z wy (1 + (i : Int)) := h2
   have hll : lg.length = ((wy.length : Int) + (1 + (i : Int)) * (z - 1)).toNat := by rw [h2, fold_len (addC_length _ _), List.length_replicate]
   exact in1m 0 2 [true, true, true, false, false, false, false] [true] _ rfl rfl rfl rfl ⟨e.trans (way_s h.1), way_n hll h.2 a.2⟩
 ·have e : wy = waysF m z := by rw [h.1, show (m + 1 - 1).toNat = m.toNat by lia]; rfl
  exact hP _ _ (show some _ = some _ from congrArg (fun x => some (SO.ints x)) e)
theorem good_way : Good 230 500 5000 C_way :=
 goodX (b := bl_way) (F := fn_way) (Ds := d_way.D) (Cl := []) [Str.ofString "most", Str.ofString "size"] [] (fun _ => rfl) (fun _ => rfl) (by decide) (by decide) (fun s pos h => by (refine el_EEr (ex2 h) fun a b z09 => ?_; subst z09); exact .of_eq rfl) rfl (by decide) rfl rfl rfl rfl (fun _ => trivial) (by decide) List.nodup_nil (fun _ => trivial) trivial 0 rfl fun vs ν K h => by
  (refine el_EER (a2_inv h) fun a b z09 => ?_; subst z09; intro h)
  (refine el_ER (wI_inv h) fun m z09 => ?_; subst z09; intro h)
  (refine el_ER (wI_inv h) fun z z09 => ?_; subst z09; intro h)
  refine ⟨rfl, rfl, (fun _ h => nomatch h), fun tb e => ?_⟩
  cases e
  have q := h.1
  exact way_st q.1 q.2.1 q.2.2 fun k ν' e => ⟨trivial, dvI e h.2⟩
end Mine
end
section
namespace Mine
open PySem PySem.W PySem.Calls PySem.Spec PyProof.Rows
noncomputable def fn_joi : Fn := { ns := [Str.ofString "size", Str.ofString "sign", Str.ofString "lone", Str.ofString "grown", Str.ofString "part", Str.ofString "counts", Str.ofString "stay", Str.ofString "text", Str.ofString "width", Str.ofString "kind"], gt := [(Str.ofString "EXACT_TOKEN_TYPES", .ref 22), (Str.ofString "ISTERMINAL", .ref 31)], cs := [(1, Str.ofString "parts")], bi := [.range, .max, .len] }
noncomputable def cd_joi0 : CD := { x := Str.ofString "part", c := 36, e := 40, sc := {kind := ScopeKind.function, names := [ (Str.ofString ".0", NameKind.local), (Str.ofString "part", NameKind.local), (Str.ofString "parts", NameKind.free)], isGenerator := false, isCoroutine := false, more := []}, F := { ns := [Str.ofString "part"], cs := [(1, Str.ofString "parts")] } }
noncomputable def bl_joi2 : B := (.setR 5 .ints 0 (.m1 .count (.cel 0 14 19) (.loc 0 26 30) 25 14 31) (.bin .add (.b1 1 (.cel 0 54 59) 53 50 60) (.int 1 63 64) 50 64) 0 49 44 65 261 4 10 13 66 (.set 6 (.nil false 11 13) 262 4 8 13 (.set 4 (.int 1 11 12) 263 4 8 12 (.whl (.cmp .lt (.loc 4 10 14) (.b1 2 (.loc 5 21 27) 20 17 28) 10 28) (.set 7 (.bin .mul (.loc 1 15 19) (.sub (.loc 5 22 28) (.loc 4 29 33) 22 34) 15 34) 265 8 12 34 (.whl (.cmp .ne (.loc 7 14 18) (.str (Str.ofString "") 22 24) 14 24) (.set 8 (.int 3 20 21) 267 12 17 21 (.whl (.cmp .nin (.sto (.loc 7 18 22) (.loc 8 24 29) 23 29 18 30) (.glo 0 38 55) 18 55) (.aug 8 .sub (.int 1 25 26) 269 16 21 26 .nil) 268 12 269 26 (.set 9 (.sub (.glo 0 19 36) (.sto (.loc 7 37 41) (.loc 8 43 48) 42 48 37 49) 19 50) 270 12 16 50 (.set 7 (.sfr (.loc 7 19 23) (.loc 8 24 29) 24 30 19 31) 271 12 16 31 (.ite (.not (.call1 1 (.loc 9 30 34) 29 19 35) 15 35) (.expr (.m1 .append (.loc 6 16 20) (.int 0 28 29) 27 16 30) 273 16 30 .nil) (.ite (.cmp .eq (.loc 9 17 21) (.loc 3 25 30) 17 30) (.expr (.m1 .extend (.loc 5 16 22) (.bin .mul (.lst (.int 0 31 32) 30 33) (.bin .sub (.bin .add (.bin .mul (.loc 4 37 41) (.loc 0 44 48) 37 48) (.int 1 51 52) 37 52) (.b1 2 (.loc 5 59 65) 58 55 66) 37 66) 30 67) 29 16 68) 275 16 68 (.augs (.loc 5 16 22) (.bin .mul (.loc 4 23 27) (.loc 0 30 34) 23 34) .add (.int 1 39 40) 276 16 35 40 .nil)) (.expr (.m1 .append (.loc 6 16 20) (.ife (.cmp .eq (.loc 9 36 40) (.loc 2 44 48) 36 48) (.loc 4 28 32) (.int 0 54 55) 28 55) 27 16 56) 278 16 56 .nil) 274 12 278 56 .nil) 272 12 278 56 .nil))))) 266 8 278 56 (.aug 4 .add (.int 1 16 17) 279 8 12 17 .nil))) 264 4 279 17 (.ret (.loc 6 11 15) 280 4 15 .nil)))))
noncomputable def bl_joi : B := (.set 1 (.ife (.cmp .eq (.loc 0 18 22) (.int 2 26 27) 18 27) (.str (Str.ofString "*") 11 14) (.str (Str.ofString ".") 33 36) 11 36) 259 4 8 36 (.unp 2 3 (.ife (.cmp .eq (.loc 0 30 34) (.int 2 38 39) 30 39) (.tup (.int 16 19 21) (.int 35 23 25) 18 26) (.tup (.int 23 46 48) (.int 52 50 52) 45 53) 18 53) 260 4 8 10 15 53 bl_joi2))
noncomputable abbrev d_joi : Df := { F := fn_joi, D := [cd_joi0], C := lookC [(31, C_ist)] }
noncomputable def C_joi : Co := fun vs ν K => a2 vs fun a b => wL a ν fun ns => wI b fun z => ((∀ x ∈ ns, 1 ≤ x ∧ x ≤ 9) ∧ ns.length ≤ 200 ∧ ns ≠ [] ∧ (z = 2 ∨ z = 3)) ∧ ∃ R N, (∀ M, M ∈ ns → (∀ a ∈ ns, a ≤ M) → jGo z.toNat N 1 (cnt0 ns M) [] = some R) ∧ K (.o ν.length) (ν ++ [.ro R])
noncomputable def chS (ch k : Nat) : Str := ⟨(List.replicate k ch).toArray⟩
structure Sg (z ch : Nat) (sg : Str) (lone grown : Int) : Prop where
 z2 : z = 2 ∨ z = 3
 sg : sg.length ≤ 16 ∧ ∀ n : Int, (Txt.mul sg n).cps.toList = List.replicate n.toNat ch
 l : 0 ≤ lone ∧ lone < 256 ∧ 0 ≤ grown ∧ grown < 256 ∧ lone ≠ grown
 t1 : tokTab.lookup (chS ch 1) = some lone
 t2 : (z = 2 ∧ tokTab.lookup (chS ch 2) = some grown ∧ tokTab.lookup (chS ch 3) = none) ∨ (z = 3 ∧ tokTab.lookup (chS ch 2) = none ∧ tokTab.lookup (chS ch 3) = some grown)
theorem sg2 : Sg 2 42 (Str.ofString "*") 16 35 := ⟨.inl rfl, ⟨show (1 : Nat) ≤ 16 by decide, fun n => mul_one_codes "*" 42 n (by decide)⟩, by decide, by decide +kernel, .inl ⟨rfl, by decide +kernel, by decide +kernel⟩⟩
theorem sg3 : Sg 3 46 (Str.ofString ".") 23 52 := ⟨.inr rfl, ⟨show (1 : Nat) ≤ 16 by decide, fun n => mul_one_codes "." 46 n (by decide)⟩, by decide, by decide +kernel, .inr ⟨rfl, by decide +kernel, by decide +kernel⟩⟩
section
variable {z ch n : Nat} {sg x : Str} {lone grown w p : Int}
theorem len_ch (h : x.cps.toList = List.replicate n ch) : x.length = n := by
 have : x.cps.toList.length = x.length := by rw [Array.length_toList]; rfl
 rw [← this, h, List.length_replicate]
theorem chS_of (h : x.cps.toList = List.replicate n ch) : x = chS ch n := by
 apply PySem.Str.ext'
 apply Array.toList_inj.mp
 rw [h]; rfl
theorem take_ch {k : Nat} (h : x.cps.toList = List.replicate n ch) : Txt.slice x none (some (k : Int)) = chS ch (min k n) := chS_of (by rw [slice_take, h, List.take_replicate])
theorem drop_ch {k : Nat} (h : x.cps.toList = List.replicate n ch) : (Txt.slice x (some (k : Int)) none).cps.toList = List.replicate (n - k) ch := by rw [slice_drop, h, List.drop_replicate]
noncomputable def Wd (x : Str) (w : Int) : Prop := w = 3 ∨ (w = 2 ∧ tokTab.lookup (Txt.slice x none (some 3)) = none) ∨ (w = 1 ∧ tokTab.lookup (Txt.slice x none (some 3)) = none ∧ tokTab.lookup (Txt.slice x none (some 2)) = none)
theorem wd_step (G : Sg z ch sg lone grown) (h : x.cps.toList = List.replicate n ch) (hn : 1 ≤ n) (q : Wd x w) (e : tokTab.lookup (Txt.slice x none (some w)) = none) : Wd x (w - 1) ∧ (w - 1).toNat < w.toNat := by
 rcases q with rfl | ⟨rfl, q⟩ | ⟨rfl, _⟩
 ·exact ⟨.inr (.inl ⟨rfl, e⟩), by decide⟩
 ·exact ⟨.inr (.inr ⟨rfl, q, e⟩), by decide⟩
 ·have e2 : tokTab.lookup (chS ch (min 1 n)) = none := by rw [← take_ch (k := 1) h]; exact e
  rw [Nat.min_eq_left hn, G.t1] at e2; cases e2
theorem some_none {α : Type} {o : Option α} {x : α} {G : Prop} (a : o = some x) (b : o = none) : G := by rw [a] at b; cases b
theorem wd_core {L : Nat → Option Int} {z k : Nat} {lone grown : Int} (h1 : L 1 = some lone) (h2 : (z = 2 ∧ L 2 = some grown ∧ L 3 = none) ∨ (z = 3 ∧ L 2 = none ∧ L 3 = some grown)) : ∀ {n : Nat}, 1 ≤ n → (k = 3 ∨ (k = 2 ∧ L (min 3 n) = none) ∨ (k = 1 ∧ L (min 3 n) = none ∧ L (min 2 n) = none)) → L (min k n) ≠ none →
  (L (min k n) = some lone ∧ ¬ z ≤ n ∧ n - k = n - 1) ∨ (L (min k n) = some grown ∧ z ≤ n ∧ n - k = n - z)
 | 1, _, .inl e, _ => by subst e; exact .inl ⟨h1, h2.elim (fun h => h.1 ▸ (by decide)) fun h => h.1 ▸ (by decide), rfl⟩
 | 1, _, .inr (.inl q), _ => some_none h1 q.2
 | 1, _, .inr (.inr q), _ => some_none h1 q.2.1
 | 2, _, .inl e, ne => by subst e; exact h2.elim (fun h => .inr ⟨h.2.1, Nat.le_of_eq h.1, by rw [h.1]⟩) fun h => absurd h.2.1 ne
 | 2, _, .inr (.inl q), ne => h2.elim (fun h => some_none h.2.1 q.2) fun h => absurd (show L (min k 2) = none by rw [q.1]; exact h.2.1) ne
 | 2, _, .inr (.inr q), ne => h2.elim (fun h => some_none h.2.1 q.2.1) fun h => .inl (by rw [q.1, h.1]; exact ⟨h1, by decide, rfl⟩)
 | n + 3, _, q, ne => by
  have m3 : min 3 (n + 3) = 3 := Nat.min_eq_left (Nat.le_add_left 3 n)
  have m2 : min 2 (n + 3) = 2 := Nat.min_eq_left (Nat.le_add_left 2 (n + 1))
  rw [m3, m2] at q
  rcases q with rfl | ⟨rfl, q⟩ | ⟨rfl, q⟩
  ·rw [m3] at ne ⊢
   exact h2.elim (fun h => absurd h.2.2 ne) fun h => .inr ⟨h.2.2, by rw [h.1]; exact Nat.le_add_left 3 n, by rw [h.1]⟩
  ·rw [m2]
   exact h2.elim (fun h => .inr ⟨h.2.1, by rw [h.1]; exact Nat.le_add_left 2 (n + 1), by rw [h.1]⟩) fun h => some_none h.2.2 q
  ·exact h2.elim (fun h => some_none h.2.1 q.2) fun h => some_none h.2.2 q.1
theorem wd_exit (G : Sg z ch sg lone grown) (h : x.cps.toList = List.replicate n ch) (hn : 1 ≤ n) (q : Wd x w) (e : ¬ tokTab.lookup (Txt.slice x none (some w)) = none) :
  ∃ kind, tokTab.lookup (Txt.slice x none (some w)) = some kind ∧ (kind = lone ∨ kind = grown) ∧ ((kind = grown → z ≤ n ∧ (Txt.slice x (some w) none).cps.toList = List.replicate (n - z) ch) ∧ (kind ≠ grown → ¬ z ≤ n ∧ (Txt.slice x (some w) none).cps.toList = List.replicate (n - 1) ch)) := by
 have hw : ∃ k : Nat, w = (k : Int) ∧ (k = 3 ∨ (k = 2 ∧ tokTab.lookup (chS ch (min 3 n)) = none) ∨ (k = 1 ∧ tokTab.lookup (chS ch (min 3 n)) = none ∧ tokTab.lookup (chS ch (min 2 n)) = none)) := by
  rw [← take_ch (k := 3) h, ← take_ch (k := 2) h]
  exact q.elim (fun q => ⟨3, q, .inl rfl⟩) fun q => q.elim (fun q => ⟨2, q.1, .inr (.inl ⟨rfl, q.2⟩)⟩) fun q => ⟨1, q.1, .inr (.inr ⟨rfl, q.2⟩)⟩
 refine el_EA hw fun k z9 q2 => ?_
 subst z9
 rw [take_ch h] at e ⊢
 rw [drop_ch h]
 refine (wd_core (L := fun n => tokTab.lookup (chS ch n)) G.t1 G.t2 hn q2 e).elim (fun r => ⟨lone, r.1, .inl rfl, fun e => absurd e G.l.2.2.2.2, fun _ => ⟨r.2.1, by rw [r.2.2]⟩⟩) fun r => ⟨grown, r.1, .inr rfl, fun _ => ⟨r.2.1, by rw [r.2.2]⟩, fun e => absurd rfl e⟩
theorem joi_c (ns : List Int) (M : Int) : (List.range (M + 1).toNat).map (fun (i : Nat) => ((ns.count (i : Int) : Nat) : Int)) = cnt0 ns M := by
 unfold cnt0 rangeKs
 rw [List.map_map, show (M + 1 - 0).toNat = (M + 1).toNat by lia]
 refine List.map_congr_left fun i _ => ?_
 show _ = ((ns.count (0 + (i : Int)) : Nat) : Int)
 rw [Int.zero_add]
theorem joi_g {c s R : List Int} (hlt : p < c.length) (h : jGo z n p c s = some R) : ∃ m, n = m + 1 ∧ 0 ≤ c.getD p.toNat 0 ∧ c.getD p.toNat 0 ≤ 1000 ∧ (z ≤ c.getD p.toNat 0 → p * z ≤ 1000) ∧ s.length ≤ 2000 ∧ jGo z m (p + 1) (jIn z p (c.getD p.toNat 0).toNat c s).1 (jIn z p (c.getD p.toNat 0).toNat c s).2 = some R := by
 cases n with
 | zero => rw [jGo, if_pos hlt] at h; cases h
 | succ n =>
  rw [jGo, if_pos hlt] at h
  split at h
  ·rename_i q; exact ⟨n, rfl, q.1, q.2.1, q.2.2.1, q.2.2.2, h⟩
  ·cases h
theorem joi_e {c s R : List Int} (hlt : ¬ p < c.length) (h : jGo z n p c s = some R) : s = R := by
 cases n with
 | zero => rw [jGo, if_neg hlt] at h; exact Option.some.inj h
 | succ n => rw [jGo, if_neg hlt] at h; exact Option.some.inj h
theorem joi_z {c s : List Int} {r : List Int × List Int} (h : jIn z p n c s = r) (h0 : n = 0) : r = (c, s) := by
 subst h0
 rw [← h, jIn.eq_1, if_neg (by lia), if_neg (by decide)]
theorem joi_1 (G : Sg z ch sg lone grown) {c s : List Int} {r : List Int × List Int} (h : jIn z p n c s = r) (h1 : z ≤ n) : jIn z p (n - z) (inc c (p * z)) s = r := by rw [← h, jIn.eq_1 z p n, if_pos ⟨by have := G.z2; lia, h1⟩]
theorem joi_2 {c s : List Int} {r : List Int × List Int} (hn : 1 ≤ n) (h : jIn z p n c s = r) (h1 : ¬ z ≤ n) : jIn z p (n - 1) c (s ++ [p]) = r := by rw [← h, jIn.eq_1 z p n, if_neg (fun q => h1 q.2), if_pos (show 0 < n from hn)]
theorem joi_i {c : List Int} (h : c.length ≤ 2000) (hp : 1 ≤ p) (hz : p * z ≤ 1000) (hz1 : 1 ≤ z) : (-2 ^ 63 ≤ p * z + 1 - c.length ∧ p * z + 1 - c.length < 2 ^ 63 ∧ 1 * (p * z + 1 - c.length).toNat ≤ 2 ^ 24) ∧ (c.length + ((List.replicate (p * z + 1 - c.length).toNat [(0 : Int)]).flatten).length ≤ 16000000) ∧
  (0 ≤ p * z ∧ p * z < (c ++ (List.replicate (p * z + 1 - c.length).toNat [(0 : Int)]).flatten).length ∧ (c ++ (List.replicate (p * z + 1 - c.length).toNat [(0 : Int)]).flatten).length ≤ 16000000) ∧
  (c ++ (List.replicate (p * z + 1 - c.length).toNat [(0 : Int)]).flatten).set (p * z).toNat ((c ++ (List.replicate (p * z + 1 - c.length).toNat [(0 : Int)]).flatten).getD (p * z).toNat 0 + 1) = inc c (p * z) := by
 have hpz : 0 ≤ p * z := Int.mul_nonneg (by exact Int.le_of_lt (by assumption)) (by exact Int.natCast_nonneg _)
 rw [rep_one_int, List.length_append, List.length_replicate]
 have e := gr_le (n := c.length) (m := p * z + 1) h (Int.le_trans (Int.add_le_add_right hz 1) (by decide))
 have e2 : c.length + (p * ↑z + 1 - ↑c.length).toNat ≤ 16000000 := Nat.le_trans e (by decide)
 exact ⟨rep_ok' (show (-10000 : Int) ≤ _ from Int.sub_le_sub (a := 0) (d := 10000) (Int.le_add_one hpz) (Int.ofNat_le.2 (Nat.le_trans h (by decide)))) (Int.le_trans (Int.sub_le_self _ (Int.natCast_nonneg _)) (Int.le_trans (Int.add_le_add_right hz 1) (by decide))), e2, ⟨hpz, gr_lt (Int.lt_add_one_of_le (Int.le_refl _)), e2⟩, rfl⟩
end
theorem joi_st {ns : List Int} {z ch : Nat} {sg : Str} {lone grown : Int} {R : List Int} {N : Nat} {P : SV → Nu → Prop} (G : Sg z ch sg lone grown) (hb : ∀ x ∈ ns, 1 ≤ x ∧ x ≤ 9) (hl : ns.length ≤ 200) (hne : ns ≠ []) (hR : ∀ M, M ∈ ns → (∀ a ∈ ns, a ≤ M) → jGo z N 1 (cnt0 ns M) [] = some R) (hP : ∀ k ν', ν'[k]? = some (.ints R) → P (.o k) ν') :
  st d_joi bl_joi2 (retK P) [.i z, .s sg, .i lone, .i grown, .u, .u, .u, .u, .u, .u] [.ro ns, .cell (.o 0), .tup [.i lone, .i grown]] := by
 refine ⟨List.length_pos_iff.mpr hne, fun M h1 h2 => ?_⟩
 have hM := hb M h1
 refine ⟨by lia, fun (i : Nat) => ((ns.count (i : Int) : Nat) : Int), fun i hi => rfl, ?_⟩
 rw [joi_c]
 have hc : (cnt0 ns M).length ≤ 2000 := by rw [← joi_c, List.length_map, List.length_range]; lia
 refine whl3 (fun p _ _ => [.i z, .s sg, .i lone, .i grown, .i p, .o 3, .o 4, .u, .u, .u]) (fun _ c s => [.junk, .junk, .junk, .ints c, .ints s]) (fun n p c s => 1 ≤ p ∧ c.length ≤ 2000 ∧ jGo z n p c s = some R) N (in3 [true, true, true, true, true, true, true, false, false, false] [false, false, false, true, true] _ _ _ rfl rfl rfl ⟨Int.le_refl 1, hc, hR M h1 h2⟩) fun n p c s k => ⟨by have := k.2.1; exact Nat.le_trans (by assumption) (by decide), fun hlt => ?_, fun hlt => ?_⟩
 ·(refine el_ERAAAA (joi_g hlt k.2.2) fun m z09 => ?_; subst z09; intro g0 g1 g2 g3 g4)
  have kc := k.2.1
  refine ⟨⟨by have := k.1; exact Int.le_of_lt (by assumption), hlt, by exact Nat.le_trans (by assumption) (by decide)⟩, ⟨G.sg.1, by lia, by exact Int.le_trans (by assumption) (by decide)⟩, ?_⟩
  refine whl3 (fun x _ _ => [.i z, .s sg, .i lone, .i grown, .i p, .o 3, .o 4, .s x, .u, .u]) (fun _ c s => [.junk, .junk, .junk, .ints c, .ints s]) (fun n x c' s' => x.cps.toList = List.replicate n ch ∧ n ≤ 1000 ∧ (z ≤ n → p * z ≤ 1000) ∧ s'.length + n ≤ 3000 ∧ c'.length ≤ 2000 ∧ jIn z p n c' s' = jIn z p (c.getD p.toNat 0).toNat c s) _ (in3 [true, true, true, true, true, true, true, true, false, false] [true, true, true, true, true] _ _ _ rfl rfl rfl ⟨G.sg.2 _, by lia, fun h => g2 (by lia), by lia, kc, rfl⟩) fun n x c' s' k2 => ⟨fun hx => ?_, fun hx => ?_⟩
  ·have hn : 1 ≤ n := Nat.pos_of_ne_zero fun e => hx ((chS_of k2.1).trans (by rw [e]; rfl))
   refine whl1 (fun w => [.i z, .s sg, .i lone, .i grown, .i p, .o 3, .o 4, .s x, .i w, .u]) (fun w => [.junk, .junk, .junk, .ints c', .ints s']) (fun n w => n = w.toNat ∧ Wd x w) _ (in1 [true, true, true, true, true, true, true, true, true, false] [true, true, true, true, true] _ rfl rfl rfl ⟨rfl, .inl rfl⟩) fun n2 w k3 => ⟨by rw [len_ch k2.1]; lia, rfl, fun e => ?_, fun e => ?_⟩
   ·have a := wd_step G k2.1 hn k3.2 e
    exact turn1 _ [true, true, true, true, true, true, true, true, true, false] [true, true, true, true, true] _ (k3.1 ▸ a.2) rfl rfl rfl ⟨rfl, a.1⟩
   ·refine el_EAAA (wd_exit G k2.1 hn k3.2 e) fun kind e1 e2 e3 e4 => ?_
    have hl : x.length ≤ 16000000 := by rw [len_ch k2.1]; exact Nat.le_trans k2.2.1 (by decide)
    have ht : kind < 256 := e2.elim (fun e => e ▸ G.l.2.1) fun e => e ▸ G.l.2.2.2.1
    refine ⟨hl, rfl, kind, e1, hl, fun _ => ⟨fun q => ?_, fun q => ?_⟩, fun q => absurd (decide_eq_true ht) q⟩
    ·have a := e3 q
     have b := joi_i k2.2.2.2.2.1 k.1 (k2.2.2.1 a.1) (by have := G.z2; lia)
     have hp : IntMulOk p z := IntMulOk.of_right (intBits_le_64 (by have := G.z2; exact Int.natCast_nonneg _) (by have := G.z2; lia))
     exact ⟨hp, by have := k2.2.2.2.2.1; exact Nat.le_trans (by assumption) (by decide), b.1, b.2.1, hp, b.2.2.1, b.2.2.1, turn3 (n - z) [true, true, true, true, true, true, true, true, false, false] [true, true, true, true, true] _ _ _ (Nat.sub_lt hn (by have := G.z2; lia)) rfl rfl rfl ⟨a.2, Nat.le_trans (Nat.sub_le _ _) k2.2.1, fun _ => k2.2.2.1 a.1, Nat.le_trans (Nat.add_le_add_left (Nat.sub_le _ _) _) k2.2.2.2.1, by rw [b.2.2.2]; exact inc_length _ _ k2.2.2.2.2.1 (k2.2.2.1 a.1), by rw [b.2.2.2]; exact joi_1 G k2.2.2.2.2.2 a.1⟩⟩
    ·have a := e4 q
     exact ⟨fun _ => ⟨Nat.le_trans (Nat.le_trans (Nat.le_add_right _ _) k2.2.2.2.1) (by decide), turn3 (n - 1) [true, true, true, true, true, true, true, true, false, false] [true, true, true, true, true] _ _ _ (Nat.sub_lt hn Nat.one_pos) rfl rfl rfl ⟨a.2, Nat.le_trans (Nat.sub_le _ _) k2.2.1, fun h => absurd (Nat.le_trans h (Nat.sub_le _ _)) a.1, by rw [List.length_append, List.length_singleton, Nat.add_assoc, Nat.add_sub_cancel' hn]; exact k2.2.2.2.1, k2.2.2.2.2.1, joi_2 hn k2.2.2.2.2.2 a.1⟩⟩, fun z => absurd (e2.resolve_right q) z⟩
  ·have h0 : n = 0 := (text_ne x n ch k2.1).mp (by rw [beq_iff_eq]; exact Decidable.not_not.mp hx)
   rw [joi_z k2.2.2.2.2.2 h0] at g4
   exact turn3 m [true, true, true, true, true, true, true, false, false, false] [true, true, true, true, true] _ _ _ (Nat.lt_succ_self m) rfl rfl rfl ⟨by have := k.1; exact Int.le_add_one (by assumption), k2.2.2.2.2.1, g4⟩
 ·exact hP _ _ (show some _ = some _ from congrArg (fun x => some (SO.ints x)) (joi_e hlt k.2.2))
theorem good_joi : Good 199 500 5000 C_joi :=
 goodX (b := bl_joi) (F := fn_joi) (Ds := d_joi.D) (Cl := [(31, C_ist)]) [Str.ofString "parts", Str.ofString "size"] [] (fun _ => rfl) (fun _ => rfl) (by decide) (by decide) (fun s pos h => by (refine el_EEr (ex2 h) fun a b z09 => ?_; subst z09); exact .of_eq rfl) rfl (by decide) rfl rfl rfl rfl (fun _ => ⟨⟨rfl, rfl⟩, ⟨rfl, rfl⟩, trivial⟩) (by decide) List.nodup_nil (fun _ => ⟨⟨_, rfl, rfl, rfl, fun _ => trivial, ⟨⟨(.head _), rfl⟩, trivial⟩⟩, trivial⟩) ⟨⟨_, _, by decide, by decide, good_ist⟩, trivial⟩ 1 rfl fun vs ν K h => by
  (refine el_EER (a2_inv h) fun a b z09 => ?_; subst z09; intro h)
  (refine el_EERA (wL_inv h) fun k ns z09 => ?_; subst z09; intro hk h)
  (refine el_ER (wI_inv h) fun z z09 => ?_; subst z09; intro h)
  refine ⟨rfl, rfl, (fun _ h => nomatch h), fun tb e => ?_⟩
  cases e
  show st d_joi bl_joi _ [.i z, .u, .u, .u, .u, .u, .u, .u, .u, .u] [impK ν k, .cell (.o 0)]
  rw [roI hk]
  (refine el_AEEA h fun R N => ?_; try clear h; intro q hR hK)
  refine ⟨fun hz => ⟨fun _ => ?_, fun h => absurd hz h⟩, fun hz => ⟨fun h => absurd h hz, fun _ => ?_⟩⟩
  ·subst hz
   exact ⟨_, _, rfl, joi_st sg2 q.1 q.2.1 q.2.2.1 hR fun k ν' e => ⟨trivial, dvI e hK⟩⟩
  ·cases q.2.2.2.resolve_left hz
   exact ⟨_, _, rfl, joi_st sg3 q.1 q.2.1 q.2.2.1 hR fun k ν' e => ⟨trivial, dvI e hK⟩⟩
end Mine
end
section
namespace Mine
open PySem PySem.W PySem.Calls PySem.Spec PyProof.Rows
noncomputable def wW (a : SV) (ν : Nu) (k : Int → Int → Int → List Int → Prop) : Prop := wO a ν fun _ so => match so with | .ws n b nt cnt => k n b nt cnt | _ => False
theorem wW_inv {a : SV} {ν : Nu} {k : Int → Int → Int → List Int → Prop} (h : wW a ν k) : ∃ j n b nt cnt, a = .o j ∧ ν[j]? = some (SO.ws n b nt cnt) ∧ k n b nt cnt := by
 (refine el_EERA (wO_inv h) fun j so z09 => ?_; subst z09; intro e h)
 cases so <;> first | exact ⟨j, _, _, _, _, rfl, e, h⟩ | exact h.elim
theorem roW {k : Nat} {n b nt : Int} {cnt : List Int} {ν : Nu} (h : ν[k]? = some (.ws n b nt cnt)) : impK ν k = .ws n b nt cnt := by
 unfold impK; rw [h]; rfl
noncomputable def C_run : Co := fun vs ν K => a1 vs fun a => wW a ν fun _ b _ cnt => cnt.length ≤ 10001 ∧ K (.i (runF b cnt)) ν
noncomputable def C_ind : Co := fun vs ν K => a2 vs fun a t => wW a ν fun _ b nt cnt => wI t fun ts => (2 ≤ ts ∧ ts ≤ 10 ∧ cnt.length ≤ 10001) ∧ K (.i (lvl ts b nt cnt)) ν
noncomputable def C_les : Co := fun vs ν K => a2 vs fun x y => wW x ν fun n1 b1 nt1 c1 => wW y ν fun n2 b2 nt2 c2 => (2 ≤ c1.length ∧ c1.length ≤ 10001 ∧ c2.length ≤ 10001 ∧ runF b1 c1 ≤ 9 ∧ runF b2 c2 ≤ 9 ∧ 0 ≤ b1 ∧ 0 ≤ b2) ∧ K (.b (lessF n1 b1 nt1 c1 n2 b2 nt2 c2)) ν
noncomputable def fn_run : Fn := { ns := [Str.ofString "self", Str.ofString "count", Str.ofString "trailing"], bi := [.max, .len] }
noncomputable def bl_run : B := (.unp 1 2 (.att .norm (.loc 0 26 30) 26 35) 187 8 13 15 23 35 (.ret (.b2 0 (.bin .sub (.b1 1 (.loc 1 23 28) 22 19 29) (.int 1 32 33) 19 33) (.loc 2 35 43) 18 15 44) 188 8 44 .nil))
noncomputable abbrev d_run : Df := { F := fn_run, D := [], C := lookC [] }
theorem good_run : Good 126 750 7500 C_run :=
 goodX (b := bl_run) (F := fn_run) (Ds := d_run.D) (Cl := []) [Str.ofString "self"] [] (fun _ => rfl) (fun _ => rfl) (by decide) (by decide) (fun s pos h => by obtain ⟨a, rfl⟩ := ex1 h; exact .of_eq rfl) rfl (by decide) rfl rfl rfl rfl (fun _ => trivial) (by decide) List.nodup_nil (fun _ => trivial) trivial 1 rfl fun vs ν K h => by
  (refine el_ER (a1_inv h) fun a z09 => ?_; subst z09; intro h)
  obtain ⟨k, n, b, nt, cnt, rfl, hk, hl, hK⟩ := wW_inv h
  refine ⟨rfl, rfl, (fun _ h => nomatch h), fun tb e => ?_⟩
  cases e
  show st d_run bl_run _ [.o 0, .u, .u] [impK ν k]
  rw [roW hk]
  exact ⟨by exact Nat.le_trans (by assumption) (by decide), trivial, hK⟩
noncomputable def fn_ind : Fn := { ns := [Str.ofString "self", Str.ofString "tabsize", Str.ofString "count", Str.ofString "trailing", Str.ofString "il", Str.ofString "i"], bi := [.range, .len] }
noncomputable def bl_ind : B := (.unp 2 3 (.att .norm (.loc 0 26 30) 26 35) 191 8 13 15 23 35 (.set 4 (.int 0 13 14) 192 8 10 14 (.forR2 5 0 (.loc 1 23 30) (.b1 1 (.loc 2 36 41) 35 32 42) 22 17 43 (.set 4 (.bin .add (.loc 4 17 19) (.bin .mul (.bin .div (.loc 5 22 23) (.loc 1 27 34) 22 34) (.sub (.loc 2 37 42) (.loc 5 43 44) 37 45) 22 45) 17 45) 194 12 14 45 .nil) 193 8 12 13 194 45 (.ret (.bin .add (.loc 3 15 23) (.bin .mul (.loc 1 26 33) (.bin .add (.loc 4 37 39) (.att .nt (.loc 0 42 46) 42 49) 37 49) 26 50) 15 50) 195 8 50 .nil))))
noncomputable abbrev d_ind : Df := { F := fn_ind, D := [], C := lookC [] }
theorem ind_a {ts : Int} {i : Nat} {cnt : List Int} (h1 : 2 ≤ ts) (h2 : ts ≤ 10) (hl : cnt.length ≤ 10001) (hi : i < ((cnt.length : Int) - ts).toNat) : (0 ≤ ts + (i : Int) ∧ ts + (i : Int) < cnt.length ∧ cnt.length ≤ 16000000) ∧ 0 ≤ (ts + (i : Int)) / ts ∧ (ts + (i : Int)) / ts ≤ 10001 := by
 have h0 : 0 ≤ ts + (i : Int) := by lia
 have hb : ts + (i : Int) < cnt.length := by omega
 exact ⟨⟨h0, hb, by exact Nat.le_trans (by assumption) (by decide)⟩, Int.ediv_nonneg h0 (by lia), Int.le_trans (Int.ediv_le_self _ h0) (by lia)⟩
theorem ind_b {ts il : Int} {i : Nat} {cnt : List Int} (h : il = (rangeKs ts i).foldl (fun il i => il + i / ts * cnt.getD i.toNat 0) 0) : il + (ts + (i : Int)) / ts * cnt.getD (ts + (i : Int)).toNat 0 = (rangeKs ts (i + 1)).foldl (fun il i => il + i / ts * cnt.getD i.toNat 0) 0 := by
 rw [rangeKs_succ, List.foldl_append, ← h]; rfl
theorem ind_st {n b nt ts : Int} {cnt : List Int} {P : SV → Nu → Prop} (h1 : 2 ≤ ts) (h2 : ts ≤ 10) (hl : cnt.length ≤ 10001) (hP : ∀ ν', P (.i (lvl ts b nt cnt)) ν') : st d_ind bl_ind (retK P) [.o 0, .i ts, .u, .u, .u, .u] [.ws n b nt cnt] := by
 refine ⟨by exact Nat.le_trans (by assumption) (by decide), ⟨(r62 (Int.le_trans (by decide) h1) (Int.le_trans h2 (by decide))).1, (r62 (Int.le_trans (by decide) h1) (Int.le_trans h2 (by decide))).2, r62n hl⟩, for1 (fun il => [.o 0, .i ts, .o 2, .i b, .i il, .u]) (fun _ => [.ws n b nt cnt, .junk, .ti cnt]) (fun i il => il = (rangeKs ts i).foldl (fun il i => il + i / ts * cnt.getD i.toNat 0) 0) (in1 [true, true, true, true, true, false] [true, false, true] _ rfl rfl rfl rfl) (fun i il hi h => ?_) fun il h => ?_⟩
 ·have a := ind_a h1 h2 hl hi
  exact ⟨by lia, a.1, IntMulOk.of_left (intBits_le_64 (by omega) (by omega)), in1 [true, true, true, true, true, false] [true, false, true] _ rfl rfl rfl (ind_b h)⟩
 ·refine ⟨IntMulOk.of_left (intBits_le_64 (by lia) (by exact Int.lt_of_le_of_lt (by assumption) (by decide))), ?_⟩
  rw [h]; exact hP _
theorem good_ind : Good 133 750 7500 C_ind :=
 goodX (b := bl_ind) (F := fn_ind) (Ds := d_ind.D) (Cl := []) [Str.ofString "self", Str.ofString "tabsize"] [] (fun _ => rfl) (fun _ => rfl) (by decide) (by decide) (fun s pos h => by (refine el_EEr (ex2 h) fun a b z09 => ?_; subst z09); exact .of_eq rfl) rfl (by decide) rfl rfl rfl rfl (fun _ => trivial) (by decide) List.nodup_nil (fun _ => trivial) trivial 1 rfl fun vs ν K h => by
  (refine el_EER (a2_inv h) fun a t z09 => ?_; subst z09; intro h)
  (refine el_EEEEERA (wW_inv h) fun k n b nt cnt z09 => ?_; subst z09; intro hk h)
  (refine el_ERA (wI_inv h) fun ts z09 => ?_; subst z09; intro q hK)
  refine ⟨rfl, rfl, (fun _ h => nomatch h), fun tb e => ?_⟩
  cases e
  show st d_ind bl_ind _ [.o 0, .i ts, .u, .u, .u, .u] [impK ν k]
  rw [roW hk]
  exact ind_st q.1 q.2.1 q.2.2 fun _ => ⟨trivial, hK⟩
noncomputable def fn_les : Fn := { ns := [Str.ofString "self", Str.ofString "other", Str.ofString "n", Str.ofString "ts"], bi := [.max, .range] }
noncomputable def bl_les : B := (.ite (.cmp .ge (.att .n (.loc 0 11 15) 11 17) (.att .n (.loc 1 21 26) 21 28) 11 28) (.ret (.bool false 19 24) 205 12 24 .nil) .nil 204 8 205 24 (.ite (.and (.att .simp (.loc 0 11 15) 11 25) (.att .simp (.loc 1 30 35) 30 45) 11 45) (.ret (.cmp .le (.att .nt (.loc 0 19 23) 19 26) (.att .nt (.loc 1 30 35) 30 38) 19 38) 207 12 38 .nil) .nil 206 8 207 38 (.set 2 (.bin .add (.b2 0 (.meth0 .run (.loc 0 16 20) 42 16 44) (.meth0 .run (.loc 1 46 51) 73 46 75) 15 12 76) (.int 1 79 80) 12 80) 208 8 9 80 (.forR2 3 1 (.int 2 24 25) (.bin .add (.loc 2 27 28) (.int 1 31 32) 27 32) 23 18 33 (.ite (.cmp .ge (.meth1 .indent (.loc 0 15 19) (.loc 3 33 35) 32 15 36) (.meth1 .indent (.loc 1 40 45) (.loc 3 59 61) 58 40 62) 15 62) (.ret (.bool false 23 28) 211 16 28 .nil) .nil 210 12 211 28 .nil) 209 8 12 14 211 28 (.ret (.bool true 15 19) 212 8 19 .nil)))))
noncomputable abbrev d_les : Df := { F := fn_les, D := [], C := lookC [(126, C_run), (133, C_ind)] }
section
variable {n1 b1 nt1 n2 b2 nt2 : Int} {c1 c2 : List Int}
theorem les_lo {b : Int} {c : List Int} (h : 0 ≤ b) : -1 ≤ runF b c := by unfold runF; split <;> lia
theorem les_t {M : Int} (h1 : ¬ n2 ≤ n1) (hM : (if runF b2 c2 > runF b1 c1 then runF b2 c2 else runF b1 c1) = M) : lessF n1 b1 nt1 c1 n2 b2 nt2 c2 = (rangeKs 2 (M + 1 + 1 - 2).toNat).all fun ts => decide (lvl ts b1 nt1 c1 < lvl ts b2 nt2 c2) := by
 unfold lessF; rw [if_neg h1, hM]
theorem les_r {M : Int} {i : Nat} (hm : -1 ≤ M ∧ M ≤ 9) (hi : i < (M + 1 + 1 - 2).toNat) : 2 ≤ 2 + (i:Int) ∧ 2 + (i:Int) ≤ 10 :=
 ⟨Int.le_add_of_nonneg_right (Int.natCast_nonneg i), Int.add_le_add_left (Int.ofNat_le.2 (Nat.le_of_lt_succ (Nat.lt_of_lt_of_le hi (Int.toNat_le.2 (Int.sub_right_le_of_le_add (Int.add_le_add_right (Int.add_le_add_right hm.2 1) 1)))))) 2⟩
theorem les_m {M : Int} (hm : -1 ≤ M ∧ M ≤ 9) : -2 ^ 62 ≤ M + 1 + 1 ∧ M + 1 + 1 < 2 ^ 62 := r62 (Int.le_trans (by decide) (Int.add_le_add_right (Int.add_le_add_right hm.1 1) 1)) (Int.le_trans (Int.add_le_add_right (Int.add_le_add_right hm.2 1) 1) (by decide))
theorem les_st {P : SV → Nu → Prop} (l1 : 2 ≤ c1.length) (l2 : c1.length ≤ 10001) (l3 : c2.length ≤ 10001) (r1 : runF b1 c1 ≤ 9) (r2 : runF b2 c2 ≤ 9) (p1 : 0 ≤ b1) (p2 : 0 ≤ b2) (hP : ∀ ν', P (.b (lessF n1 b1 nt1 c1 n2 b2 nt2 c2)) ν') :
  st d_les bl_les (retK P) [.o 0, .o 1, .u, .u] [.ws n1 b1 nt1 c1, .ws n2 b2 nt2 c2] := by
 refine ⟨fun h => ?_, fun h1 => ⟨fun h => absurd (of_decide_eq_true h) (by lia), fun _ => ⟨l2, l3, ?_⟩⟩⟩
 ·have e : lessF n1 b1 nt1 c1 n2 b2 nt2 c2 = false := by unfold lessF; rw [if_pos h]
  rw [e] at hP; exact hP _
 ·have e := les_t (b1 := b1) (nt1 := nt1) (b2 := b2) (nt2 := nt2) (c1 := c1) (c2 := c2) h1 rfl
  have q1 := les_lo (c := c1) p1
  have q2 := les_lo (c := c2) p2
  have hm : -1 ≤ (if runF b2 c2 > runF b1 c1 then runF b2 c2 else runF b1 c1) ∧ (if runF b2 c2 > runF b1 c1 then runF b2 c2 else runF b1 c1) ≤ 9 := by split <;> lia
  refine ⟨⟨by decide, by decide, les_m hm⟩, for1 (fun (_ : Unit) => [.o 0, .o 1, .u, .u]) (fun _ => [.ws n1 b1 nt1 c1, .ws n2 b2 nt2 c2]) (fun i _ => ((rangeKs 2 i).all fun ts => decide (lvl ts b1 nt1 c1 < lvl ts b2 nt2 c2)) = true) (in1 [true, true, false, false] [true, true] () rfl rfl rfl rfl) (fun i _ hi h => ?_) fun _ h => ?_⟩
  ·refine ⟨⟨(les_r hm hi).1, (les_r hm hi).2, l2⟩, ⟨(les_r hm hi).1, (les_r hm hi).2, l3⟩, fun hg => ?_, fun hg => in1 [true, true, false, false] [true, true] () rfl rfl rfl ?_⟩
   ·have : lessF n1 b1 nt1 c1 n2 b2 nt2 c2 = false := by
     rw [e, List.all_eq_false]
     exact ⟨2 + (i : Int), List.mem_map.mpr ⟨i, List.mem_range.mpr hi, rfl⟩, by simpa using hg⟩
    rw [this] at hP; exact hP _
   ·rw [rangeKs_succ, List.all_append, h, Bool.true_and, List.all_cons, List.all_nil, Bool.and_true]
    exact decide_eq_true (Int.not_le.mp hg)
  ·rw [e, h] at hP; exact hP _
end
theorem good_les : Good 154 700 7000 C_les :=
 goodX (b := bl_les) (F := fn_les) (Ds := d_les.D) (Cl := [(126, C_run), (133, C_ind)]) [Str.ofString "self", Str.ofString "other"] [] (fun _ => rfl) (fun _ => rfl) (by decide) (by decide) (fun s pos h => by (refine el_EEr (ex2 h) fun a b z09 => ?_; subst z09); exact .of_eq rfl) rfl (by decide) rfl rfl rfl rfl (fun _ => trivial) (by decide) List.nodup_nil (fun _ => trivial) ⟨⟨_, _, by decide, by decide, good_run⟩, ⟨_, _, by decide, by decide, good_ind⟩, trivial⟩ 2 rfl fun vs ν K h => by
  (refine el_EER (a2_inv h) fun x y z09 => ?_; subst z09; intro h)
  (refine el_EEEEERA (wW_inv h) fun j n1 b1 nt1 c1 z09 => ?_; subst z09; intro hj h)
  obtain ⟨k, n2, b2, nt2, c2, rfl, hk, q, hK⟩ := wW_inv h
  refine ⟨rfl, rfl, (fun _ h => nomatch h), fun tb e => ?_⟩
  cases e
  show st d_les bl_les _ [.o 0, .o 1, .u, .u] [impK ν j, impK ν k]
  rw [roW hj, roW hk]
  exact les_st q.1 q.2.1 q.2.2.1 q.2.2.2.1 q.2.2.2.2.1 q.2.2.2.2.2.1 q.2.2.2.2.2.2 fun _ => ⟨trivial, hK⟩
end Mine
end
section
namespace Mine
open PySem PySem.W PySem.Calls PySem.Spec PyProof.Rows
theorem hex_len {i : Int} {k : Nat} (hk : 1 ≤ k) (h : i.natAbs < 16 ^ k) : (PySem.baseText "0x" 16 i).length ≤ k + 3 := by
 have h1 := toDigits_len_pow (b := 16) (by decide) hk h
 unfold PySem.baseText
 rw [Str.length_append, Str.length_append]
 have h4 := ofString_ofList_length (Nat.toDigits 16 i.natAbs)
 have h3 : (Str.ofString (if i < 0 then "-" else "")).length ≤ 1 := by
  split <;> (rw [PyProof.Rows.ofString_len]; decide)
 have h2 : (Str.ofString "0x").length = 2 := by decide
 lia
theorem nameP_len {i : Nat} (h : i < 32) : (nameP i).length ≤ 20 := by
 by_cases h10 : i < 10
 ·exact (by decide : ∀ k : Fin 10, (nameP k.val).length ≤ 20) ⟨i, h10⟩
 ·have e : nameP i = PySem.baseText "0x" 16 (2 ^ i) := by
   unfold nameP
   rw [List.getElem?_eq_none (by show 10 ≤ i; exact Nat.le_of_not_lt (by assumption))]; rfl
  rw [e]
  refine Nat.le_trans (hex_len (k := 8) (by decide) ?_) (by decide)
  rw [Int.natAbs_pow]
  exact Nat.lt_of_lt_of_le (Nat.pow_lt_pow_right (by decide) h) (by decide)
theorem sum_len : ∀ {ws : List Str} {B : Nat}, (∀ x ∈ ws, x.length ≤ B) → (ws.map (·.length)).sum ≤ B * ws.length
 | [], B, _ => by simp
 | x :: ws, B, h => by
  have h1 := h x List.mem_cons_self
  have h2 := sum_len (ws := ws) (B := B) fun y hy => h y (List.mem_cons_of_mem _ hy)
  rw [List.map_cons, List.sum_cons, List.length_cons, Nat.mul_add]; lia
theorem nameT_eq : nameT = [Str.ofString "OPTIMIZED", Str.ofString "NEWLOCALS", Str.ofString "VARARGS", Str.ofString "VARKEYWORDS", Str.ofString "NESTED", Str.ofString "GENERATOR", Str.ofString "NOFREE", Str.ofString "COROUTINE", Str.ofString "ITERABLE_COROUTINE", Str.ofString "ASYNC_GENERATOR"] := by decide +kernel
theorem ok_ofString (x : String) : PyData.strOk (Str.ofString x) = true := by
 unfold PyData.strOk
 rw [Array.all_eq_true']
 intro c hc
 have hc2 : c ∈ x.toList.map Char.toNat := by
  have : (Str.ofString x).cps.toList = x.toList.map Char.toNat := by rw [PySem.Str.ofString_eq_toList]
  rw [← this]; exact Array.mem_toList_iff.mpr hc
 (refine el_EAr (List.mem_map.mp hc2) fun ch z09 => ?_; subst z09; intro _)
 have := ch.valid
 rw [decide_eq_true_eq]
 rcases this with h | h
 ·exact Nat.lt_trans h (by decide)
 ·exact h.2
theorem ok_append {a b : Str} (ha : PyData.strOk a = true) (hb : PyData.strOk b = true) : PyData.strOk (a ++ b) = true := by
 unfold PyData.strOk at *
 show (a.cps ++ b.cps).all _ = true
 rw [Array.all_append, ha, hb]; rfl
theorem ok_name (i : Nat) : PyData.strOk (nameP i) = true := by
 by_cases h10 : i < 10
 ·have : i = 0 ∨ i = 1 ∨ i = 2 ∨ i = 3 ∨ i = 4 ∨ i = 5 ∨ i = 6 ∨ i = 7 ∨ i = 8 ∨ i = 9 := by lia
  rcases this with rfl | rfl | rfl | rfl | rfl | rfl | rfl | rfl | rfl | rfl <;> decide +kernel
 ·have e : nameP i = PySem.baseText "0x" 16 (2 ^ i) := by
   unfold nameP
   rw [List.getElem?_eq_none (by show 10 ≤ i; exact Nat.le_of_not_lt (by assumption))]; rfl
  rw [e]
  unfold PySem.baseText
  exact ok_append (ok_append (ok_ofString _) (ok_ofString _)) (ok_ofString _)
noncomputable def wordsF (ps : List Int) : List Str := ((ps.filter fun p => p < 32).map fun p => nameP p.toNat) ++ if ((ps.filter fun p => 32 ≤ p).map fun p => (2 : Int) ^ p.toNat).sum ≠ 0 ∨ (ps.filter fun p => p < 32) = [] then [PySem.baseText "0x" 16 ((ps.filter fun p => 32 ≤ p).map fun p => (2 : Int) ^ p.toNat).sum] else []
theorem filt_getD {α : Type} (P : Int → Bool) (g : Int → α) (ns : List Int) : ((List.range ns.length).filter fun i => P (ns.getD i 0)).map (fun i => g (ns.getD i 0)) = (ns.filter P).map g := by
 have e := map_getD (fun x => x) ns
 rw [List.map_id'] at e
 conv => rhs; rw [← e]
 rw [List.filter_map, List.map_map]; rfl
theorem hexP {i : Nat} (h : i < 32) : (PySem.baseText "0x" 16 ((2 : Int) ^ i)).length ≤ sizeLine := by
 refine Nat.le_trans (hex_len (k := 8) (by decide) ?_) (by rw [sizeLine_eq]; decide)
 rw [Int.natAbs_pow]
 exact Nat.lt_of_lt_of_le (Nat.pow_lt_pow_right (by decide) h) (by decide)
theorem nameP_hex {i : Nat} (h : ¬ i < 10) : nameP i = PySem.baseText "0x" 16 ((2 : Int) ^ i) := by
 unfold nameP
 rw [List.getElem?_eq_none (by show 10 ≤ i; exact Nat.le_of_not_lt (by assumption))]; rfl
noncomputable def fn_wo : Fn := { ns := [Str.ofString "places", Str.ofString "words", Str.ofString "above"], cs := [(1, Str.ofString "names")], bi := [.sum, .hex] }
noncomputable def cd_wo0 : CD := { x := Str.ofString "place", c := 65, e := 70, sc := {kind := ScopeKind.function, names := [ (Str.ofString ".0", NameKind.local), (Str.ofString "place", NameKind.local), (Str.ofString "hex", NameKind.globalImplicit), (Str.ofString "names", NameKind.free)], isGenerator := false, isCoroutine := false, more := []}, F := { ns := [Str.ofString "place"], cs := [(1, Str.ofString "names")], bi := [.hex] } }
noncomputable def cd_wo1 : CD := { x := Str.ofString "place", c := 32, e := 37, sc := {kind := ScopeKind.function, names := [(Str.ofString ".0", NameKind.local), (Str.ofString "place", NameKind.local)], isGenerator := false, isCoroutine := false, more := []}, F := { ns := [Str.ofString "place"] } }
noncomputable def bl_wo : B := (.setc 0 (.tupS [(Str.ofString "OPTIMIZED", 13, 24), (Str.ofString "NEWLOCALS", 26, 37), (Str.ofString "VARARGS", 39, 48), (Str.ofString "VARKEYWORDS", 50, 63), (Str.ofString "NESTED", 65, 73), (Str.ofString "GENERATOR", 75, 86), (Str.ofString "NOFREE", 88, 96), (Str.ofString "COROUTINE", 98, 109), (Str.ofString "ITERABLE_COROUTINE", 111, 131), (Str.ofString "ASYNC_GENERATOR", 133, 150)] 12 151) 303 4 9 151 (.setF 1 .strs 0 (.ife (.cmp .lt (.loc 0 29 34) (.int 10 37 39) 29 39) (.sub (.cel 0 13 18) (.loc 0 19 24) 13 25) (.b1 0 (.bin .shl (.int 1 49 50) (.loc 0 54 59) 49 59) 48 45 60) 13 60) (.cmp .lt (.loc 0 84 89) (.int 32 92 94) 84 94) (.loc 0 74 80) 304 4 9 12 95 (.set 2 (.b1 0 (.compF .ints 1 (.bin .shl (.int 1 17 18) (.loc 0 22 27) 17 27) (.cmp .ge (.loc 0 51 56) (.int 32 60 62) 51 62) (.loc 0 41 47) 16 63) 15 12 64) 305 4 9 64 (.ite (.or (.cmp .ne (.loc 2 7 12) (.int 0 16 17) 7 17) (.cmp .eq (.loc 1 21 26) (.nil false 30 32) 21 32) 7 32) (.expr (.m1 .append (.loc 1 8 13) (.b1 1 (.loc 2 25 30) 24 21 31) 20 8 32) 307 8 32 .nil) .nil 306 4 307 32 (.ret (.m1 .join (.str (Str.ofString ", ") 11 15) (.loc 1 21 26) 20 11 27) 308 4 27 .nil)))))
noncomputable abbrev d_wo : Df := { F := fn_wo, D := [cd_wo0, cd_wo1], C := lookC [] }
noncomputable def C_wo : Co := fun vs ν K => a1 vs fun a => wL a ν fun ps => ((∀ x ∈ ps, 0 ≤ x ∧ x < 290) ∧ ps.length ≤ 100) ∧ K (.s (Txt.join (Str.ofString ", ") (wordsF ps))) ν
theorem wo_n {i : Nat} (h : i < 10) : ∀ xs : List Str, nameT = xs → (xs.map SV.s)[i]? = some (.s (nameP i)) := by
 rintro xs rfl
 have hl : i < nameT.length := h
 rw [List.getElem?_map]
 unfold nameP
 rw [List.getElem?_eq_getElem hl]; rfl
theorem wo_sum {ps : List Int} (hb : ∀ x ∈ ps, 0 ≤ x ∧ x < 290) (hl : ps.length ≤ 100) : (((ps.filter fun p => 32 ≤ p).map fun p => (2 : Int) ^ p.toNat).sum).natAbs < 16 ^ 75 := by
 have key : ∀ l : List Int, (∀ x ∈ l, 0 ≤ x ∧ x < 290) → 0 ≤ (l.map fun p => (2 : Int) ^ p.toNat).sum ∧ (l.map fun p => (2 : Int) ^ p.toNat).sum ≤ l.length * 2 ^ 290 := by
  intro l
  induction l with
  | nil => intro _; exact ⟨Int.le_refl _, Int.le_refl _⟩
  | cons x r ih =>
   intro h
   have h1 := ih fun y hy => h y (List.mem_cons_of_mem _ hy)
   have hx := h x List.mem_cons_self
   have h2 : (2 : Int) ^ x.toNat < 2 ^ 290 := Int.pow_lt_pow_of_lt (by decide) (by lia)
   have h3 : (0 : Int) < 2 ^ x.toNat := Int.pow_pos (by decide)
   rw [List.map_cons, List.sum_cons, List.length_cons, show ((r.length + 1 : Nat) : Int) = (r.length : Int) + 1 from rfl, Int.add_mul]
   exact ⟨Int.add_nonneg (Int.le_of_lt h3) h1.1, by rw [Int.one_mul, Int.add_comm]; exact Int.add_le_add h1.2 (Int.le_of_lt h2)⟩
 have h1 := key (ps.filter fun p => 32 ≤ p) fun x hx => hb x (List.mem_filter.mp hx).1
 have h2 : (((ps.filter fun p => 32 ≤ p).length : Nat) : Int) ≤ 100 := Int.ofNat_le.mpr (Nat.le_trans (List.length_filter_le _ ps) hl)
 have h3 := Int.le_trans h1.2 (Int.mul_le_mul_of_nonneg_right h2 (Int.le_of_lt (Int.pow_pos (by decide))))
 have e : ((16 : Nat) ^ 75 : Nat) = ((2 : Int) ^ 300).natAbs := by decide +kernel
 have e2 : (100 : Int) * 2 ^ 290 < 2 ^ 300 := by decide +kernel
 rw [e]
 exact Int.natAbs_lt_natAbs_of_nonneg_of_lt h1.1 (Int.lt_of_le_of_lt h3 e2)
theorem wo_join {xs : List Str} (h : ∀ x ∈ xs, x.length ≤ 78) (hl : xs.length ≤ 101) : (xs.map (·.length)).sum + xs.length * (Str.ofString ", ").length ≤ 16777216 := by
 have := sum_len h
 have e : (Str.ofString ", ").length = 2 := by decide
 rw [e]; lia
theorem wo_len {ps : List Int} (hb : ∀ x ∈ ps, 0 ≤ x ∧ x < 290) : ∀ x ∈ (ps.filter fun p => p < 32).map (fun p => nameP p.toNat), x.length ≤ 78 := fun x hx => by
 (refine el_EAr (List.mem_map.mp hx) fun p z09 => ?_; subst z09; intro hp)
 obtain ⟨hp1, hp2⟩ := List.mem_filter.mp hp
 exact Nat.le_trans (nameP_len (by have := (hb p hp1).1; have := of_decide_eq_true hp2; lia)) (by decide)
theorem wo_end {W : List Str} {T : Int} (hw : ∀ x ∈ W, x.length ≤ 78) (hwl : W.length ≤ 100) (hh : (PySem.baseText "0x" 16 T).length ≤ 78) : (PySem.baseText "0x" 16 T).length ≤ sizeLine ∧ W.length ≤ 16000000 ∧
  ((W ++ [PySem.baseText "0x" 16 T]).map (·.length)).sum + (W ++ [PySem.baseText "0x" 16 T]).length * (Str.ofString ", ").length ≤ 16777216 ∧ (W.map (·.length)).sum + W.length * (Str.ofString ", ").length ≤ 16777216 :=
 ⟨Nat.le_trans hh (by rw [sizeLine_eq]; decide), by exact Nat.le_trans (by assumption) (by decide), wo_join (fun x hx => (List.mem_append.mp hx).elim (hw x) fun hx => by rw [List.mem_singleton.mp hx]; exact hh) (by rw [List.length_append]; exact Nat.add_le_add hwl (Nat.le_refl 1)), wo_join hw (Nat.le_succ_of_le hwl)⟩
theorem wo_y {ps : List Int} {P : SV → Nu → Prop} (h : ((ps.filter fun p => 32 ≤ p).map fun p => (2 : Int) ^ p.toNat).sum ≠ 0 ∨ (ps.filter fun p => decide (p < 32)) = []) (hP : ∀ ν', P (.s (Txt.join (Str.ofString ", ") (wordsF ps))) ν') (ν' : Nu) : P (.s (Txt.join (Str.ofString ", ") (((ps.filter fun p => p < 32).map fun p => nameP p.toNat) ++ [PySem.baseText "0x" 16 ((ps.filter fun p => 32 ≤ p).map fun p => (2 : Int) ^ p.toNat).sum]))) ν' := by
 unfold wordsF at hP; rw [if_pos h] at hP; exact hP ν'
theorem wo_n' {ps : List Int} {P : SV → Nu → Prop} (h : ¬ (((ps.filter fun p => 32 ≤ p).map fun p => (2 : Int) ^ p.toNat).sum ≠ 0 ∨ (ps.filter fun p => decide (p < 32)) = [])) (hP : ∀ ν', P (.s (Txt.join (Str.ofString ", ") (wordsF ps))) ν') (ν' : Nu) : P (.s (Txt.join (Str.ofString ", ") ((ps.filter fun p => p < 32).map fun p => nameP p.toNat))) ν' := by
 unfold wordsF at hP; rw [if_neg h, List.append_nil] at hP; exact hP ν'
theorem wo_st {ps : List Int} {P : SV → Nu → Prop} (hb : ∀ x ∈ ps, 0 ≤ x ∧ x < 290) (hl : ps.length ≤ 100) (hP : ∀ ν', P (.s (Txt.join (Str.ofString ", ") (wordsF ps))) ν') : st d_wo bl_wo (retK P) [.o 0, .u, .u] [.ro ps, .cell .u] := by
 refine ⟨by decide, by exact Nat.le_trans (by assumption) (by decide), fun i => decide (ps.getD i 0 < 32), fun i => nameP (ps.getD i 0).toNat, fun i hi => ?_, ?_⟩
 ·have hx := hb _ (getD_mem hi)
  refine ⟨fun h => ⟨decide_eq_true h, fun h10 => ⟨hx.1, by decide, _, wo_n (by lia) _ nameT_eq, rfl⟩, fun h10 => ⟨⟨hx.1, by exact Int.le_of_lt (Int.lt_of_lt_of_le (by assumption) (by decide)), by decide⟩, ?_⟩⟩, fun h => decide_eq_false h⟩
  rw [Int.one_mul]
  exact ⟨hexP (by grind only), congrArg SV.s (nameP_hex (by grind only)).symm⟩
 ·rw [filt_getD (fun p => decide (p < 32)) fun p => nameP p.toNat]
  have hw := wo_len hb
  have hwl : ((ps.filter fun p => p < 32).map fun p => nameP p.toNat).length ≤ 100 := by rw [List.length_map]; exact Nat.le_trans (List.length_filter_le _ _) hl
  refine ⟨by exact Nat.le_trans (by assumption) (by decide), fun i => decide (32 ≤ ps.getD i 0), fun i => (2 : Int) ^ (ps.getD i 0).toNat, fun i hi => ⟨fun h => ⟨decide_eq_true h, ⟨by lia, by have := hb _ (getD_mem hi); exact Int.le_of_lt (Int.lt_of_lt_of_le (And.right (by assumption)) (by decide)), by decide⟩, by rw [Int.one_mul]; rfl⟩, fun h => decide_eq_false h⟩, ?_⟩
  rw [filt_getD (fun p => decide (32 ≤ p)) fun p => (2 : Int) ^ p.toNat]
  have e := wo_end (T := ((ps.filter fun p => 32 ≤ p).map fun p => (2 : Int) ^ p.toNat).sum) hw hwl (hex_len (k := 75) (by decide) (wo_sum hb hl))
  exact ⟨fun hT => ⟨e.1, e.2.1, e.2.2.1, wo_y (.inl hT) hP _⟩, fun hT => ⟨rfl, fun x hx => by (refine el_EAr (List.mem_map.mp hx) fun p z09 => ?_; subst z09; intro _); exact ok_name _, fun hx => ⟨e.1, e.2.1, e.2.2.1, wo_y (.inr (List.map_eq_nil_iff.mp hx)) hP _⟩, fun hx => ⟨e.2.2.2, wo_n' (fun h => h.elim hT fun h => hx (List.map_eq_nil_iff.mpr h)) hP _⟩⟩⟩
theorem good_wo : Good 218 500 5000 C_wo :=
 goodX (b := bl_wo) (F := fn_wo) (Ds := d_wo.D) (Cl := []) [Str.ofString "places"] [] (fun _ => rfl) (fun _ => rfl) (by decide) (by decide) (fun s pos h => by obtain ⟨a, rfl⟩ := ex1 h; exact .of_eq rfl) rfl (by decide) rfl rfl rfl rfl (fun _ => trivial) (by decide) List.nodup_nil (fun _ => ⟨⟨_, rfl, rfl, rfl, fun _ => trivial, ⟨⟨(.head _), rfl⟩, trivial⟩⟩, ⟨_, rfl, rfl, rfl, fun _ => trivial, trivial⟩, trivial⟩) trivial 1 rfl fun vs ν K h => by
  (refine el_ER (a1_inv h) fun a z09 => ?_; subst z09; intro h)
  (refine el_EERA (wL_inv h) fun k ps z09 => ?_; subst z09; intro hk h)
  refine ⟨rfl, rfl, (fun _ h => nomatch h), fun tb e => ?_⟩
  cases e
  show st d_wo bl_wo _ [.o 0, .u, .u] [impK ν k, .cell .u]
  rw [roI hk]
  exact wo_st h.1.1 h.1.2 fun _ => ⟨trivial, h.2⟩
end Mine
end
section
namespace Mine
open PySem PySem.W PySem.Calls PySem.Spec PyProof.Rows
theorem xor_step {F : Int} {i : Nat} (h : F / 2 ^ i % 2 = 1) : Builtin.bitXor (F / 2 ^ i * 2 ^ i) (2 ^ i) = F / 2 ^ (i + 1) * 2 ^ (i + 1) := by
 have hp0 : (0 : Int) < 2 ^ i := Int.pow_pos (by decide)
 rw [bitXor_and, kbt_bit, Int.mul_ediv_cancel _ (by exact Int.ne_of_gt (by assumption)), h]
 have e1 : F / 2 ^ (i + 1) = F / 2 ^ i / 2 := by rw [Int.pow_succ, Int.ediv_ediv_of_nonneg (Int.le_of_lt hp0)]
 have e2 : (2 : Int) ^ (i + 1) = 2 * 2 ^ i := by rw [Int.pow_succ, Int.mul_comm]
 rw [e1, e2, ← Int.mul_assoc]
 have e3 : F / 2 ^ i = F / 2 ^ i / 2 * 2 + 1 := by grind only
 conv => lhs; rw [e3, Int.add_mul]
 rw [Int.mul_assoc, ← Int.mul_assoc (F / 2 ^ i / 2) 2]
 lia
theorem lowW_succ (F : Int) (n : Nat) : lowW F (n + 1) = lowW F n ++ if F / 2 ^ n % 2 = 1 then [nameP n] else [] := by
 unfold lowW
 rw [List.range_succ, List.filter_append, List.map_append]
 congr 1
 by_cases h : F / 2 ^ n % 2 = 1
 ·rw [if_pos h]; simp [h]
 ·rw [if_neg h]; simp [h]
theorem lowW_over {F : Int} {n : Nat} (h : F / 2 ^ n = 0) : ∀ k, lowW F (n + k) = lowW F n
 | 0 => rfl
 | k + 1 => by
  have e : F / 2 ^ (n + k) = 0 := by rw [Int.pow_add, ← Int.ediv_ediv_of_nonneg (Int.le_of_lt (Int.pow_pos (by decide))), h]; simp
  rw [← Nat.add_assoc, lowW_succ, lowW_over h k, e]; simp
theorem flag_break {F : Int} {i : Nat} (hi : i < 32) (hb : F / 2 ^ i % 2 = 1) (h : F / 2 ^ (i + 1) = 0) : flagW F = lowW F i ++ [nameP i] := by
 unfold flagW
 have e := lowW_over h (32 - (i + 1))
 rw [show i + 1 + (32 - (i + 1)) = 32 from Nat.add_sub_of_le hi] at e
 rw [e, lowW_succ, if_pos hb]
 have h2 : F / 2 ^ 32 = 0 := by
  rw [show 32 = (i + 1) + (32 - (i + 1)) from (Nat.add_sub_of_le hi).symm, Int.pow_add, ← Int.ediv_ediv_of_nonneg (Int.le_of_lt (Int.pow_pos (by decide))), h]; simp
 have h3 : F ≠ 0 := fun e => by rw [e] at hb; simp at hb
 rw [if_neg (by intro q; rcases q with q | q <;> contradiction), List.append_nil]
theorem lowW_len (F : Int) : ∀ n, (lowW F n).length ≤ n
 | 0 => by simp [lowW]
 | n + 1 => by rw [lowW_succ, List.length_append]; have := lowW_len F n; split <;> simp <;> lia
theorem lowW_mem {F : Int} {n : Nat} (h : n ≤ 32) : ∀ x ∈ lowW F n, x.length ≤ 20 := by
 intro x hx
 (refine el_EAr (List.mem_map.mp hx) fun i z09 => ?_; subst z09; intro hi)
 exact nameP_len (by have := List.mem_range.mp (List.mem_filter.mp hi).1; exact Nat.lt_of_lt_of_le (by assumption) (by assumption))
noncomputable def fn_pf : Fn := { ns := [Str.ofString "flags", Str.ofString "names", Str.ofString "i", Str.ofString "flag"], gt := [(Str.ofString "COMPILER_FLAG_NAMES", .ref 88)], bi := [.range, .hex] }
noncomputable def bl_pf : B := (.set 1 (.nilL .strs 12 14) 140 4 9 14 (.forE 2 0 (.int 32 19 21) 18 13 22 (.set 3 (.bin .shl (.int 1 15 16) (.loc 2 20 21) 15 21) 142 8 12 21 (.ite (.bin .band (.loc 0 11 16) (.loc 3 19 23) 11 23) (.expr (.m1 .append (.loc 1 12 17) (.dget (.glo 0 25 44) (.loc 3 49 53) (.b1 1 (.loc 3 59 63) 58 55 64) 48 25 65) 24 12 66) 144 12 66 (.aug 0 .bxor (.loc 3 21 25) 145 12 17 25 (.ite (.not (.loc 0 19 24) 15 24) (.brk 147 16 21 .nil) .nil 146 12 147 21 .nil))) .nil 143 8 147 21 .nil)) (.expr (.m1 .append (.loc 1 8 13) (.b1 1 (.loc 0 25 30) 24 21 31) 20 8 32) 149 8 32 .nil) 141 4 8 9 149 32 (.ret (.m1 .join (.str (Str.ofString ", ") 11 15) (.loc 1 21 26) 20 11 27) 150 4 27 .nil)))
noncomputable abbrev d_pf : Df := { F := fn_pf, D := [], C := lookC [] }
noncomputable def C_pf : Co := fun vs ν K => a1 vs fun a => wI a fun F => (0 ≤ F ∧ F < 2 ^ 300) ∧ K (.s (Txt.join (Str.ofString ", ") (flagW F))) ν
theorem pf_half (F : Int) (i : Nat) : F / 2 ^ (i + 1) = F / 2 ^ i / 2 := by rw [Int.pow_succ, Int.ediv_ediv_of_nonneg (Int.le_of_lt (Int.pow_pos (by decide)))]
theorem pf_and (F : Int) (i : Nat) : Builtin.bitAnd (F / 2 ^ i * 2 ^ i) (1 * 2 ^ (i : Int).toNat) = F / 2 ^ i % 2 * 2 ^ i := by
 have hp : (2 : Int) ^ i ≠ 0 := Int.ne_of_gt (Int.pow_pos (by decide))
 rw [Int.one_mul]
 have := kbt_bit (F / 2 ^ i * 2 ^ i) i
 rw [Int.mul_ediv_cancel _ hp] at this
 exact this
theorem pf_yes {F : Int} {i : Nat} (h : Builtin.bitAnd (F / 2 ^ i * 2 ^ i) (1 * 2 ^ (i : Int).toNat) ≠ 0) : F / 2 ^ i % 2 = 1 := by
 rw [pf_and] at h
 rcases (by lia : F / 2 ^ i % 2 = 0 ∨ F / 2 ^ i % 2 = 1) with e | e
 ·rw [e, Int.zero_mul] at h; exact absurd rfl h
 ·exact e
theorem pf_no {F : Int} {i : Nat} (h : ¬ Builtin.bitAnd (F / 2 ^ i * 2 ^ i) (1 * 2 ^ (i : Int).toNat) ≠ 0) : F / 2 ^ i % 2 = 0 := by
 rw [pf_and] at h
 rcases Int.mul_eq_zero.mp (Decidable.not_not.mp h) with e | e
 ·exact e
 ·exact absurd e (Int.ne_of_gt (Int.pow_pos (by decide)))
theorem pf_xor {F : Int} {i : Nat} (h : F / 2 ^ i % 2 = 1) : Builtin.bitXor (F / 2 ^ i * 2 ^ i) (1 * 2 ^ (i : Int).toNat) = F / 2 ^ (i + 1) * 2 ^ (i + 1) := by rw [Int.one_mul]; exact xor_step h
theorem pf_keep {F : Int} {i : Nat} (h : F / 2 ^ i % 2 = 0) (q : F = 0 ∨ F / 2 ^ i ≠ 0) : F / 2 ^ i * 2 ^ i = F / 2 ^ (i + 1) * 2 ^ (i + 1) ∧ lowW F i = lowW F (i + 1) ∧ (F = 0 ∨ F / 2 ^ (i + 1) ≠ 0) := by
 have e := pf_half F i
 have d := Int.mul_ediv_add_emod (F / 2 ^ i) 2
 rw [h, Int.add_zero] at d
 refine ⟨by rw [e, Int.pow_succ, Int.mul_comm (2 ^ i) 2, ← Int.mul_assoc, Int.mul_comm (F / 2 ^ i / 2) 2, d], by rw [lowW_succ, if_neg (by rw [h]; decide), List.append_nil], q.imp_right fun q z => q ?_⟩
 rw [← d, ← e, z]; rfl
theorem pf_join {F : Int} {i : Nat} {x : Str} (hi : i ≤ 32) (hx : x.length ≤ 100) : ((lowW F i ++ [x]).map (·.length)).sum + (lowW F i ++ [x]).length * (Str.ofString ", ").length ≤ 16777216 := by
 have h1 : ∀ y ∈ lowW F i ++ [x], y.length ≤ 100 := fun y hy => (List.mem_append.mp hy).elim (fun h => Nat.le_trans (lowW_mem hi y h) (by decide)) fun h => by rw [List.mem_singleton.mp h]; exact hx
 have h2 := sum_len h1
 have h3 := lowW_len F i
 have e : (Str.ofString ", ").length = 2 := by decide
 rw [List.length_append] at h2 ⊢
 rw [e]
 have : [x].length = 1 := rfl
 lia
theorem pf_hex {F : Int} (h0 : 0 ≤ F) (h1 : F < 2 ^ 300) : (PySem.baseText "0x" 16 (F / 2 ^ 32 * 2 ^ 32)).length ≤ 78 := by
 have h2 : F / 2 ^ 32 * 2 ^ 32 ≤ F := Int.ediv_mul_le F (by decide)
 have h3 : 0 ≤ F / 2 ^ 32 * 2 ^ 32 := Int.mul_nonneg (Int.ediv_nonneg h0 (by decide)) (by decide)
 have e : ((16 : Nat) ^ 75 : Nat) = ((2 : Int) ^ 300).natAbs := by decide +kernel
 refine hex_len (k := 75) (by decide) ?_
 rw [e]
 exact Int.natAbs_lt_natAbs_of_nonneg_of_lt h3 (Int.lt_of_le_of_lt h2 h1)
theorem pf_end {F : Int} (q : F = 0 ∨ F / 2 ^ 32 ≠ 0) : lowW F 32 ++ [PySem.baseText "0x" 16 (F / 2 ^ 32 * 2 ^ 32)] = flagW F := by
 unfold flagW; rw [if_pos q.symm]
theorem pf_st {F : Int} {P : SV → Nu → Prop} (h0 : 0 ≤ F) (h1 : F < 2 ^ 300) (hP : ∀ ν', P (.s (Txt.join (Str.ofString ", ") (flagW F))) ν') : st d_pf bl_pf (retK P) [.i F, .u, .u, .u] [] := by
 refine ⟨by decide, for1 (fun (w : Int × List Str) => [.i w.1, .o 0, .u, .u]) (fun w => [.strs w.2]) (fun i w => w.1 = F / 2 ^ i * 2 ^ i ∧ w.2 = lowW F i ∧ (F = 0 ∨ F / 2 ^ i ≠ 0)) (in1 [true, true, false, false] [true] (F, []) rfl rfl rfl ⟨by simp, rfl, by simp; lia⟩) (fun i w hi h => ?_) fun w h => ?_⟩
 ·obtain ⟨fl, ws⟩ := w
  (refine el_AA h ?_; try clear h; intro e1 e2 e3)
  dsimp only at e1 e2
  subst e1 e2
  have hi : i < 32 := hi
  have hwl := lowW_len F i
  refine ⟨⟨by exact Int.natCast_nonneg _, by lia, by decide⟩, fun hb => ?_, fun hb => ?_⟩
  ·have b := pf_yes hb
   have eq := pf_xor b
   refine ⟨by rw [Int.one_mul]; exact hexP hi, i, ⟨hi, by rw [Int.one_mul]; rfl, rfl⟩, by lia, ?_⟩
   show (_ → _) ∧ (_ → _)
   rw [eq]
   refine ⟨fun hn => in1 [true, true, false, false] [true] (_, lowW F i ++ [nameP i]) rfl rfl rfl ⟨rfl, by rw [lowW_succ, if_pos b], .inr fun z => hn (by rw [z]; exact Int.zero_mul _)⟩, fun hn => ⟨pf_join (Nat.le_of_lt hi) (Nat.le_trans (nameP_len hi) (by decide)), ?_⟩⟩
   have z : F / 2 ^ (i + 1) = 0 := (Int.mul_eq_zero.mp (Decidable.not_not.mp hn)).resolve_right (Int.ne_of_gt (Int.pow_pos (by decide)))
   rw [flag_break hi b z] at hP
   exact hP _
  ·have a := pf_keep (pf_no hb) e3
   exact in1 [true, true, false, false] [true] (_, _) rfl rfl rfl a
 ·obtain ⟨fl, ws⟩ := w
  (refine el_AA h ?_; try clear h; intro e1 e2 e3)
  dsimp only at e1 e2
  subst e1 e2
  have hh := pf_hex h0 h1
  have hwl := lowW_len F 32
  rw [← pf_end e3] at hP
  exact ⟨Nat.le_trans hh (by rw [sizeLine_eq]; decide), Nat.le_trans (lowW_len F 32) (by decide), pf_join (Nat.le_refl 32) (Nat.le_trans hh (by decide)), hP _⟩
theorem good_pf : Good 95 500 5000 C_pf :=
 goodX (b := bl_pf) (F := fn_pf) (Ds := d_pf.D) (Cl := []) [Str.ofString "flags"] [] (fun _ => rfl) (fun _ => rfl) (by decide) (by decide) (fun s pos h => by obtain ⟨a, rfl⟩ := ex1 h; exact .of_eq rfl) rfl (by decide) rfl rfl rfl rfl (fun _ => ⟨⟨rfl, rfl⟩, trivial⟩) (by decide) List.nodup_nil (fun _ => trivial) trivial 0 rfl fun vs ν K h => by
  (refine el_ER (a1_inv h) fun a z09 => ?_; subst z09; intro h)
  (refine el_ER (wI_inv h) fun F z09 => ?_; subst z09; intro h)
  refine ⟨rfl, rfl, (fun _ h => nomatch h), fun tb e => ?_⟩
  cases e
  exact pf_st h.1.1 h.1.2 fun _ => ⟨trivial, h.2⟩
end Mine
end
section
namespace Mine
open PySem PySem.W PySem.Calls PySem.Spec PyProof.Rows
theorem min_i {t m : Int} {i : Nat} (hi : i < (min t m).toNat) : 1 ≤ min t m - i ∧ min t m - i ≤ t := ⟨Int.sub_pos_of_lt (Int.lt_toNat.1 hi), Int.le_trans (Int.sub_le_self _ (Int.natCast_nonneg i)) (Int.min_le_left _ _)⟩
theorem min_1 {t m : Int} (q : 0 ≤ t) (h0 : ¬ t = 0) (h : 1 ≤ m) (h5 : m ≤ 5) : 1 ≤ min t m ∧ min t m ≤ 5 ∧ min t m ≤ t := ⟨Int.le_min.2 ⟨Int.lt_iff_le_and_ne.2 ⟨q, Ne.symm h0⟩, h⟩, Int.le_trans (Int.min_le_right _ _) h5, Int.min_le_left _ _⟩
theorem parts_len : ∀ (k : Nat) (t m : Int), 0 ≤ t → t ≤ 5 → (partsF k t m).length ≤ 6 ^ t.toNat
 | 0, t, m, h0, h5 => by rw [partsF]; exact Nat.one_le_pow _ _ (by decide)
 | k + 1, t, m, h0, h5 => by
  rw [partsF]
  split
  ·exact Nat.one_le_pow _ _ (by decide)
  ·rename_i ht
   have key : ∀ l : List Int, (∀ x ∈ l, 1 ≤ x ∧ x ≤ t) → (l.flatMap fun part => (partsF k (t - part) part).map (part :: ·)).length ≤ l.length * 6 ^ (t.toNat - 1) := by
    intro l
    induction l with
    | nil => intro _; simp
    | cons x r ih =>
     intro h
     have hx := h x List.mem_cons_self
     have h1 := parts_len k (t - x) x (by lia) (by lia)
     have h2 : 6 ^ (t - x).toNat ≤ 6 ^ (t.toNat - 1) := Nat.pow_le_pow_right (by decide) (Int.pred_toNat t ▸ Int.toNat_le_toNat (Int.sub_le_sub_left hx.1 t))
     have h3 := ih fun y hy => h y (List.mem_cons_of_mem _ hy)
     rw [List.flatMap_cons, List.length_append, List.length_map, List.length_cons, Nat.succ_mul, Nat.add_comm]
     exact Nat.add_le_add h3 (Nat.le_trans h1 h2)
   refine Nat.le_trans (key _ fun x hx => ?_) ?_
   ·(refine el_EAr (List.mem_map.mp hx) fun i z09 => ?_; subst z09; intro hi)
    exact min_i (List.mem_range.mp hi)
   ·rw [List.length_map, List.length_range]
    have e : 6 ^ t.toNat = 6 * 6 ^ (t.toNat - 1) := by rw [← Nat.pow_succ']; congr 1; lia
    rw [e]
    exact Nat.mul_le_mul_right _ (by omega)
theorem parts_row : ∀ (k : Nat) (t m : Int), 0 ≤ t → ∀ row ∈ partsF k t m, row.length ≤ t.toNat
 | 0, t, m, h0, row, hr => by rw [partsF] at hr; rw [List.mem_singleton.mp hr]; simp
 | k + 1, t, m, h0, row, hr => by
  rw [partsF] at hr
  split at hr
  ·rw [List.mem_singleton.mp hr]; simp
  ·refine el_EA (List.mem_flatMap.mp hr) fun part hp hr => ?_
   (refine el_EAr (List.mem_map.mp hr) fun row2 z09 => ?_; subst z09; intro hr2)
   (refine el_EAr (List.mem_map.mp hp) fun i z09 => ?_; subst z09; intro hi)
   have hi2 := List.mem_range.mp hi
   have a := min_i hi2
   have := parts_row k (t - (min t m - (i : Int))) _ (Int.sub_nonneg_of_le a.2) row2 hr2
   rw [List.length_cons]; exact Nat.lt_of_le_of_lt this ((Int.toNat_lt_toNat (Int.lt_of_lt_of_le a.1 a.2)).2 (Int.sub_lt_self t a.1))
theorem down_range {mn : Int} (h1 : 1 ≤ mn) (h5 : mn ≤ 5) : Builtin.Range.small mn 0 (-1) = true ∧ Builtin.Range.rangeSize mn 0 (-1) = ((mn.toNat : Nat) : Int) := by
 have : mn = 1 ∨ mn = 2 ∨ mn = 3 ∨ mn = 4 ∨ mn = 5 := by lia
 rcases this with rfl | rfl | rfl | rfl | rfl <;> decide
noncomputable def C_par (n : Nat) : Co := fun vs ν K => a2 vs fun a b => wI a fun t => wI b fun m => (0 ≤ t ∧ t ≤ 5 ∧ t.toNat < n ∧ 1 ≤ m ∧ m ≤ 5) ∧ K (.o ν.length) (ν ++ [.rrows (partsF n t m)])
noncomputable def fn_par : Fn := { ns := [Str.ofString "total", Str.ofString "most", Str.ofString "rows"], gt := [(Str.ofString "_law_partitions", .ref 223)], cs := [(0, Str.ofString "part")], bi := [.range, .min] }
noncomputable def cd_par0 : CD := { x := Str.ofString "row", c := 38, e := 41, sc := {kind := ScopeKind.function, names := [ (Str.ofString ".0", NameKind.local), (Str.ofString "row", NameKind.local), (Str.ofString "part", NameKind.free)], isGenerator := false, isCoroutine := false, more := []}, F := { ns := [Str.ofString "row"], cs := [(0, Str.ofString "part")] } }
noncomputable def bl_par : B := (.ite (.cmp .eq (.loc 0 7 12) (.int 0 16 17) 7 17) (.ret (.lst (.nil true 16 18) 15 19) 311 8 19 .nil) .nil 310 4 311 19 (.set 2 (.nilL .rows 11 13) 312 4 8 13 (.forC3 0 0 (.b2 1 (.loc 0 26 31) (.loc 1 33 37) 25 22 38) (.int 0 40 41) (.neg (.int 1 44 45) 43 45) 21 16 46 (.expr (.m1 .extend (.loc 2 8 12) (.compO 0 (.bin .add (.lst (.cel 0 22 26) 21 27) (.loc 0 30 33) 21 33) (.call2 0 (.bin .sub (.loc 0 61 66) (.cel 0 69 73) 61 73) (.cel 0 75 79) 60 45 80) 20 81) 19 8 82) 314 8 82 .nil) 313 4 8 12 314 82 (.ret (.loc 2 11 15) 315 4 15 .nil))))
noncomputable abbrev d_par (n : Nat) : Df := { F := fn_par, D := [cd_par0], C := lookC [(223, C_par n)] }
theorem par_min (t m : Int) : (if m < t then m else t) = min t m := by split <;> lia
noncomputable def parI (n : Nat) (t mn : Int) (i : Nat) : List (List Int) := ((List.range i).map fun (i : Nat) => mn - (i : Int)).flatMap fun part => (partsF n (t - part) part).map (part :: ·)
theorem parI_succ (n : Nat) (t mn : Int) (i : Nat) : parI n t mn (i + 1) = parI n t mn i ++ (partsF n (t - (mn - (i : Int))) (mn - (i : Int))).map ((mn - (i : Int)) :: ·) := by
 unfold parI
 rw [List.range_succ, List.map_append, List.flatMap_append, List.map_cons, List.map_nil, List.flatMap_cons, List.flatMap_nil, List.append_nil]
theorem par_map (rs : List (List Int)) (x : Int) : (List.range rs.length).map (fun i => [x] ++ rs.getD i []) = rs.map (x :: ·) := by
 refine List.ext_getElem (by simp) fun i h1 h2 => ?_
 rw [List.length_map] at h2
 simp [List.getD_eq_getElem?_getD, List.getElem?_eq_getElem h2]
theorem par_lens {n : Nat} {t p : Int} (h0 : 0 ≤ t - p) (h5 : t - p ≤ 5) : (partsF n (t - p) p).length ≤ 7776 ∧ ∀ i, i < (partsF n (t - p) p).length → ((partsF n (t - p) p).getD i []).length ≤ 5 := by
 refine ⟨Nat.le_trans (parts_len n (t - p) p h0 h5) (Nat.le_trans (Nat.pow_le_pow_right (by decide) (show (t - p).toNat ≤ 5 by lia)) (by decide)), fun i hi => ?_⟩
 rw [List.getD_eq_getElem?_getD, List.getElem?_eq_getElem hi]
 exact Nat.le_trans (parts_row n (t - p) p h0 _ (List.getElem_mem hi)) (by lia)
theorem par_p {n i : Nat} {t M : Int} (h5 : M ≤ 5) (ht : M ≤ t) (t5 : t ≤ 5) (tn : t.toNat < n + 1) (hi : i < M.toNat) : 0 ≤ t - (M - (i : Int)) ∧ t - (M - (i : Int)) ≤ 5 ∧ (t - (M - (i : Int))).toNat < n ∧ 1 ≤ M - (i : Int) ∧ M - (i : Int) ≤ 5 := by
 have h1 : (i : Int) < M := Int.lt_toNat.mp hi
 have h2 : t ≤ n := Int.toNat_le.mp (Nat.le_of_lt_succ tn)
 have h3 : 0 ≤ (i : Int) := Int.natCast_nonneg i
 clear hi tn
 generalize (i : Int) = j at *
 have h4 : 0 ≤ t - (M - j) := by lia
 exact ⟨h4, by lia, (Int.toNat_lt h4).mpr (by lia), by lia, by lia⟩
theorem par_st {n : Nat} {t m : Int} {P : SV → Nu → Prop} (q : 0 ≤ t ∧ t ≤ 5 ∧ t.toNat < n + 1 ∧ 1 ≤ m ∧ m ≤ 5) (hP : ∀ k ν', ν'[k]? = some (.rows (partsF (n + 1) t m)) → P (.o k) ν') : st (d_par n) bl_par (retK P) [.i t, .i m, .u] [.cell .u] := by
 refine ⟨fun h0 => ⟨rfl, hP _ _ ?_⟩, fun h0 => ?_⟩
 ·rw [partsF, if_pos h0]; rfl
 ·have e1 := par_min t m
  have hm := min_1 q.1 h0 q.2.2.2.1 q.2.2.2.2
  have t5 := q.2.1
  have tn := q.2.2.1
  clear q
  have d := down_range hm.1 hm.2.1
  refine ⟨(min t m).toNat, ⟨by decide, by decide, by rw [e1]; exact d.1, by rw [e1]; exact d.2⟩, ?_⟩
  rw [e1]
  refine for2 (fun (_ : SV) _ => [.i t, .i m, .o 1]) (fun c rs => [.cell c, .rows rs]) (fun i _ rs => rs = parI n t (min t m) i ∧ rs.length ≤ 8000 * i) (in2 [true, true, true] [true, true] .u [] rfl rfl rfl ⟨rfl, Nat.zero_le _⟩) (fun i c rs hi h => ?_) fun c rs h => ?_
  ·have ep : min t m + (i : Int) * (-1) = min t m - (i : Int) := by rw [Int.mul_neg, Int.mul_one]; rfl
   have hs := parI_succ n t (min t m) i
   show (_ ∧ _) ∧ _
   rw [ep]
   have hp := par_p hm.2.1 hm.2.2 t5 tn hi
   clear ep d e1
   generalize min t m - (i : Int) = p at *
   have l := par_lens (n := n) (t := t) (p := p) hp.1 hp.2.1
   refine ⟨hp, by exact Nat.le_trans (And.left (by assumption)) (by decide), fun k => [p] ++ (partsF n (t - p) p).getD k [], fun k hk => ⟨by have := l.2 k hk; show 1 + _ ≤ _; lia, 5, rfl, rfl⟩, ?_, ?_⟩
   ·rw [par_map, List.length_map]; exact Nat.le_trans (Nat.add_le_add (Nat.le_trans h.2 (Nat.mul_le_mul_left _ (Nat.le_trans (Nat.le_of_lt hi) (Int.toNat_le.2 hm.2.1)))) l.1) (by decide)
   ·rw [par_map]
    exact in2 [true, true, true] [true, true] (.i p) _ rfl rfl rfl ⟨by rw [hs, ← h.1], by rw [List.length_append, List.length_map]; exact Nat.add_le_add h.2 (Nat.le_trans l.1 (by decide))⟩
  ·exact hP _ _ (show some _ = some _ from congrArg (fun x => some (SO.rows x)) (by rw [h.1, partsF, if_neg h0]; rfl))
theorem good_par : ∀ n, n ≤ 10 → Good 223 (510 - n) (5100 - 3 * n) (C_par n) := by
 intro n
 induction n with
 | zero =>
  intro _ S D' U' fr gd env eA hD hU X vs ν μ K args s ad h Hc hv
  (refine el_EER (a2_inv h) fun a b z09 => ?_; subst z09; intro h)
  (refine el_ER (wI_inv h) fun t z09 => ?_; subst z09; intro h)
  (refine el_ER (wI_inv h) fun m z09 => ?_; subst z09; intro h)
  exact absurd h.1.2.2.1 (Nat.not_lt_zero _)
 | succ n ih =>
  intro hn
  refine
 goodX (b := bl_par) (F := fn_par) (Ds := (d_par n).D) (Cl := [(223, C_par n)]) [Str.ofString "total", Str.ofString "most"] [] (fun _ => rfl) (fun _ => rfl) (Nat.lt_of_le_of_lt (Nat.sub_le 510 (n + 1)) (by decide)) (Nat.lt_of_le_of_lt (Nat.add_le_add_right (Nat.add_le_add_right (Nat.sub_le 5100 (3 * (n + 1))) 3) 66) (by decide)) (fun s pos h => by (refine el_EEr (ex2 h) fun a b z09 => ?_; subst z09); exact .of_eq rfl) rfl (by decide) rfl rfl rfl rfl (fun _ => ⟨⟨rfl, rfl⟩, trivial⟩) (by decide) List.nodup_nil (fun _ => ⟨⟨_, rfl, rfl, rfl, fun _ => trivial, ⟨⟨(.head _), rfl⟩, trivial⟩⟩, trivial⟩) ⟨⟨_, _, sub_bk (Nat.le_trans hn (by decide)), sub_bk (b := 3 * n) (c := 3) (Nat.le_trans (Nat.mul_le_mul_left 3 hn) (by decide)), ih (by exact Nat.le_of_lt (by assumption))⟩, trivial⟩ 0 rfl fun vs ν K h => by
   (refine el_EER (a2_inv h) fun a b z09 => ?_; subst z09; intro h)
   (refine el_ER (wI_inv h) fun t z09 => ?_; subst z09; intro h)
   (refine el_ER (wI_inv h) fun m z09 => ?_; subst z09; intro h)
   refine ⟨rfl, rfl, (fun _ h => nomatch h), fun tb e => ?_⟩
   cases e
   exact par_st h.1 fun k ν' e => ⟨trivial, dvR e h.2⟩
end Mine
end
section
namespace Mine
open PySem PySem.W PySem.Calls PySem.Spec PyProof.Rows
noncomputable def fn_dvn : Fn := { ns := [Str.ofString "a", Str.ofString "b", Str.ofString "n", Str.ofString "pad", Str.ofString "half_n", Str.ofString "mask", Str.ofString "b1", Str.ofString "b2", Str.ofString "q1", Str.ofString "r", Str.ofString "q2"], gt := [(Str.ofString "_DIV_LIMIT", .int 4000 416), (Str.ofString "_div3n2n", .ref 59)], bi := [.divmod] }
noncomputable def bl_dvn (xs : List Stmt) : B := (.ite (.cmp .le (.bin .sub (.m0 .bits (.loc 0 7 8) 19 7 21) (.loc 2 24 25) 7 25) (.glo 0 29 39) 7 39) (.ret (.b2 0 (.loc 0 22 23) (.loc 1 25 26) 21 15 27) 66 8 27 .nil) .nil 65 4 66 27 (.any xs))
noncomputable abbrev d_dvn : Df := { F := fn_dvn, D := [], C := lookC [] }
noncomputable def C_dvn : Co := fun vs ν K => a3 vs fun x y z => wI x fun a => wI y fun b => wI z fun n => (0 < b ∧ Builtin.Int.intBits b ≤ 4000 ∧ Builtin.Int.intBits a ≤ 4000 ∧ 0 ≤ n) ∧ K (.o ν.length) (ν ++ [.tup [.i (a / b), .i (a % b)]])
theorem good_dvn : Good 52 700 7000 C_dvn :=
 goodX (b := bl_dvn _) (F := fn_dvn) (Ds := d_dvn.D) (Cl := []) [Str.ofString "a", Str.ofString "b", Str.ofString "n"] [] (fun _ => rfl) (fun _ => rfl) (by decide) (by decide) (fun s pos h => by (refine el_EEEr (ex3 h) fun a b c z09 => ?_; subst z09); exact .of_eq rfl) rfl (by decide) rfl rfl rfl rfl (fun _ => ⟨⟨rfl, rfl⟩, ⟨rfl, rfl⟩, trivial⟩) (by decide) List.nodup_nil (fun _ => trivial) trivial 0 rfl fun vs ν K h => by
  (refine el_EEER (a3_inv h) fun x y z z09 => ?_; subst z09; intro h)
  (refine el_ER (wI_inv h) fun a z09 => ?_; subst z09; intro h)
  (refine el_ER (wI_inv h) fun b z09 => ?_; subst z09; intro h)
  (refine el_ERA (wI_inv h) fun n z09 => ?_; subst z09; intro q hK)
  refine ⟨rfl, rfl, (fun _ h => nomatch h), fun tb e => ?_⟩
  cases e
  exact ⟨fun _ => ⟨⟨q.1, q.2.1⟩, trivial, dvT rfl rfl hK⟩, fun h => absurd (show (Builtin.Int.intBits a : Int) - n ≤ 4000 by have := q.2.2; lia) h⟩
end Mine
end
section
namespace Mine
open PySem PySem.W PySem.Calls PySem.Spec PyProof.Rows
noncomputable def t61 : TabI := ⟨61, 93, 4, Str.ofString "_int2digits.<locals>.inner"⟩
noncomputable def t68 : TabI := ⟨68, 108, 4, Str.ofString "_digits2int.<locals>.inner"⟩
noncomputable def C_i2d : Co := fun vs ν K => a2 vs fun x y => wI x fun a => wI y fun n => hasT ν t61 ∧ ∃ Kd : Nat, (0 < a ∧ 1 ≤ n ∧ n ≤ 2000 ∧ ((Builtin.Int.intBits a : Int) + n - 1) / n = Kd ∧ 1 ≤ Kd ∧ Kd ≤ 40 ∧ a < 2 ^ (n.toNat * Kd)) ∧ ∀ ds : List Int, ds.length = Kd → (∀ x ∈ ds, 0 ≤ x ∧ x < 2 ^ n.toNat) → digV n.toNat ds = a → K (.o ν.length) (ν ++ [.ro ds])
noncomputable def C_d2i : Co := fun vs ν K => a2 vs fun x y => wL x ν fun ds => wI y fun n => hasT ν t68 ∧ (ds ≠ [] ∧ ds.length ≤ 40 ∧ 1 ≤ n ∧ n ≤ 2000 ∧ ∀ x ∈ ds, 0 ≤ x ∧ x < 2 ^ n.toNat) ∧ K (.i (digV n.toNat ds)) ν
noncomputable def DvC (a b : Int) : Prop := 0 < a ∧ 0 < b ∧ Builtin.Int.intBits b ≤ 1990 ∧ ∃ Kd : Nat, ((Builtin.Int.intBits a : Int) + Builtin.Int.intBits b - 1) / Builtin.Int.intBits b = Kd ∧ 1 ≤ Kd ∧ Kd ≤ 40 ∧ a < 2 ^ (Builtin.Int.intBits b * Kd)
noncomputable def C_dmp : Co := fun vs ν K => a2 vs fun x y => wI x fun a => wI y fun b => (hasT ν t61 ∧ hasT ν t68 ∧ DvC a b) ∧ K (.o ν.length) (ν ++ [.tup [.i (a / b), .i (a % b)]])
noncomputable def fn_dmp : Fn := { ns := [Str.ofString "a", Str.ofString "b", Str.ofString "n", Str.ofString "a_digits", Str.ofString "r", Str.ofString "q_digits", Str.ofString "a_digit", Str.ofString "q_digit", Str.ofString "q"], gt := [(Str.ofString "_int2digits", .ref 66), (Str.ofString "_div2n1n", .ref 52), (Str.ofString "_digits2int", .ref 73)], bi := [.reversed] }
noncomputable def bl_dmp : B := (.set 2 (.m0 .bits (.loc 1 8 9) 20 8 22) 116 4 5 22 (.set 3 (.call2 0 (.loc 0 27 28) (.loc 2 30 31) 26 15 32) 117 4 12 32 (.set 4 (.int 0 8 9) 118 4 5 9 (.set 5 (.nil false 15 17) 119 4 12 17 (.forV 6 0 (.loc 3 28 36) 27 19 37 (.unp 7 4 (.call3 1 (.bin .add (.bin .shl (.loc 4 31 32) (.loc 2 36 37) 31 37) (.loc 6 41 48) 30 48) (.loc 1 50 51) (.loc 2 53 54) 29 21 55) 121 8 15 17 18 55 (.expr (.m1 .append (.loc 5 8 16) (.loc 7 24 31) 23 8 32) 122 8 32 .nil)) 120 4 8 15 122 32 (.expr (.m0 .reverse (.loc 5 4 12) 20 4 22) 123 4 22 (.set 8 (.call2 2 (.loc 5 20 28) (.loc 2 30 31) 19 8 32) 124 4 5 32 (.ret (.tup (.loc 8 12 13) (.loc 4 15 16) 11 17) 125 4 17 .nil))))))))
noncomputable abbrev d_dmp : Df := { F := fn_dmp, D := [], C := lookC [(66, C_i2d), (52, C_dvn), (73, C_d2i)] }
theorem dmp_a {b r d : Int} {nb : Nat} (hb : 0 < b) (hbB : b < 2 ^ nb) (r0 : 0 ≤ r) (r1 : r < b) (d0 : 0 ≤ d) (d1 : d < 2 ^ nb) : 0 ≤ r * 2 ^ nb + d ∧ r * 2 ^ nb + d < 2 ^ nb * b ∧ r * 2 ^ nb + d < 2 ^ (nb + nb) := by
 have hp : (0 : Int) < 2 ^ nb := Int.pow_pos (by decide)
 have x1 : r * 2 ^ nb + 2 ^ nb ≤ b * 2 ^ nb := by
  have := Int.mul_le_mul_of_nonneg_right (show r + 1 ≤ b by assumption) (Int.le_of_lt hp)
  rw [Int.add_mul, Int.one_mul] at this
  exact this
 have x2 : b * 2 ^ nb ≤ 2 ^ nb * 2 ^ nb := Int.mul_le_mul_of_nonneg_right (Int.le_of_lt hbB) (Int.le_of_lt hp)
 refine ⟨Int.add_nonneg (Int.mul_nonneg r0 (Int.le_of_lt hp)) d0, ?_, ?_⟩
 ·rw [Int.mul_comm (2 ^ nb) b]; exact Int.lt_of_lt_of_le (Int.add_lt_add_left d1 _) x1
 ·rw [Int.pow_add]; exact Int.lt_of_lt_of_le (Int.add_lt_add_left d1 _) (Int.le_trans x1 x2)
theorem dmp_b {b r d : Int} {nb : Nat} {ds qds : List Int} {i : Nat} (hi : i < ds.length) (hd : d = ds.getD (ds.length - 1 - i) 0) (h : digV nb (ds.drop (ds.length - i)) = digV nb qds.reverse * b + r) : digV nb (ds.drop (ds.length - (i + 1))) = digV nb (qds ++ [(r * 2 ^ nb + d) / b]).reverse * b + (r * 2 ^ nb + d) % b := by
 have e : ds.length - (i + 1) < ds.length := Nat.sub_lt (Nat.zero_lt_of_lt hi) (Nat.succ_pos i)
 rw [List.drop_eq_getElem_cons e, show ds.length - (i + 1) + 1 = ds.length - i from Nat.sub_add_cancel (Nat.sub_pos_of_lt hi), List.reverse_append]
 show ds[ds.length - (i + 1)] + 2 ^ nb * digV nb (ds.drop (ds.length - i)) = ((r * 2 ^ nb + d) / b + 2 ^ nb * digV nb qds.reverse) * b + _
 have e2 : ds[ds.length - (i + 1)] = d := by
  rw [hd, List.getD_eq_getElem?_getD, show ds.length - 1 - i = ds.length - (i + 1) by rw [Nat.sub_sub, Nat.add_comm], List.getElem?_eq_getElem e]; rfl
 have hdm := Int.mul_ediv_add_emod (r * 2 ^ nb + d) b
 rw [e2, h, Int.add_mul, Int.mul_add, Int.mul_assoc, Int.mul_comm (2 ^ nb) r, Int.mul_comm _ b]
 lia
theorem dmp_c {a b q r : Int} (hb : 0 < b) (h : a = q * b + r) (r0 : 0 ≤ r) (r1 : r < b) : q = a / b ∧ r = a % b := by
 have e := Int.ediv_emod_unique hb (a := a) (r := r) (q := q)
 exact ⟨(e.mpr ⟨by rw [h, Int.mul_comm b q, Int.add_comm], r0, r1⟩).1.symm, (e.mpr ⟨by rw [h, Int.mul_comm b q, Int.add_comm], r0, r1⟩).2.symm⟩
theorem dmp_st {a b : Int} {cs1 cs2 : List (Addr × Obj)} {P : SV → Nu → Prop} (q : DvC a b) (hP : ∀ k ν', ν'[k]? = some (SO.tup [.i (a / b), .i (a % b)]) → Kept ν' [.tab t61.P t61.l t61.c t61.q cs1, .tab t68.P t68.l t68.c t68.q cs2] → P (.o k) ν') :
  st d_dmp bl_dmp (retK P) [.i a, .i b, .u, .u, .u, .u, .u, .u, .u] [.tab t61.P t61.l t61.c t61.q cs1, .tab t68.P t68.l t68.c t68.q cs2] := by
 (refine el_AAAEAAA q fun Kd => ?_; try clear q; intro ha hb hbb k1 k2 k3 k4)
 have hn : 1 ≤ Builtin.Int.intBits b := Nat.pos_of_ne_zero fun h => by
  have := intBits_le_iff.mp (Nat.le_of_eq h)
  lia
 have hbB : b < 2 ^ Builtin.Int.intBits b := bits_lt (Int.le_of_lt hb) (Nat.le_refl _)
 refine ⟨⟨0, cs1, rfl⟩, Kd, ⟨ha, by lia, by lia, k1, k2, k3, k4⟩, fun ds hl hr hv => ?_⟩
 generalize hnb : Builtin.Int.intBits b = nb at *
 rw [Int.toNat_natCast] at hr hv
 refine for2 (fun (r : Int) (_ : List Int) => [.u, .i b, .i nb, .u, .i r, .o 3, .u, .u, .u]) (fun _ qds => [.tab t61.P t61.l t61.c t61.q cs1, .tab t68.P t68.l t68.c t68.q cs2, .junk, .ints qds]) (fun i r qds => qds.length = i ∧ (∀ x ∈ qds, 0 ≤ x ∧ x < 2 ^ nb) ∧ 0 ≤ r ∧ r < b ∧ digV nb (ds.drop (ds.length - i)) = digV nb qds.reverse * b + r) (in2 [false, true, true, false, true, true, false, false, false] [true, true, false, true] 0 [] rfl rfl rfl ⟨rfl, (fun _ h => nomatch h), Int.le_refl 0, hb, by simp [digV]⟩) (fun i r qds hi h => ?_) fun r qds h => ?_
 ·have hd := hr _ (getD_mem (show ds.length - 1 - i < ds.length from Nat.lt_of_le_of_lt (Nat.sub_le _ _) (Nat.sub_lt (Nat.zero_lt_of_lt hi) Nat.one_pos)))
  have x := dmp_a hb hbB h.2.2.1 h.2.2.2.1 hd.1 hd.2
  have e := dmp_b hi rfl h.2.2.2.2
  have hlen := h.1
  refine ⟨⟨by exact Int.natCast_nonneg _, by lia, Nat.le_trans (bits_le h.2.2.1 (Int.lt_trans h.2.2.2.1 hbB)) (by exact Nat.le_trans (by assumption) (by decide))⟩, ⟨hb, by rw [hnb]; exact Nat.le_trans (by assumption) (by decide), Nat.le_trans (bits_le x.1 x.2.2) (by lia), by exact Int.natCast_nonneg _⟩, _, _, rfl, by lia, in2 [false, true, true, false, true, true, false, false, false] [true, true, false, true] _ _ rfl rfl rfl ⟨by rw [List.length_append, hlen]; rfl, fun y hy => ?_, Int.emod_nonneg _ (Int.ne_of_gt hb), Int.emod_lt_of_pos _ hb, e⟩⟩
  rcases List.mem_append.mp hy with hy | hy
  ·exact h.2.1 y hy
  ·rw [List.mem_singleton.mp hy]
   exact ⟨Int.ediv_nonneg x.1 (Int.le_of_lt hb), Int.ediv_lt_of_lt_mul hb x.2.1⟩
 ·have hql := h.1
  have e := h.2.2.2.2
  rw [Nat.sub_self, List.drop_zero, hv] at e
  have c := dmp_c hb e h.2.2.1 h.2.2.2.1
  refine ⟨by lia, ⟨1, cs2, rfl⟩, ⟨fun z => by rw [List.reverse_eq_nil_iff] at z; rw [z] at hql; have : ds.length = 0 := hql.symm; lia, by rw [List.length_reverse]; lia, by lia, by lia, fun y hy => h.2.1 y (List.mem_reverse.mp hy)⟩, hP _ _ (show some (SO.tup [.i (digV nb qds.reverse), .i r]) = _ by rw [c.1, c.2]) ⟨⟨0, rfl⟩, ⟨1, rfl⟩, trivial⟩⟩
theorem good_dmp (g66 : Good 66 600 6000 C_i2d) (g73 : Good 73 600 6000 C_d2i) : Good 80 590 5900 C_dmp :=
 goodX (b := bl_dmp) (F := fn_dmp) (Ds := d_dmp.D) (Cl := [(66, C_i2d), (52, C_dvn), (73, C_d2i)]) [Str.ofString "a", Str.ofString "b"] [t61, t68] (fun _ => rfl) (fun _ => rfl) (by decide) (by decide) (fun s pos h => by (refine el_EEr (ex2 h) fun a b z09 => ?_; subst z09); exact .of_eq rfl) rfl (by decide) rfl rfl rfl rfl (fun _ => ⟨⟨rfl, rfl⟩, ⟨rfl, rfl⟩, ⟨rfl, rfl⟩, trivial⟩) (by decide) (by decide) (fun _ => trivial) ⟨⟨_, _, by decide, by decide, g66⟩, ⟨_, _, by decide, by decide, good_dvn⟩, ⟨_, _, by decide, by decide, g73⟩, trivial⟩ 0 rfl fun vs ν K h => by
  (refine el_EER (a2_inv h) fun x y z09 => ?_; subst z09; intro h)
  (refine el_ER (wI_inv h) fun a z09 => ?_; subst z09; intro h)
  (refine el_ERA (wI_inv h) fun b z09 => ?_; subst z09; intro q hK)
  refine ⟨rfl, rfl, (fun t ht => by rcases List.mem_cons.mp ht with rfl | ht; exact q.1; rw [List.mem_singleton.mp ht]; exact q.2.1), fun tb e => ?_⟩
  (refine el_EEREERr e fun cs1 _ cs2 _ z09 z19 z29 => ?_; try clear e; subst z09; subst z19; subst z29)
  exact dmp_st q.2.2 fun k ν' e kp => ⟨kp, dvT e rfl hK⟩
end Mine
end
section
namespace Mine
open PySem PySem.W PySem.Calls PySem.Spec PyProof.Rows
noncomputable def fn_idm : Fn := { ns := [Str.ofString "a", Str.ofString "b", Str.ofString "q", Str.ofString "r"], gt := [(Str.ofString "int_divmod", .ref 87), (Str.ofString "_divmod_pos", .ref 80)] }
noncomputable def bl_idm : B := (.ite (.cmp .eq (.loc 1 7 8) (.int 0 12 13) 7 13) (.any [.Raise (some (.Name (Str.ofString "ZeroDivisionError") ⟨128, 14, 128, 31⟩)) none ⟨128, 8, 128, 31⟩]) (.ite (.cmp .lt (.loc 1 9 10) (.int 0 13 14) 9 14) (.unp 2 3 (.call2 0 (.neg (.loc 0 27 28) 26 28) (.neg (.loc 1 31 32) 30 32) 25 15 33) 130 8 9 11 12 33 (.ret (.tup (.loc 2 16 17) (.neg (.loc 3 20 21) 19 21) 15 22) 131 8 22 .nil)) (.ite (.cmp .lt (.loc 0 9 10) (.int 0 13 14) 9 14) (.unp 2 3 (.call2 0 (.inv (.loc 0 27 28) 26 28) (.loc 1 30 31) 25 15 32) 133 8 9 11 12 32 (.ret (.tup (.inv (.loc 2 17 18) 16 18) (.bin .add (.loc 1 20 21) (.inv (.loc 3 25 26) 24 26) 20 26) 15 27) 134 8 27 .nil)) (.ret (.call2 1 (.loc 0 27 28) (.loc 1 30 31) 26 15 32) 136 8 32 .nil) 132 4 136 32 .nil) 129 4 136 32 .nil) 127 4 136 32 .nil)
noncomputable def C_idmP : Co := C_dmp
noncomputable def C_idmN : Co := fun vs ν K => a2 vs fun x y => wI x fun a => wI y fun b => (hasT ν t61 ∧ hasT ν t68 ∧ DvC (-a - 1) b) ∧ K (.o ν.length) (ν ++ [.tup [.i (-((-a - 1) / b) - 1), .i (b + (-((-a - 1) % b) - 1))]])
theorem good_idmP (g66 : Good 66 600 6000 C_i2d) (g73 : Good 73 600 6000 C_d2i) : Good 87 580 5800 C_idmP :=
 goodX (b := bl_idm) (F := fn_idm) (Ds := []) (Cl := [(80, C_dmp)]) [Str.ofString "a", Str.ofString "b"] [t61, t68] (fun _ => rfl) (fun _ => rfl) (by decide) (by decide) (fun s pos h => by (refine el_EEr (ex2 h) fun a b z09 => ?_; subst z09); exact .of_eq rfl) rfl (by decide) rfl rfl rfl rfl (fun _ => ⟨⟨rfl, rfl⟩, ⟨rfl, rfl⟩, trivial⟩) (by decide) (by decide) (fun _ => trivial) ⟨⟨_, _, by decide, by decide, good_dmp g66 g73⟩, trivial⟩ 0 rfl fun vs ν K h => by
  (refine el_EER (a2_inv h) fun x y z09 => ?_; subst z09; intro h)
  (refine el_ER (wI_inv h) fun a z09 => ?_; subst z09; intro h)
  (refine el_ERA (wI_inv h) fun b z09 => ?_; subst z09; intro q hK)
  refine ⟨rfl, rfl, (fun t ht => by rcases List.mem_cons.mp ht with rfl | ht; exact q.1; rw [List.mem_singleton.mp ht]; exact q.2.1), fun tb e => ?_⟩
  (refine el_EEREERr e fun cs1 _ cs2 _ z09 z19 z29 => ?_; try clear e; subst z09; subst z19; subst z29)
  have d := q.2.2
  have ha := d.1
  have hb := d.2.1
  exact ⟨fun h => absurd h (Int.ne_of_gt hb), fun _ => ⟨fun h => absurd h (Int.not_lt.mpr (Int.le_of_lt hb)), fun _ => ⟨fun h => absurd h (Int.not_lt.mpr (Int.le_of_lt ha)), fun _ => ⟨⟨⟨0, cs1, rfl⟩, ⟨1, cs2, rfl⟩, d⟩, ⟨⟨0, rfl⟩, ⟨1, rfl⟩, trivial⟩, dvT rfl rfl hK⟩⟩⟩⟩
theorem good_idmN (g66 : Good 66 600 6000 C_i2d) (g73 : Good 73 600 6000 C_d2i) : Good 87 570 5700 C_idmN :=
 goodX (b := bl_idm) (F := fn_idm) (Ds := []) (Cl := [(87, C_idmP)]) [Str.ofString "a", Str.ofString "b"] [t61, t68] (fun _ => rfl) (fun _ => rfl) (by decide) (by decide) (fun s pos h => by (refine el_EEr (ex2 h) fun a b z09 => ?_; subst z09); exact .of_eq rfl) rfl (by decide) rfl rfl rfl rfl (fun _ => ⟨⟨rfl, rfl⟩, ⟨rfl, rfl⟩, trivial⟩) (by decide) (by decide) (fun _ => trivial) ⟨⟨_, _, by decide, by decide, good_idmP g66 g73⟩, trivial⟩ 0 rfl fun vs ν K h => by
  (refine el_EER (a2_inv h) fun x y z09 => ?_; subst z09; intro h)
  (refine el_ER (wI_inv h) fun a z09 => ?_; subst z09; intro h)
  (refine el_ERA (wI_inv h) fun b z09 => ?_; subst z09; intro q hK)
  refine ⟨rfl, rfl, (fun t ht => by rcases List.mem_cons.mp ht with rfl | ht; exact q.1; rw [List.mem_singleton.mp ht]; exact q.2.1), fun tb e => ?_⟩
  (refine el_EEREERr e fun cs1 _ cs2 _ z09 z19 z29 => ?_; try clear e; subst z09; subst z19; subst z29)
  have d := q.2.2
  have ha := d.1
  have hb := d.2.1
  exact ⟨fun h => absurd h (Int.ne_of_gt hb), fun _ => ⟨fun h => absurd h (Int.not_lt.mpr (Int.le_of_lt hb)), fun _ => ⟨fun _ => ⟨⟨⟨0, cs1, rfl⟩, ⟨1, cs2, rfl⟩, d⟩, _, _, rfl, ⟨⟨0, rfl⟩, ⟨1, rfl⟩, trivial⟩, dvT rfl rfl hK⟩, fun h => absurd (show a < 0 by omega) h⟩⟩⟩
end Mine
end
section
namespace Mine
open PySem PySem.W PySem.Calls PySem.Spec PyProof.Rows
theorem run_lead {k : Nat} (h : k ≤ 9) {n b nt : Int} {cnt : List Int} (e : (n, b, nt, cnt) = wsRun (List.replicate k 32 ++ [9]) 0 0 0 []) (z : Int) (hz : z = 2 ∨ z = 3) : lvl z b nt cnt = z * ((k : Int) / z + 1) := by
 have key : ∀ k : Fin 10, ∀ z : Fin 2, lvl ((z.val : Int) + 2) (wsRun (List.replicate k.val 32 ++ [9]) 0 0 0 []).2.1 (wsRun (List.replicate k.val 32 ++ [9]) 0 0 0 []).2.2.1 (wsRun (List.replicate k.val 32 ++ [9]) 0 0 0 []).2.2.2 = ((z.val : Int) + 2) * ((k.val : Int) / ((z.val : Int) + 2) + 1) := by decide +kernel
 rcases hz with rfl | rfl
 ·have := key ⟨k, by exact Nat.succ_le_succ (by assumption)⟩ 0
  rw [← e] at this
  exact this
 ·have := key ⟨k, by exact Nat.succ_le_succ (by assumption)⟩ 1
  rw [← e] at this
  exact this
noncomputable def C_wsm : Co := fun vs ν K => a1 vs fun a => wS a fun x => x.length ≤ 10000 ∧ ∀ n b nt cnt, (n, b, nt, cnt) = wsRun x.cps.toList 0 0 0 [] → cnt.length ≤ 10001 → K (.o ν.length) (ν ++ [.ws n b nt cnt])
noncomputable def C_sym : Co := fun vs ν K => a2 vs fun x y => wI x fun p => wI y fun z => (hasT ν t61 ∧ hasT ν t68 ∧ 1 ≤ p ∧ p ≤ 9 ∧ (z = 2 ∨ z = 3)) ∧ K (.i (if p % z = 0 then 256 + p / z - 1 else 256 - p)) ν
noncomputable def fn_sym : Fn := { ns := [Str.ofString "part", Str.ofString "size", Str.ofString "far", Str.ofString "near"], gt := [(Str.ofString "Whitespace", .ref 164), (Str.ofString "ISEOF", .ref 45), (Str.ofString "NT_OFFSET", .int 256 294), (Str.ofString "int_divmod", .ref 87)] }
noncomputable def bl_sym : B := (.set 2 (.meth1 .indent (.call1 0 (.bin .add (.bin .mul (.str (Str.ofString " ") 21 24) (.loc 0 27 31) 21 31) (.str (Str.ofString "\t") 34 38) 21 38) 20 10 39) (.loc 1 53 57) 52 10 58) 235 4 7 58 (.set 3 (.meth1 .indent (.call1 0 (.bin .add (.bin .mul (.str (Str.ofString " ") 22 25) (.bin .sub (.loc 0 29 33) (.int 1 36 37) 29 37) 22 38) (.str (Str.ofString "\t") 41 45) 22 45) 21 11 46) (.loc 1 60 64) 59 11 65) 236 4 8 65 (.ite (.call1 1 (.bin .sub (.loc 2 13 16) (.loc 3 19 23) 13 23) 12 7 24) (.ret (.bin .sub (.glo 2 15 24) (.loc 0 27 31) 15 31) 238 8 31 .nil) .nil 237 4 238 31 (.ret (.bin .sub (.bin .add (.glo 2 11 20) (.sub (.call2 3 (.loc 3 34 38) (.loc 1 40 44) 33 23 45) (.int 0 46 47) 23 48) 11 48) (.int 1 51 52) 11 52) 239 4 52 .nil))))
noncomputable abbrev d_sym : Df := { F := fn_sym, D := [], C := lookC [(164, C_wsm), (45, C_ise), (87, C_idmP), (133, C_ind)] }
theorem small_dv {a b : Int} (hb : b = 2 ∨ b = 3) (h1 : 1 ≤ a) (h9 : a ≤ 9) : DvC a b := by
 have key : ∀ k : Fin 9, ∀ z : Fin 2, Builtin.Int.intBits ((z.val : Int) + 2) ≤ 1990 ∧ ((Builtin.Int.intBits ((k.val : Int) + 1) : Int) + Builtin.Int.intBits ((z.val : Int) + 2) - 1) / Builtin.Int.intBits ((z.val : Int) + 2) = (((Builtin.Int.intBits ((k.val : Int) + 1) : Int) + Builtin.Int.intBits ((z.val : Int) + 2) - 1) / Builtin.Int.intBits ((z.val : Int) + 2)).toNat ∧
   1 ≤ (((Builtin.Int.intBits ((k.val : Int) + 1) : Int) + Builtin.Int.intBits ((z.val : Int) + 2) - 1) / Builtin.Int.intBits ((z.val : Int) + 2)).toNat ∧ (((Builtin.Int.intBits ((k.val : Int) + 1) : Int) + Builtin.Int.intBits ((z.val : Int) + 2) - 1) / Builtin.Int.intBits ((z.val : Int) + 2)).toNat ≤ 40 ∧
   ((k.val : Int) + 1) < 2 ^ (Builtin.Int.intBits ((z.val : Int) + 2) * (((Builtin.Int.intBits ((k.val : Int) + 1) : Int) + Builtin.Int.intBits ((z.val : Int) + 2) - 1) / Builtin.Int.intBits ((z.val : Int) + 2)).toNat) := by decide +kernel
 have e := (p9 h1 h9).2
 rcases hb with rfl | rfl
 ·have := key ⟨(a - 1).toNat, (p9 h1 h9).1⟩ 0
  rw [e] at this
  exact ⟨h1, by decide, this.1, _, this.2⟩
 ·have := key ⟨(a - 1).toNat, (p9 h1 h9).1⟩ 1
  rw [e] at this
  exact ⟨h1, by decide, this.1, _, this.2⟩
theorem sym_x {p : Int} (h1 : 0 ≤ p) (h9 : p ≤ 9) : (Txt.mul (Str.ofString " ") p ++ Str.ofString "\t").cps.toList = List.replicate p.toNat 32 ++ [9] ∧ (Txt.mul (Str.ofString " ") p).length + (Str.ofString "\t").length ≤ 16777216 ∧ (Txt.mul (Str.ofString " ") p ++ Str.ofString "\t").length ≤ 10000 := by
 have e : (Txt.mul (Str.ofString " ") p ++ Str.ofString "\t").cps.toList = List.replicate p.toNat 32 ++ [9] := by have := leadEl_codes 0 p; rw [Int.sub_zero] at this; unfold leadEl at this; rw [Int.sub_zero] at this; exact this
 have l : (Txt.mul (Str.ofString " ") p ++ Str.ofString "\t").length = p.toNat + 1 := by have := leadEl_length 0 p; unfold leadEl at this; rw [Int.sub_zero] at this; exact this
 have l2 : (Txt.mul (Str.ofString " ") p ++ Str.ofString "\t").length = (Txt.mul (Str.ofString " ") p).length + (Str.ofString "\t").length := by
  show Array.size (_ ++ _) = _
  rw [Array.size_append]; rfl
 exact ⟨e, by rw [← l2, l]; lia, by rw [l]; lia⟩
theorem sym_a {p z : Int} (hz : z = 2 ∨ z = 3) (h1 : 1 ≤ p) (h9 : p ≤ 9) : (z * (p / z + 1) - z * ((p - 1) / z + 1) = 0 ↔ ¬ p % z = 0) ∧ (p % z = 0 → z * ((p - 1) / z + 1) = p) := by
 exact z23 (P := fun z => (z * (p / z + 1) - z * ((p - 1) / z + 1) = 0 ↔ ¬ p % z = 0) ∧ (p % z = 0 → z * ((p - 1) / z + 1) = p)) hz (fin9 (P := fun p => (2 * (p / 2 + 1) - 2 * ((p - 1) / 2 + 1) = 0 ↔ ¬ p % 2 = 0) ∧ (p % 2 = 0 → 2 * ((p - 1) / 2 + 1) = p)) h1 h9 (by decide)) (fin9 (P := fun p => (3 * (p / 3 + 1) - 3 * ((p - 1) / 3 + 1) = 0 ↔ ¬ p % 3 = 0) ∧ (p % 3 = 0 → 3 * ((p - 1) / 3 + 1) = p)) h1 h9 (by decide))
theorem sym_st {p z : Int} {cs1 cs2 : List (Addr × Obj)} {P : SV → Nu → Prop} (h1 : 1 ≤ p) (h9 : p ≤ 9) (hz : z = 2 ∨ z = 3) (hP : ∀ ν', Kept ν' [.tab t61.P t61.l t61.c t61.q cs1, .tab t68.P t68.l t68.c t68.q cs2] → P (.i (if p % z = 0 then 256 + p / z - 1 else 256 - p)) ν') :
  st d_sym bl_sym (retK P) [.i p, .i z, .u, .u] [.tab t61.P t61.l t61.c t61.q cs1, .tab t68.P t68.l t68.c t68.q cs2] := by
 have x := sym_x (p := p) (by exact Int.le_of_lt (by assumption)) h9
 have y := sym_x (p := p - 1) (by lia) (by lia)
 have s := sym_a hz h1 h9
 have hz' : 2 ≤ z ∧ z ≤ 10 := by lia
 refine ⟨⟨show (1 : Nat) ≤ 16 by decide, by lia, by exact Int.le_trans (by assumption) (by decide)⟩, x.2.1, x.2.2, fun n b nt cnt e hl => ⟨⟨hz'.1, hz'.2, hl⟩, ?_⟩⟩
 rw [x.1] at e
 have e1 := run_lead (k := p.toNat) (by lia) e z hz
 rw [show ((p.toNat : Nat) : Int) = p by grind only] at e1
 rw [e1]
 refine ⟨⟨show (1 : Nat) ≤ 16 by decide, by lia, by lia⟩, y.2.1, y.2.2, fun n b nt cnt e hl => ⟨⟨hz'.1, hz'.2, hl⟩, ?_⟩⟩
 rw [y.1] at e
 have e2 := run_lead (k := (p - 1).toNat) (by lia) e z hz
 rw [show (((p - 1).toNat : Nat) : Int) = p - 1 by lia] at e2
 rw [e2]
 refine ⟨fun h => ?_, fun h => ?_⟩
 ·have n0 := s.1.mp (of_decide_eq_true h)
  rw [if_neg n0] at hP
  exact hP _ ⟨⟨0, rfl⟩, ⟨1, rfl⟩, trivial⟩
 ·have n0 : p % z = 0 := Decidable.not_not.mp fun q => h (decide_eq_true (s.1.mpr q))
  have e3 := s.2 n0
  rw [if_pos n0] at hP
  show (_ ∧ _ ∧ _) ∧ _
  rw [e3]
  exact ⟨⟨⟨0, cs1, rfl⟩, ⟨1, cs2, rfl⟩, small_dv hz h1 h9⟩, Int.le_refl 0, show (2 : Nat) ≤ 100 by decide, _, rfl, hP _ ⟨⟨0, rfl⟩, ⟨1, rfl⟩, trivial⟩⟩
theorem good_sym (g66 : Good 66 600 6000 C_i2d) (g73 : Good 73 600 6000 C_d2i) (g164 : Good 164 700 7000 C_wsm) : Good 187 550 5500 C_sym :=
 goodX (b := bl_sym) (F := fn_sym) (Ds := d_sym.D) (Cl := [(164, C_wsm), (45, C_ise), (87, C_idmP), (133, C_ind)]) [Str.ofString "part", Str.ofString "size"] [t61, t68] (fun _ => rfl) (fun _ => rfl) (by decide) (by decide) (fun s pos h => by (refine el_EEr (ex2 h) fun a b z09 => ?_; subst z09); exact .of_eq rfl) rfl (by decide) rfl rfl rfl rfl (fun _ => ⟨⟨rfl, rfl⟩, ⟨rfl, rfl⟩, ⟨rfl, rfl⟩, ⟨rfl, rfl⟩, trivial⟩) (by decide) (by decide) (fun _ => trivial) ⟨⟨_, _, by decide, by decide, g164⟩, ⟨_, _, by decide, by decide, good_ise⟩, ⟨_, _, by decide, by decide, good_idmP g66 g73⟩, ⟨_, _, by decide, by decide, good_ind⟩, trivial⟩ 0 rfl fun vs ν K h => by
  (refine el_EER (a2_inv h) fun x y z09 => ?_; subst z09; intro h)
  (refine el_ER (wI_inv h) fun p z09 => ?_; subst z09; intro h)
  (refine el_ERA (wI_inv h) fun z z09 => ?_; subst z09; intro q hK)
  refine ⟨rfl, rfl, (fun t ht => by rcases List.mem_cons.mp ht with rfl | ht; exact q.1; rw [List.mem_singleton.mp ht]; exact q.2.1), fun tb e => ?_⟩
  (refine el_EEREERr e fun cs1 _ cs2 _ z09 z19 z29 => ?_; try clear e; subst z09; subst z19; subst z29)
  exact sym_st q.2.2.1 q.2.2.2.1 q.2.2.2.2 fun ν' kp => ⟨kp, hK⟩
end Mine
end
section
namespace Mine
open PySem PySem.W PySem.Calls PySem.Spec PyProof.Rows
noncomputable def symF (z k : Int) : Int := if k % z = 0 then 256 + k / z - 1 else 256 - k
noncomputable def SymOk (z : Int) (c : List (Int × Int)) : Prop := ∀ p ∈ c, 1 ≤ p.1 ∧ p.1 ≤ 9 ∧ p.2 = symF z p.1
theorem SymOk.look {z k : Int} {c : List (Int × Int)} (h : SymOk z c) (hk : kdfHas c k = true) : kdfLook c k 0 = symF z k := by
 unfold kdfHas at hk
 unfold kdfLook
 refine el_EA (List.any_eq_true.mp hk) fun p hp hpk => ?_
 cases e : c.find? fun p => decide (p.1 = k) with
 | none => exact absurd hpk (by simpa using List.find?_eq_none.mp e p hp)
 | some q =>
  have h1 := List.mem_of_find?_eq_some e
  have h2 : q.1 = k := by simpa using List.find?_some e
  show q.2 = _
  rw [(h q h1).2.2, h2]
theorem SymOk.put {z k : Int} {c : List (Int × Int)} (h : SymOk z c) (h1 : 1 ≤ k) (h9 : k ≤ 9) : SymOk z (kdfPut c k (symF z k)) := by
 intro p hp
 unfold kdfPut at hp
 split at hp
 ·(refine el_EAr (List.mem_map.mp hp) fun q z09 => ?_; subst z09; intro hq)
  split
  ·rename_i e
   have : q.1 = k := of_decide_eq_true e
   exact ⟨by dsimp only; lia, by dsimp only; lia, by dsimp only; rw [this]⟩
  ·exact h q hq
 ·rcases List.mem_append.mp hp with hp | hp
  ·exact h p hp
  ·rw [List.mem_singleton.mp hp]; exact ⟨h1, h9, rfl⟩
theorem has_put (c : List (Int × Int)) (k v : Int) : kdfHas (kdfPut c k v) k = true := by
 rw [kdyHas_put]; simp
theorem told_one {z q : Int} (hz : z = 2 ∨ z = 3) (h1 : 1 ≤ q) (h9 : q ≤ 9) (h : q % z ≠ 0) : toldOf z q = [q] := by
 unfold toldOf
 rw [red_tab hz h1 h9]
 have hq : q = 1 ∨ q = 2 ∨ q = 3 ∨ q = 4 ∨ q = 5 ∨ q = 6 ∨ q = 7 ∨ q = 8 ∨ q = 9 := by lia
 rcases hz with rfl | rfl <;> rcases hq with rfl | rfl | rfl | rfl | rfl | rfl | rfl | rfl | rfl <;> first | rfl | (exact absurd rfl h)
theorem told_many {z q : Int} (hz : z = 2 ∨ z = 3) (h1 : 1 ≤ q) (h9 : q ≤ 9) (h : q % z = 0) : (List.replicate z.toNat (q / z)).flatMap (toldOf z) = toldOf z q := by
 rw [List.flatMap_replicate]
 unfold toldOf
 rw [red_tab hz h1 h9, red_tab hz (x := q / z) (by rcases hz with rfl | rfl <;> lia) (by rcases hz with rfl | rfl <;> lia)]
 have hq : q = 1 ∨ q = 2 ∨ q = 3 ∨ q = 4 ∨ q = 5 ∨ q = 6 ∨ q = 7 ∨ q = 8 ∨ q = 9 := by lia
 rcases hz with rfl | rfl <;> rcases hq with rfl | rfl | rfl | rfl | rfl | rfl | rfl | rfl | rfl <;> first | (exact absurd h (by decide)) | rfl
noncomputable def costF (qs : List Int) : Nat := (qs.map fun q => 2 * q.toNat - 1).sum
theorem cost_append (a b : List Int) : costF (a ++ b) = costF a + costF b := by unfold costF; rw [List.map_append, List.sum_append]
theorem cost_rep (n : Nat) (q : Int) : costF (List.replicate n q) = n * (2 * q.toNat - 1) := by
 unfold costF
 rw [List.map_replicate]
 induction n with
 | zero => simp
 | succ n ih => rw [List.replicate_succ, List.sum_cons, ih, Nat.add_mul, Nat.one_mul, Nat.add_comm]
theorem cost_drop {z q : Int} (hz : z = 2 ∨ z = 3) (h1 : 1 ≤ q) (h9 : q ≤ 9) (hm : q % z = 0) : z.toNat * (2 * (q / z).toNat - 1) + 1 ≤ 2 * q.toNat - 1 := by
 exact z23 (P := fun z => q % z = 0 → z.toNat * (2 * (q / z).toNat - 1) + 1 ≤ 2 * q.toNat - 1) hz (fin9 (P := fun q => q % 2 = 0 → 2 * (2 * (q / 2).toNat - 1) + 1 ≤ 2 * q.toNat - 1) h1 h9 (by decide)) (fin9 (P := fun q => q % 3 = 0 → 3 * (2 * (q / 3).toNat - 1) + 1 ≤ 2 * q.toNat - 1) h1 h9 (by decide)) hm
theorem cost_step {z q : Int} (hz : z = 2 ∨ z = 3) (h1 : 1 ≤ q) (h9 : q ≤ 9) (hm : q % z = 0) (qs : List Int) : costF (qs ++ List.replicate z.toNat (q / z)) + 1 ≤ costF (qs ++ [q]) := by
 have := cost_drop hz h1 h9 hm
 rw [cost_append, cost_append, cost_rep, show costF [q] = 2 * q.toNat - 1 by simp [costF]]; lia
theorem cost_less {q : Int} (qs : List Int) (h1 : 1 ≤ q) : costF qs < costF (qs ++ [q]) := by
 rw [cost_append, show costF [q] = 2 * q.toNat - 1 by simp [costF]]; lia
theorem cost_length : ∀ {qs : List Int}, (∀ q ∈ qs, 1 ≤ q ∧ q ≤ 9) → qs.length ≤ costF qs ∧ costF qs ≤ 17 * qs.length
 | [], _ => ⟨Nat.le_refl _, Nat.le_refl _⟩
 | q :: qs, h => by
  have h1 := h q List.mem_cons_self
  have h2 := cost_length (qs := qs) fun x hx => h x (List.mem_cons_of_mem _ hx)
  have e : costF (q :: qs) = (2 * q.toNat - 1) + costF qs := rfl
  rw [e, List.length_cons, Nat.add_comm _ (costF qs)]
  exact ⟨Nat.add_le_add h2.1 (Nat.le_sub_of_add_le (Nat.mul_le_mul_left 2 (Int.lt_toNat.2 h1.1))), Nat.add_le_add h2.2 (Nat.sub_le_of_le_add (Nat.mul_le_mul_left 2 (Int.toNat_le.2 h1.2)))⟩
theorem symF_ne {z q : Int} (hz : z = 2 ∨ z = 3) (h1 : 1 ≤ q) (h9 : q ≤ 9) : symF z q ≠ 0 := by
 unfold symF
 split
 ·rcases hz with rfl | rfl <;> lia
 ·lia
noncomputable def C_spl : Co := fun vs ν K => a2 vs fun x y => wL x ν fun ns => wI y fun z => (hasT ν t61 ∧ hasT ν t68 ∧ (∀ x ∈ ns, 1 ≤ x ∧ x ≤ 9) ∧ ns.length ≤ 15 ∧ (z = 2 ∨ z = 3)) ∧ K (.o ν.length) (ν ++ [.ro (toldF z ns)])
noncomputable def fn_spl : Fn := { ns := [Str.ofString "parts", Str.ofString "size", Str.ofString "symbols", Str.ofString "pile", Str.ofString "part", Str.ofString "told", Str.ofString "symbol"], gt := [(Str.ofString "_law_symbol", .ref 187), (Str.ofString "ISEOF", .ref 45), (Str.ofString "ISTERMINAL", .ref 31), (Str.ofString "NT_OFFSET", .int 256 294), (Str.ofString "ISNONTERMINAL", .ref 38)] }
noncomputable def bl_spl : B := (.set 2 (.dict 14 16) 241 4 11 16 (.set 3 (.lst (.int 0 12 13) 11 14) 242 4 8 14 (.forL 4 (.loc 0 16 21) (.ite (.cmp .nin (.loc 4 11 15) (.loc 2 23 30) 11 30) (.sset (.loc 2 12 19) (.loc 4 20 24) (.call2 0 (.loc 4 40 44) (.loc 1 46 50) 39 28 51) 245 12 25 51 .nil) .nil 244 8 245 51 (.expr (.m1 .append (.loc 3 8 12) (.sub (.loc 2 20 27) (.loc 4 28 32) 20 33) 19 8 34) 246 8 34 .nil)) 243 4 8 12 246 34 (.set 5 (.nil false 11 13) 247 4 8 13 (.whl (.not (.call1 1 (.last (.loc 3 20 24) 25 27 26 20 28) 19 14 29) 10 29) (.set 6 (.m0 .pop (.loc 3 17 21) 25 17 27) 249 8 14 27 (.ite (.call1 2 (.loc 6 22 28) 21 11 29) (.expr (.m1 .append (.loc 5 12 16) (.bin .sub (.glo 3 24 33) (.loc 6 36 42) 24 42) 23 12 43) 251 12 43 .nil) .nil 250 8 251 43 (.ite (.call1 4 (.loc 6 25 31) 24 11 32) (.set 4 (.bin .add (.bin .sub (.loc 6 19 25) (.glo 3 28 37) 19 37) (.int 1 40 41) 19 41) 253 12 16 41 (.ite (.cmp .nin (.loc 4 15 19) (.loc 2 27 34) 15 34) (.sset (.loc 2 16 23) (.loc 4 24 28) (.call2 0 (.loc 4 44 48) (.loc 1 50 54) 43 32 55) 255 16 29 55 .nil) .nil 254 12 255 55 (.expr (.m1 .extend (.loc 3 12 16) (.bin .mul (.lst (.sub (.loc 2 25 32) (.loc 4 33 37) 25 38) 24 39) (.loc 1 42 46) 24 46) 23 12 47) 256 12 47 .nil))) .nil 252 8 256 47 .nil))) 248 4 256 47 (.ret (.ife (.call1 2 (.last (.loc 3 30 34) 35 37 36 30 38) 29 19 39) (.loc 5 11 15) (.nil false 45 47) 11 47) 257 4 47 .nil))))))
noncomputable abbrev d_spl : Df := { F := fn_spl, D := [], C := lookC [(187, C_sym), (45, C_ise), (31, C_ist), (38, C_ins)] }
noncomputable abbrev tb1 (cs : List (Addr × Obj)) : SO := .tab t61.P t61.l t61.c t61.q cs
noncomputable abbrev tb2 (cs : List (Addr × Obj)) : SO := .tab t68.P t68.l t68.c t68.q cs
theorem put_len (c : List (Int × Int)) (k v : Int) : (kdfPut c k v).length ≤ c.length + 1 := by
 unfold kdfPut; split
 ·rw [List.length_map]; exact Nat.le_succ _
 ·rw [List.length_append]; exact Nat.le_refl _
theorem spl_p {z k : Int} {c : List (Int × Int)} (h : SymOk z c) (h1 : 1 ≤ k) (h9 : k ≤ 9) : SymOk z (kdfPut c k (symF z k)) ∧ kdfHas (kdfPut c k (symF z k)) k = true ∧ kdfLook (kdfPut c k (symF z k)) k 0 = symF z k ∧ (kdfPut c k (symF z k)).length ≤ c.length + 1 :=
 ⟨h.put h1 h9, has_put c k _, SymOk.look (h.put h1 h9) (has_put c k _), put_len c k _⟩
theorem spl_top {z q : Int} {qs : List Int} : (0 :: (qs ++ [q]).map (symF z)).getD ((0 :: (qs ++ [q]).map (symF z)).length - 1) 0 = symF z q ∧ (0 :: (qs ++ [q]).map (symF z)).dropLast = 0 :: qs.map (symF z) := by
 rw [List.map_append]
 constructor
 ·simp [List.getD_eq_getElem?_getD]
 ·show (0 :: (qs.map (symF z) ++ [symF z q])).dropLast = _
  rw [← List.cons_append, List.dropLast_concat]
theorem spl_f {z q : Int} (hz : z = 2 ∨ z = 3) (h1 : 1 ≤ q) (h9 : q ≤ 9) : (q % z ≠ 0 → symF z q < 256 ∧ 256 - symF z q = q) ∧ (q % z = 0 → 256 ≤ symF z q ∧ symF z q - 256 + 1 = q / z ∧ 1 ≤ q / z ∧ q / z ≤ 9) := by
 unfold symF
 have d := dvm hz h1
 refine ⟨fun h => by rw [if_neg h]; lia, fun h => ?_⟩
 have p := Int.ediv_pos_of_pos_of_dvd h1 (Int.le_of_lt d.1.1) (Int.dvd_of_emod_eq_zero h)
 rw [if_pos h]; grind only
structure SplP (z : Int) (ns : List Int) (n : Nat) (c : List (Int × Int)) (p ts qs : List Int) : Prop where
 p : p = 0 :: qs.map (symF z)
 n : n = costF qs
 b : ∀ q ∈ qs, 1 ≤ q ∧ q ≤ 9
 s : SymOk z c
 l : c.length + ts.length + costF qs ≤ 600
 t : ts ++ qs.reverse.flatMap (toldOf z) = toldF z ns
section
variable {z q : Int} {ns : List Int} {n : Nat} {c : List (Int × Int)} {p ts qs : List Int}
theorem spl_len (h : SplP z ns n c p ts qs) : 1 ≤ p.length ∧ p.length ≤ 601 := by
 have := (cost_length h.b).1
 rw [h.p, List.length_cons, List.length_map]
 have := h.l
 lia
theorem spl_1 (hz : z = 2 ∨ z = 3) (h : SplP z ns n c p ts (qs ++ [q])) (hq : q % z ≠ 0) (x : Int) (hx : x = symF z q) : costF qs < n ∧ SplP z ns (costF qs) c p.dropLast (ts ++ [256 - x]) qs := by
 have hb := h.b q (List.mem_append_right _ (.head _))
 have e := cost_less qs hb.1
 refine ⟨by rw [h.n]; exact e, by rw [h.p, spl_top.2], rfl, fun y hy => h.b y (List.mem_append_left _ hy), h.s, ?_, ?_⟩
 ·have := h.l; rw [List.length_append, List.length_singleton]; lia
 ·rw [hx, ((spl_f hz hb.1 hb.2).1 hq).2, ← h.t, List.reverse_append, List.flatMap_append, List.reverse_singleton, List.flatMap_cons, List.flatMap_nil, List.append_nil, told_one hz hb.1 hb.2 hq, List.append_assoc]
theorem spl_2 (hz : z = 2 ∨ z = 3) (h : SplP z ns n c p ts (qs ++ [q])) (hq : q % z = 0) {c' : List (Int × Int)} (hs : SymOk z c') (hl : c'.length ≤ c.length + 1) (y : Int) (hy : y = symF z (q / z)) : costF (qs ++ List.replicate z.toNat (q / z)) < n ∧ SplP z ns (costF (qs ++ List.replicate z.toNat (q / z))) c' (p.dropLast ++ (List.replicate z.toNat [y]).flatten) ts (qs ++ List.replicate z.toNat (q / z)) := by
 have hb := h.b q (List.mem_append_right _ (.head _))
 have f := (spl_f hz hb.1 hb.2).2 hq
 have e := cost_step hz hb.1 hb.2 hq qs
 refine ⟨by rw [h.n]; exact e, ?_, rfl, fun y hy => (List.mem_append.mp hy).elim (fun hy => h.b y (List.mem_append_left _ hy)) fun hy => by rw [List.eq_of_mem_replicate hy]; exact f.2.2, hs, by have := h.l; lia, ?_⟩
 ·rw [h.p, spl_top.2, rep_one_int, hy, List.map_append, List.map_replicate]; rfl
 ·rw [← h.t, List.reverse_append, List.reverse_append, List.flatMap_append, List.flatMap_append, List.reverse_replicate, told_many hz hb.1 hb.2 hq, List.reverse_singleton, List.flatMap_cons, List.flatMap_nil, List.append_nil]
end
theorem spl_st {ns : List Int} {z : Int} {cs1 cs2 : List (Addr × Obj)} {P : SV → Nu → Prop} (hb : ∀ x ∈ ns, 1 ≤ x ∧ x ≤ 9) (hl : ns.length ≤ 15) (hz : z = 2 ∨ z = 3) (hP : ∀ k ν', ν'[k]? = some (.ints (toldF z ns)) → Kept ν' [tb1 cs1, tb2 cs2] → P (.o k) ν') :
  st d_spl bl_spl (retK P) [.o 0, .i z, .u, .u, .u, .u, .u] [.ro ns, tb1 cs1, tb2 cs2] := by
 refine for2 (fun (_ : List (Int × Int)) (_ : List Int) => [.o 0, .i z, .o 3, .o 4, .u, .u, .u]) (fun c p => [.ro ns, tb1 cs1, tb2 cs2, .dict c, .ints p]) (fun i c p => SymOk z c ∧ c.length ≤ i ∧ p = 0 :: (ns.take i).map (symF z)) (in2 [true, true, true, true, false, false, false] [true, true, true, true, true] [] [0] rfl rfl rfl ⟨(fun _ h => nomatch h), Nat.le_refl _, rfl⟩) (fun i c p hi h => ?_) fun c p h => ?_
 ·have hi : i < ns.length := hi
  have hx := hb _ (getD_mem hi)
  have hp : p.length ≤ 16000000 := by rw [h.2.2, List.length_cons, List.length_map, List.length_take]; lia
  have w := spl_p h.1 hx.1 hx.2
  have fin : ∀ y, y = symF z (ns.getD i 0) → p ++ [y] = 0 :: (ns.take (i + 1)).map (symF z) := fun y hy => by rw [h.2.2, hy, take_getD hi, List.map_append]; rfl
  have hc := h.2.1
  exact ⟨fun _ => ⟨⟨⟨1, cs1, rfl⟩, ⟨2, cs2, rfl⟩, hx.1, hx.2, hz⟩, by lia, w.2.1, hp, in2 [true, true, true, true, false, false, false] [true, true, true, true, true] _ _ rfl rfl rfl ⟨w.1, Nat.le_trans w.2.2.2 (Nat.succ_le_succ hc), fin _ w.2.2.1⟩⟩,
   fun hn => ⟨Decidable.not_not.mp hn, hp, in2 [true, true, true, true, false, false, false] [true, true, true, true, true] _ _ rfl rfl rfl ⟨h.1, Nat.le_succ_of_le hc, fin _ (SymOk.look h.1 (Decidable.not_not.mp hn))⟩⟩⟩
 ·have h2 := h.2.2
  rw [List.take_length] at h2
  refine whl3 (fun (_ : List (Int × Int)) (_ _ : List Int) => [.u, .i z, .o 3, .o 4, .u, .o 5, .u]) (fun c p ts => [.junk, tb1 cs1, tb2 cs2, .dict c, .ints p, .ints ts]) (fun n c p ts => ∃ qs, SplP z ns n c p ts qs) _ (in3 [false, true, true, true, false, true, false] [false, true, true, true, true, true] _ _ [] rfl rfl rfl ⟨ns, h2, rfl, hb, h.1, ?_, rfl⟩) fun n c p ts ⟨qs, k⟩ => ?_
  ·have := cost_length hb; have := h.2.1; show _ + 0 + _ ≤ _; lia
  ·have l := spl_len k
   have l' : 1 ≤ p.length ∧ p.length ≤ 16000000 := ⟨l.1, by exact Nat.le_trans (And.right (by assumption)) (by decide)⟩
   have tl : ts.length ≤ 16000000 := by have := k.l; lia
   refine ⟨l', ?_⟩
   rcases List.eq_nil_or_concat qs with rfl | ⟨qs, q, rfl⟩
   ·have x0 : p.getD (p.length - 1) 0 = 0 := by rw [k.p]; rfl
    refine ⟨fun _ => ⟨l', fun _ => hP _ _ (show some _ = some _ from congrArg (fun x => some (SO.ints x)) ((List.append_nil ts).symm.trans k.t)) ⟨⟨1, rfl⟩, ⟨2, rfl⟩, trivial⟩, fun h => absurd (decide_eq_true (show p.getD (p.length - 1) 0 < 256 by rw [x0]; decide)) h⟩, fun h => absurd (decide_eq_true x0) h⟩
   ·rw [List.concat_eq_append] at k
    have hq := k.b q (List.mem_append_right _ (.head _))
    have x0 : p.getD (p.length - 1) 0 = symF z q := by rw [k.p]; exact spl_top.1
    have f := spl_f hz hq.1 hq.2
    have dl : p.dropLast.length ≤ 601 := by rw [List.length_dropLast]; grind only
    rw [← x0] at f
    refine ⟨fun h => absurd (x0.symm.trans (of_decide_eq_true h)) (symF_ne hz hq.1 hq.2), fun _ => ⟨l', ?_⟩⟩
    by_cases hm : q % z = 0
    ·have f := f.2 hm
     have e2 : symF z (p.getD (p.length - 1) 0 - 256 + 1) = symF z (q / z) := by rw [f.2.1]
     have w := spl_p k.s (k := p.getD (p.length - 1) 0 - 256 + 1) (by omega) (by omega)
     have zb : -2 ^ 63 ≤ z ∧ z < 2 ^ 63 ∧ 1 * z.toNat ≤ 2 ^ 24 := z23 (P := fun z => -2 ^ 63 ≤ z ∧ z < 2 ^ 63 ∧ 1 * z.toNat ≤ 2 ^ 24) hz (by decide) (by decide)
     have el : ∀ y : Int, p.dropLast.length + ((List.replicate z.toNat [y]).flatten).length ≤ 16000000 := fun y => by rw [rep_one_int, List.length_replicate]; lia
     have cl := k.l
     refine ⟨fun h => absurd (of_decide_eq_true h) (by omega), fun _ => ⟨fun _ => ⟨fun _ => ?_, fun hn => ?_⟩, fun h => absurd (decide_eq_true f.1) h⟩⟩
     ·have a := spl_2 hz k hm w.1 w.2.2.2 _ (w.2.2.1.trans e2)
      exact ⟨⟨⟨1, cs1, rfl⟩, ⟨2, cs2, rfl⟩, by lia, by omega, hz⟩, by lia, w.2.1, zb, el _, turn3 _ [false, true, true, true, false, true, false] [false, true, true, true, true, true] _ _ _ a.1 rfl rfl rfl ⟨_, a.2⟩⟩
     ·have hn := Decidable.not_not.mp hn
      have a := spl_2 hz k hm k.s (Nat.le_succ _) _ ((SymOk.look k.s hn).trans e2)
      exact ⟨hn, zb, el _, turn3 _ [false, true, true, true, false, true, false] [false, true, true, true, true, true] _ _ _ a.1 rfl rfl rfl ⟨_, a.2⟩⟩
    ·have f := f.1 hm
     have a := spl_1 hz k hm _ x0
     exact ⟨fun _ => ⟨tl, fun h => absurd (of_decide_eq_true h) (by omega), fun _ => turn3 _ [false, true, true, true, false, true, false] [false, true, true, true, true, true] _ _ _ a.1 rfl rfl rfl ⟨_, a.2⟩⟩, fun h => absurd (decide_eq_true f.1) h⟩
theorem good_spl (g66 : Good 66 600 6000 C_i2d) (g73 : Good 73 600 6000 C_d2i) (g164 : Good 164 700 7000 C_wsm) : Good 194 500 5000 C_spl :=
 goodX (b := bl_spl) (F := fn_spl) (Ds := d_spl.D) (Cl := [(187, C_sym), (45, C_ise), (31, C_ist), (38, C_ins)]) [Str.ofString "parts", Str.ofString "size"] [t61, t68] (fun _ => rfl) (fun _ => rfl) (by decide) (by decide) (fun s pos h => by (refine el_EEr (ex2 h) fun a b z09 => ?_; subst z09); exact .of_eq rfl) rfl (by decide) rfl rfl rfl rfl (fun _ => ⟨⟨rfl, rfl⟩, ⟨rfl, rfl⟩, ⟨rfl, rfl⟩, ⟨rfl, rfl⟩, ⟨rfl, rfl⟩, trivial⟩) (by decide) (by decide) (fun _ => trivial) ⟨⟨_, _, by decide, by decide, good_sym g66 g73 g164⟩, ⟨_, _, by decide, by decide, good_ise⟩, ⟨_, _, by decide, by decide, good_ist⟩, ⟨_, _, by decide, by decide, good_ins⟩, trivial⟩ 1 rfl fun vs ν K h => by
  (refine el_EER (a2_inv h) fun x y z09 => ?_; subst z09; intro h)
  (refine el_EERA (wL_inv h) fun k ns z09 => ?_; subst z09; intro hk h)
  (refine el_ERA (wI_inv h) fun z z09 => ?_; subst z09; intro q hK)
  refine ⟨rfl, rfl, (fun t ht => by rcases List.mem_cons.mp ht with rfl | ht; exact q.1; rw [List.mem_singleton.mp ht]; exact q.2.1), fun tb e => ?_⟩
  (refine el_EEREERr e fun cs1 _ cs2 _ z09 z19 z29 => ?_; try clear e; subst z09; subst z19; subst z29)
  show st d_spl bl_spl _ [.o 0, .i z, .u, .u, .u, .u, .u] [impK ν k, tb1 cs1, tb2 cs2]
  rw [roI hk]
  exact spl_st q.2.2.1 q.2.2.2.1 q.2.2.2.2 fun k ν' e kp => ⟨kp, dvI e hK⟩
end Mine
end
section
namespace Mine
open PySem PySem.W PySem.Calls PySem.Spec PyProof.Rows
noncomputable def fn_idi : Fn := { ns := [Str.ofString "L", Str.ofString "R", Str.ofString "mid", Str.ofString "shift"], cs := [(1, Str.ofString "digits"), (2, Str.ofString "inner"), (3, Str.ofString "n")] }
noncomputable def bl_idi : B := (.ite (.cmp .eq (.bin .add (.loc 0 11 12) (.int 1 15 16) 11 16) (.loc 1 20 21) 11 21) (.ret (.sub (.cel 0 19 25) (.loc 0 26 27) 19 28) 110 12 28 .nil) .nil 109 8 110 28 (.set 2 (.bin .shr (.bin .add (.loc 0 14 15) (.loc 1 18 19) 14 19) (.int 1 23 24) 14 24) 111 8 11 24 (.set 3 (.bin .mul (.bin .sub (.loc 2 17 20) (.loc 0 23 24) 17 24) (.cel 2 28 29) 16 29) 112 8 13 29 (.ret (.bin .add (.bin .shl (.callE2 1 (.loc 2 22 25) (.loc 1 27 28) 21 16 29) (.loc 3 33 38) 16 38) (.callE2 1 (.loc 0 48 49) (.loc 2 51 54) 47 42 55) 15 55) 113 8 55 .nil))))
noncomputable def sc_idi : Scope := { kind := ScopeKind.function, names := [ (Str.ofString "L", NameKind.local), (Str.ofString "R", NameKind.local), (Str.ofString "mid", NameKind.local), (Str.ofString "shift", NameKind.local), (Str.ofString "digits", NameKind.free), (Str.ofString "inner", NameKind.free), (Str.ofString "n", NameKind.free)], isGenerator := false, isCoroutine := false, more := [] : Scope }
noncomputable def ar_idi : Arguments := { posonlyargs := [], args := [ { arg := "L", annotation := none, pos := ⟨108, 14, 108, 15⟩ : Arg }, { arg := "R", annotation := none, pos := ⟨108, 17, 108, 18⟩ : Arg }], vararg := none, kwonlyargs := [], kw_defaults := [], kwarg := none, defaults := [] : Arguments }
noncomputable abbrev q_idi : Str := Str.ofString "_digits2int.<locals>.inner"
noncomputable def bd_idi : List Stmt := bl_idi.raw { F := fn_idi }
noncomputable abbrev oF_idi (cl : List (Str × Addr)) (doc md : Value) (c' : Addr) (ctv : Value) : Obj := fnMade (Str.ofString "inner") q_idi ar_idi bd_idi sc_idi cl doc md c' ctv
noncomputable def C_idi (f : Addr) (os : List (Addr × Obj)) (n : Int) (ds : List Int) (p : Nat × Nat × Nat) (k : Nat) : Co := fun vs ν K => a2 vs fun x y => wI x fun lo => wI y fun hi => (0 ≤ lo ∧ lo < hi ∧ hi ≤ ds.length ∧ hi - lo ≤ k) ∧ (∃ kd, InD f os n p kd ν ∧ ν[kd]? = some (.ro ds)) ∧ K (.i (digV n.toNat (cut ds lo hi))) ν
noncomputable abbrev d_idi (f : Addr) (os : List (Addr × Obj)) (n : Int) (ds : List Int) (k : Nat) : Df := { F := fn_idi, C := fun q vs ν K => q = f ∧ C_idi f os n ds (1, 2, 3) k vs ν K }
theorem half {lo hi : Int} (h0 : 0 ≤ lo) (h1 : lo < hi) (h2 : lo + 1 ≠ hi) : lo < (lo + hi).fdiv (2 ^ (1 : Int).toNat) ∧ (lo + hi).fdiv (2 ^ (1 : Int).toNat) < hi := by
 have hq : (lo + hi).fdiv (2 ^ (1 : Int).toNat) = (lo + hi) / 2 := Int.fdiv_eq_ediv_of_nonneg (lo + hi) (show (0 : Int) ≤ 2 ^ (1 : Int).toNat by decide)
 rw [hq]
 lia
theorem wide {d n : Int} (d0 : 0 ≤ d) (d1 : d ≤ 40) (n0 : 1 ≤ n) (n1 : n ≤ 2000) : IntMulOk d n ∧ 0 ≤ d * n ∧ d * n ≤ 80000 ∧ (d * n).toNat = n.toNat * d.toNat :=
 ⟨IntMulOk.of_left (intBits_le_64 (by lia) (by exact Int.lt_of_le_of_lt (by assumption) (by decide))), Int.mul_nonneg d0 (by exact Int.le_of_lt (by assumption)), Int.mul_le_mul d1 n1 (by exact Int.le_of_lt (by assumption)) (by decide), by rw [Int.mul_comm, Int.toNat_mul (by exact Int.le_of_lt (by assumption)) d0]⟩
theorem idi_a {ns : List Int} {n lo mid hi : Int} (h0 : 0 ≤ lo) (h1 : lo < mid) (h2 : mid < hi) (h3 : hi ≤ ns.length) (hl : ns.length ≤ 40) (hn1 : 1 ≤ n) (hn2 : n ≤ 2000) (hb : ∀ x ∈ ns, 0 ≤ x ∧ x < 2 ^ n.toNat) :
  Builtin.Int.intBits (digV n.toNat (cut ns mid hi)) ≤ 1000000 ∧ digV n.toNat (cut ns mid hi) * 2 ^ ((mid - lo) * n).toNat + digV n.toNat (cut ns lo mid) = digV n.toNat (cut ns lo hi) := by
 have w := wide (d := mid - lo) (n := n) (by lia) (by lia) hn1 hn2
 have hcl := cut_length ns mid hi (by lia) h3
 have hb1 := digV_bounds n.toNat (cut ns mid hi) (fun x hx => hb x (cut_mem hx))
 refine ⟨Nat.le_trans (bits_le hb1.1 hb1.2) (Nat.le_trans (Nat.mul_le_mul (show n.toNat ≤ 2000 by lia) (show (cut ns mid hi).length ≤ 40 by rw [hcl]; exact Int.toNat_le.2 (Int.le_trans (Int.sub_le_self hi (Int.le_of_lt (Int.lt_of_le_of_lt h0 h1))) (Int.le_trans h3 (Int.ofNat_le.2 hl))))) (by decide)), ?_⟩
 rw [cut_split ns lo mid hi h0 (Int.le_of_lt h1) (Int.le_of_lt h2), digV_append, cut_length ns lo mid h0 (by lia), w.2.2.2, Int.mul_comm, Int.add_comm]
theorem idi_st {f : Addr} {os : List (Addr × Obj)} {n : Int} {ds : List Int} {k : Nat} {lo hi : Int} (hlen : ds.length ≤ 40) (hn1 : 1 ≤ n) (hn2 : n ≤ 2000) (hb : ∀ x ∈ ds, 0 ≤ x ∧ x < 2 ^ n.toNat) (h0 : 0 ≤ lo) (h1 : lo < hi) (h2 : hi ≤ ds.length) (h3 : hi - lo ≤ k + 1) :
  st (d_idi f os n ds k) bl_idi (endK fun sv _ => sv = .i (digV n.toNat (cut ds lo hi))) [.i lo, .i hi, .u, .u] [.ro ds, .fcell (.o 0), .fcell (.o 4), .fcell (.i n), .fn f os] := by
 refine ⟨fun e => ⟨⟨h0, by exact Int.lt_of_lt_of_le (by assumption) (by assumption), by exact Nat.le_trans (by assumption) (by decide)⟩, ?_⟩, fun ne => ?_⟩
 ·subst e
  rw [cut_one ds lo h0 (by assumption)]
  show SV.i _ = _
  rw [show digV n.toNat [ds.getD lo.toNat 0] = ds.getD lo.toNat 0 from by show _ + _ * 0 = _; exact Int.add_zero _]
 ·have hm := half h0 h1 ne
  refine ⟨by decide, ?_⟩
  generalize (lo + hi).fdiv (2 ^ (1 : Int).toNat) = mid at *
  have w := wide (d := mid - lo) (n := n) (by lia) (by lia) hn1 hn2
  have a := idi_a h0 hm.1 hm.2 h2 hlen hn1 hn2 hb
  have I : ∃ kd, InD f os n (1, 2, 3) kd [.ro ds, .fcell (.o 0), .fcell (.o 4), .fcell (.i n), .fn f os] ∧ [SO.ro ds, .fcell (.o 0), .fcell (.o 4), .fcell (.i n), .fn f os][kd]? = some (SO.ro ds) := ⟨0, ⟨.inr rfl, .inr rfl, 4, .inr rfl, rfl⟩, rfl⟩
  exact ⟨w.1, ⟨_, rfl⟩, rfl, ⟨by lia, hm.2, h2, by lia⟩, I, ⟨w.2.1, by have := w.2.2.1; exact Int.le_trans (by assumption) (by decide), a.1⟩, ⟨_, rfl⟩, rfl, ⟨h0, hm.1, by lia, by lia⟩, I, congrArg SV.i a.2⟩
section
variable {w : World} {f c' : Addr} {c : Addr × Addr × Addr} {oc : Obj} {vs2 : Array Value} {t2 : Tok} {cl : List (Str × Addr)} {doc md ctv : Value} {n : Int} {ds : List Int}
noncomputable def IdiCall (w : World) (f c' : Addr) (c : Addr × Addr × Addr) (oc : Obj) (cl : List (Str × Addr)) (doc md ctv : Value) (n : Int) (ds : List Int) (k : Nat) : Prop := ∀ (s : Shared) (g : Heap) (D U : Nat) (fr : Option (List Env)) (gd : Option (List Code)) (l : Addr) (vs : List Value) (nl : Nat) (lo hi : Int) (tl th : Tok) (Q : Value → Shared → Prop), 0 ≤ lo → lo < hi → hi ≤ ds.length → hi - lo ≤ k → D + k ≤ 700 → U + 3 * k ≤ 8000 → Rdy w g → g.StaysIn s.heap →
 InH s.heap f c' c l (oF_idi cl doc md c' ctv) oc n → s.heap.get? l = some (listOf vs.toArray nl) → IntsAre vs ds → (∀ h' t tk, s.heap.StaysIn h' → Q (.int (digV n.toNat (cut ds lo hi)) t) { s with heap := h', toks := tk }) → wpAny (model P0 w) (AR D U fr gd) (call (.ref f) [.int lo tl, .int hi th] []) Q EF s
theorem idi_cs {k : Nat} (ih : IdiCall w f c' c oc cl doc md ctv n ds k) {p : Nat × Nat × Nat} {S : Sit} {D U : Nat} {fr : Option (List Env)} {gd : Option (List Code)} {env : Env} (eA : S.A = (AR D U fr gd).deeper env) (ew : S.w = w) (hD : D + 1 + k ≤ 700) (hU : U + 3 + 3 * k ≤ 8000) (X : Rdy S.w S.h₀)
  (m : InM (Str.ofString "digits") p S.d.F.cs) (lk : InC (Str.ofString "digits") c S.env.cells) (hC : S.d.C = fun q vs ν K => q = f ∧ C_idi f [(f, oF_idi cl doc md c' ctv), (c', oc)] n ds p k vs ν K) : CsOk S := by
 intro q vs ν μ K args s ad h H hr
 rw [hC] at h
 obtain ⟨rfl, h⟩ := h
 (refine el_EER (a2_inv h) fun x y z09 => ?_; subst z09; intro h)
 (refine el_ER (wI_inv h) fun lo z09 => ?_; subst z09; intro h)
 obtain ⟨hi, rfl, ⟨h0, h1, h2, h3⟩, ⟨kd, I, hk⟩, k⟩ := wI_inv h
 (refine el_EERAbEreEERAbErer hr fun _ _ tl _ _ th z09 z19 z29 z39 z49 => ?_; try clear hr; subst z09; subst z19; subst z29; subst z39; subst z49)
 refine el_EA (I.heap H m lk) fun l IH hl => ?_
 obtain ⟨_, _, _, F, N, _, R⟩ := id H
 (refine el_EEAAbEERe (R.fro hk (fun e => by cases e) rfl) fun D o vs nl z09 => ?_; subst z09; intro w1 w2 w3)
 obtain rfl := Option.some.inj (hl.symm.trans w1)
 show wpAny _ S.A _ _ _ _
 rw [eA, ew]
 exact at_call (Nat.le_refl _) (Nat.le_refl _) (ih s S.h₀ _ _ _ _ l vs nl lo hi tl th _ h0 h1 h2 h3 hD hU (ew ▸ X) F.keep IH (w3.get F N) w2 fun h' t tk st => PX.here (sv := .i _) (H.keeps st) ⟨t, rfl⟩ k)
theorem idi_call (hd : oc.data = .fields vs2) (hv : vs2[1]? = some (.str q_idi t2)) (hlen : ds.length ≤ 40) (hn1 : 1 ≤ n) (hn2 : n ≤ 2000) (hb : ∀ x ∈ ds, 0 ≤ x ∧ x < 2 ^ n.toNat) (lk : InC (Str.ofString "digits") c cl) : ∀ k : Nat, IdiCall w f c' c oc cl doc md ctv n ds k := by
 intro k
 induction k with
 | zero => intro s g D U fr gd l vs nl lo hi tl th Q h0 h1 h2 h3; omega
 | succ k ih =>
  intro s g D U fr gd l vs nl lo hi tl th Q h0 h1 h2 h3 hD hU X hg I hl hi ret
  exact innB (g := g) (d := d_idi f [(f, oF_idi cl doc md c' ctv), (c', oc)] n ds k) (b := bl_idi) (nx := []) (as := [l, c.1, c.2.1, c.2.2, f]) (μ0 := [.i lo, .i _, .u, .u]) (ν0 := [.ro ds, .fcell (.o 0), .fcell (.o 4), .fcell (.i n), .fn f [(f, oF_idi cl doc md c' ctv), (c', oc)]]) (P := fun sv _ => sv = .i (digV n.toNat (cut ds lo _)))
   hg X (fun _ h => nomatch h) List.nodup_nil I.1 ⟨c', oc, vs2, t2, rfl, I.2.1, hd, hv⟩ (by show D < 1000; lia) (by show U + 3 + 66 < 9900; lia) (BindsTo.of_eq rfl) (locs rfl) (by decide) rfl rfl rfl rfl (GtOk.of fun _ => trivial) (show fn_idi.ns.Nodup by decide) rfl lk.cs ⟨.inr ⟨_, rfl, _, rfl⟩, .inr ⟨_, rfl, _, rfl⟩, .inl rfl, .inl rfl, trivial⟩
   (fun G hG => .fro rfl rfl (fun _ => ⟨_, ⟨vs, nl, rfl, hi⟩, hG _ _ hl fun h => nomatch h⟩) (I.start ⟨_, _, _, _, rfl⟩ hd fun b o e _ => hG b o e fun h => nomatch h))
   (fun S e1 e2 e3 ⟨env, e4⟩ XS => idi_cs ih (p := (1, 2, 3)) e4 e1 (by lia) (by lia) XS (by rw [e2]; exact ⟨.head _, .tail _ (.head _), .tail _ (.tail _ (.head _))⟩) (e3.symm ▸ lk) (by rw [e2])) (idi_st hlen hn1 hn2 hb h0 h1 h2 h3)
   (fun S h' tk ad' μ' ν' sv v hG e1 e2 _ H r e => by
    subst e
    obtain ⟨t', rfl⟩ := r
    obtain ⟨_, _, _, F, _⟩ := H
    exact ret h' t' tk fun b o e => F.keep _ _ (hG _ _ e (fun h => nomatch h)))
end
noncomputable def fn_d2i : Fn := { ns := [], cs := [(2, Str.ofString "inner"), (3, Str.ofString "n"), (4, Str.ofString "digits")], bi := [.len] }
noncomputable def bl_d2i : B := (.ret (.ife (.cel 2 36 42) (.callE2 0 (.int 0 17 18) (.b1 0 (.cel 2 24 30) 23 20 31) 16 11 32) (.int 0 48 49) 11 49) 114 4 49 .nil)
theorem d2i_st {f : Addr} {os : List (Addr × Obj)} {n : Int} {ds : List Int} {cs : List (Addr × Obj)} {P : SV → Nu → Prop} (h : ds ≠ []) (hl : ds.length ≤ 40) (hP : ∀ ν', Kept ν' [.tab t68.P t68.l t68.c t68.q cs] → P (.i (digV n.toNat ds)) ν') :
  st { F := fn_d2i, C := fun q vs ν K => q = f ∧ C_idi f os n ds (4, 2, 3) 40 vs ν K } bl_d2i (retK P) [] [.ro ds, .tab t68.P t68.l t68.c t68.q cs, .cell (.o 5), .cell (.i n), .cell (.o 0), .fn f os] := by
 have h0 : 0 < ds.length := List.length_pos_iff.mpr h
 refine ⟨by exact Nat.le_trans (by assumption) (by decide), fun _ => ⟨by exact Nat.le_trans (by assumption) (by decide), ⟨_, rfl⟩, rfl, ⟨Int.le_refl _, by lia, Int.le_refl _, by lia⟩, ⟨0, ⟨.inl rfl, .inl rfl, 5, .inl rfl, rfl⟩, rfl⟩, ?_⟩, fun e => (e h).elim⟩
 rw [cut_all]
 exact hP _ ⟨⟨1, rfl⟩, trivial⟩
theorem good_d2i : Good 73 600 6000 C_d2i :=
 goodB (F := fn_d2i) (Ds := []) (Cl := []) (body := .FunctionDef (Str.ofString "inner") ar_idi bd_idi [] none [] sc_idi none (Str.ofString "inner") ⟨108, 4, 113, 55⟩ :: bl_d2i.raw { F := fn_d2i }) [Str.ofString "digits", Str.ofString "n"] [t68] (fun _ => rfl) (fun _ => rfl) (by decide) (by decide) (fun s pos h => by (refine el_EEr (ex2 h) fun a b z09 => ?_; subst z09); exact .of_eq rfl) rfl (by decide) rfl rfl rfl rfl (fun _ => trivial) (by decide) (by decide) (fun _ => trivial) trivial 1 rfl fun vs ν K h => by
  (refine el_EER (a2_inv h) fun x y z09 => ?_; subst z09; intro h)
  (refine el_EERA (wL_inv h) fun k ds z09 => ?_; subst z09; intro hk h)
  (refine el_ERAAbAAAAe (wI_inv h) fun n z09 => ?_; subst z09; intro ht hne hlen hn1 hn2 hb hK)
  refine ⟨rfl, rfl, (fun t h => by rw [List.mem_singleton.mp h]; exact ht), fun w fr gd G L fm s₁ ad0 tb O e H => ?_⟩
  (refine el_EERr e fun cs _ z09 z19 => ?_; try clear e; subst z09; subst z19)
  have H : Hd _ s₁.heap ad0 [] [impK ν k, .tab t68.P t68.l t68.c t68.q cs, .cell .u, .cell (.i n), .cell (.o 0)] := H
  rw [roI hk] at H
  refine nest_st (fm := fm) (cc := 72) O rfl (codeHd_of_K O.rdy.1 (by kernel_rfl)) (kt := 1) (ci := 0) (kc := 2) (clos := [(Str.ofString "n", L + 1 + 1), (Str.ofString "inner", L + 1 + 1 + 1), (Str.ofString "digits", L + 1)]) rfl rfl rfl (by decide) rfl rfl rfl rfl rfl rfl rfl H fun f c' oc vs t ctv doc md s' ad' hd hv H2 _ => ?_
  let d2 : Df := { F := fn_d2i, C := fun q vs ν K => q = f ∧ C_idi f [(f, oF_idi [(Str.ofString "n", L + 1 + 1), (Str.ofString "inner", L + 1 + 1 + 1), (Str.ofString "digits", L + 1)] doc md c' ctv), (c', oc)] n ds (4, 2, 3) 40 vs ν K }
  exact swapC O rfl (d' := d2) rfl rfl (fun fm pin own => idi_cs (w := w) (c := (L + 1, L + 1 + 1 + 1, L + 1 + 1)) (idi_call hd hv hlen hn1 hn2 hb ⟨rfl, rfl, rfl⟩ 40) (p := (4, 2, 3)) rfl rfl (by decide) (by decide) O.rdy ⟨.tail _ (.tail _ (.head _)), .head _, .tail _ (.head _)⟩ ⟨rfl, rfl, rfl⟩ rfl) (b := bl_d2i) rfl (d2i_st (P := fun sv ν' => Kept ν' [.tab t68.P t68.l t68.c t68.q cs] ∧ Dv sv ν' ν K) hne hlen fun ν' k => ⟨k, hK⟩) H2
end Mine
end
section
namespace Mine
open PySem PySem.W PySem.Calls PySem.Spec PyProof.Rows
noncomputable def fn_ini : Fn := { ns := [Str.ofString "x", Str.ofString "L", Str.ofString "R", Str.ofString "mid", Str.ofString "shift", Str.ofString "upper", Str.ofString "lower"], cs := [(1, Str.ofString "a_digits"), (2, Str.ofString "inner"), (3, Str.ofString "n")] }
noncomputable def bl_ini : B := (.ite (.cmp .eq (.bin .add (.loc 1 11 12) (.int 1 15 16) 11 16) (.loc 2 20 21) 11 21) (.sset (.cel 0 12 20) (.loc 1 21 22) (.loc 0 26 27) 95 12 23 27 (.ret0 96 12 18 .nil)) .nil 94 8 96 18 (.set 3 (.bin .shr (.bin .add (.loc 1 14 15) (.loc 2 18 19) 14 19) (.int 1 23 24) 14 24) 97 8 11 24 (.set 4 (.bin .mul (.bin .sub (.loc 3 17 20) (.loc 1 23 24) 17 24) (.cel 2 28 29) 16 29) 98 8 13 29 (.set 5 (.bin .shr (.loc 0 16 17) (.loc 4 21 26) 16 26) 99 8 13 26 (.set 6 (.bin .bxor (.loc 0 16 17) (.bin .shl (.loc 5 20 25) (.loc 4 29 34) 20 34) 16 34) 100 8 13 34 (.expr (.callE3 1 (.loc 6 14 19) (.loc 1 21 22) (.loc 3 24 27) 13 8 28) 101 8 28 (.expr (.callE3 1 (.loc 5 14 19) (.loc 3 21 24) (.loc 2 26 27) 13 8 28) 102 8 28 .nil)))))))
noncomputable def sc_ini : Scope := { kind := ScopeKind.function, names := [ (Str.ofString "x", NameKind.local), (Str.ofString "L", NameKind.local), (Str.ofString "R", NameKind.local), (Str.ofString "mid", NameKind.local), (Str.ofString "shift", NameKind.local), (Str.ofString "upper", NameKind.local), (Str.ofString "lower", NameKind.local), (Str.ofString "a_digits", NameKind.free), (Str.ofString "inner", NameKind.free), (Str.ofString "n", NameKind.free)], isGenerator := false, isCoroutine := false, more := [] : Scope }
noncomputable def ar_ini : Arguments := { posonlyargs := [], args := [ { arg := "x", annotation := none, pos := ⟨93, 14, 93, 15⟩ : Arg }, { arg := "L", annotation := none, pos := ⟨93, 17, 93, 18⟩ : Arg }, { arg := "R", annotation := none, pos := ⟨93, 20, 93, 21⟩ : Arg }], vararg := none, kwonlyargs := [], kw_defaults := [], kwarg := none, defaults := [] : Arguments }
noncomputable abbrev q_ini : Str := Str.ofString "_int2digits.<locals>.inner"
noncomputable def bd_ini : List Stmt := bl_ini.raw { F := fn_ini }
noncomputable abbrev oF_ini (cl : List (Str × Addr)) (doc md : Value) (c' : Addr) (ctv : Value) : Obj := fnMade (Str.ofString "inner") q_ini ar_ini bd_ini sc_ini cl doc md c' ctv
noncomputable def DsOf (n : Int) (x : Int) (k : Int) (ds : List Int) : Prop := ds.length = k.toNat ∧ (∀ y ∈ ds, 0 ≤ y ∧ y < 2 ^ n.toNat) ∧ digV n.toNat ds = x
noncomputable def C_ini (f : Addr) (os : List (Addr × Obj)) (n : Int) (p : Nat × Nat × Nat) (k : Nat) : Co := fun vs ν K => a3 vs fun x y z => wI x fun v => wI y fun lo => wI z fun hi => ∃ kd ns, InD f os n p kd ν ∧ ν[kd]? = some (.ints ns) ∧ (0 ≤ lo ∧ lo < hi ∧ hi ≤ ns.length ∧ ns.length ≤ 40 ∧ hi - lo ≤ k ∧ 0 ≤ v ∧ v < 2 ^ (n.toNat * (hi - lo).toNat)) ∧
 ∀ ds, DsOf n v (hi - lo) ds → K (.v .none) (ν.set kd (.ints (put ns lo ds)))
noncomputable abbrev d_ini (f : Addr) (os : List (Addr × Obj)) (n : Int) (k : Nat) : Df := { F := fn_ini, C := fun q vs ν K => q = f ∧ C_ini f os n (1, 2, 3) k vs ν K }
theorem ini_a {n v lo mid hi : Int} (h1 : lo < mid) (h2 : mid < hi) (h3 : hi - lo ≤ 40) (hn1 : 1 ≤ n) (hn2 : n ≤ 2000) (v0 : 0 ≤ v) (v1 : v < 2 ^ (n.toNat * (hi - lo).toNat)) :
  Builtin.Int.intBits (v.fdiv (2 ^ ((mid - lo) * n).toNat)) ≤ 1000000 ∧ Builtin.bitXor v (v.fdiv (2 ^ ((mid - lo) * n).toNat) * 2 ^ ((mid - lo) * n).toNat) = v % 2 ^ (n.toNat * (mid - lo).toNat) ∧ (0 ≤ v % 2 ^ (n.toNat * (mid - lo).toNat) ∧ v % 2 ^ (n.toNat * (mid - lo).toNat) < 2 ^ (n.toNat * (mid - lo).toNat)) ∧
   (0 ≤ v.fdiv (2 ^ ((mid - lo) * n).toNat) ∧ v.fdiv (2 ^ ((mid - lo) * n).toNat) < 2 ^ (n.toNat * (hi - mid).toNat)) ∧ v % 2 ^ (n.toNat * (mid - lo).toNat) + 2 ^ (n.toNat * (mid - lo).toNat) * v.fdiv (2 ^ ((mid - lo) * n).toNat) = v := by
 have w := wide (d := mid - lo) (n := n) (by lia) (by lia) hn1 hn2
 rw [tn_split h1 h2] at v1
 have s := split_bounds v0 v1
 rw [w.2.2.2]
 exact ⟨Nat.le_trans (bits_le s.1 s.2.1) (Nat.le_trans (Nat.mul_le_mul (show n.toNat ≤ 2000 by lia) (show (hi - mid).toNat ≤ 40 by lia)) (by decide)), xor_low v _, ⟨s.2.2.1, s.2.2.2.1⟩, ⟨s.1, s.2.1⟩, s.2.2.2.2⟩
theorem ini_b {n v lo mid hi : Int} {d1 d2 : List Int} {a b : Int} (h1 : lo < mid) (h2 : mid < hi) (e1 : DsOf n a (mid - lo) d1) (e2 : DsOf n b (hi - mid) d2) (e : a + 2 ^ (n.toNat * (mid - lo).toNat) * b = v) : DsOf n v (hi - lo) (d1 ++ d2) :=
 ⟨by rw [List.length_append, e1.1, e2.1]; exact (tn_split h1 h2).symm, (fun y hy => (List.mem_append.mp hy).elim (e1.2.1 y) (e2.2.1 y)), by rw [digV_append, e1.2.2, e2.2.2, e1.1]; exact e⟩
theorem ini_st {f : Addr} {os : List (Addr × Obj)} {n : Int} {k : Nat} {v lo hi : Int} {ns : List Int} {P : SV → Nu → Prop} (hn1 : 1 ≤ n) (hn2 : n ≤ 2000) (h0 : 0 ≤ lo) (h1 : lo < hi) (h2 : hi ≤ ns.length) (hlen : ns.length ≤ 40) (h3 : hi - lo ≤ k + 1) (v0 : 0 ≤ v) (v1 : v < 2 ^ (n.toNat * (hi - lo).toNat))
  (hP : ∀ ds, DsOf n v (hi - lo) ds → P (.v .none) [.ints (put ns lo ds), .fcell (.o 0), .fcell (.o 4), .fcell (.i n), .fn f os]) :
  st (d_ini f os n k) bl_ini (endK P) [.i v, .i lo, .i hi, .u, .u, .u, .u] [.ints ns, .fcell (.o 0), .fcell (.o 4), .fcell (.i n), .fn f os] := by
 refine ⟨fun e => ⟨⟨h0, by exact Int.lt_of_lt_of_le (by assumption) (by assumption), by exact Nat.le_trans (by assumption) (by decide)⟩, ?_⟩, fun ne => ?_⟩
 ·subst e
  have w : (lo + 1 - lo).toNat = 1 := by lia
  rw [w, Nat.mul_one] at v1
  have := hP [v] ⟨w.symm, (fun y hy => by rw [List.mem_singleton.mp hy]; exact ⟨v0, v1⟩), by show v + _ * 0 = v; exact Int.add_zero _⟩
  rw [put_one ns lo v h0 (by assumption)] at this
  exact this
 ·have hm := half h0 h1 ne
  refine ⟨by decide, ?_⟩
  generalize (lo + hi).fdiv (2 ^ (1 : Int).toNat) = mid at *
  have w := wide (d := mid - lo) (n := n) (by lia) (by lia) hn1 hn2
  have a := ini_a hm.1 hm.2 (by lia) hn1 hn2 v0 v1
  have sh : 0 ≤ (mid - lo) * n ∧ (mid - lo) * n ≤ 1000000 := ⟨w.2.1, by have := w.2.2.1; exact Int.le_trans (by assumption) (by decide)⟩
  have I : ∀ ms : List Int, InD f os n (1, 2, 3) 0 [.ints ms, .fcell (.o 0), .fcell (.o 4), .fcell (.i n), .fn f os] := fun ms => ⟨.inr rfl, .inr rfl, 4, .inr rfl, rfl⟩
  refine ⟨w.1, sh.1, ⟨sh.1, sh.2, a.1⟩, ⟨_, rfl⟩, rfl, 0, ns, I ns, rfl, ⟨h0, hm.1, by lia, hlen, by lia, a.2.1.symm ▸ a.2.2.1⟩, fun d1 e1 => ?_⟩
  have e1 : DsOf n (v % 2 ^ (n.toNat * (mid - lo).toNat)) (mid - lo) d1 := a.2.1 ▸ e1
  have l1 : (d1.length : Int) = mid - lo := by rw [e1.1]; exact Int.toNat_of_nonneg (Int.sub_nonneg_of_le (Int.le_of_lt hm.1))
  have pl := put_length ns lo d1 h0 (by lia)
  refine ⟨⟨_, rfl⟩, rfl, 0, put ns lo d1, I _, rfl, ⟨by lia, hm.2, by lia, by lia, by lia, a.2.2.2.1⟩, fun d2 e2 => ?_⟩
  have l2 : (d2.length : Int) = hi - mid := by rw [e2.1]; exact Int.toNat_of_nonneg (Int.sub_nonneg_of_le (Int.le_of_lt hm.2))
  have := hP (d1 ++ d2) (ini_b hm.1 hm.2 e1 e2 a.2.2.2.2)
  rw [← put_put ns lo mid d1 d2 h0 (by lia) (by lia)] at this
  exact this
section
variable {w : World} {f c' : Addr} {c : Addr × Addr × Addr} {oc : Obj} {vs2 : Array Value} {t2 : Tok} {cl : List (Str × Addr)} {doc md ctv : Value} {n : Int}
noncomputable def IniCall (w : World) (f c' : Addr) (c : Addr × Addr × Addr) (oc : Obj) (cl : List (Str × Addr)) (doc md ctv : Value) (n : Int) (k : Nat) : Prop := ∀ (s : Shared) (g : Heap) (D U : Nat) (fr : Option (List Env)) (gd : Option (List Code)) (l : Addr) (vs : List Value) (nl : Nat) (ns : List Int) (v lo hi : Int) (tv tl th : Tok) (Q : Value → Shared → Prop), (0 ≤ lo ∧ lo < hi ∧ hi ≤ ns.length ∧ ns.length ≤ 40 ∧ hi - lo ≤ k ∧ 0 ≤ v ∧ v < 2 ^ (n.toNat * (hi - lo).toNat)) → D + k ≤ 700 → U + 3 * k ≤ 8000 → Rdy w g → g.StaysIn s.heap →
 InH s.heap f c' c l (oF_ini cl doc md c' ctv) oc n → s.heap.get? l = some (listOf vs.toArray nl) → g.get? l = none → IntsAre vs ns → (∀ h' tk ws nk ds, DsOf n v (hi - lo) ds → (∀ b o, s.heap.get? b = some o → b ≠ l → h'.get? b = some o) → h'.get? l = some (listOf ws.toArray nk) → IntsAre ws (put ns lo ds) → Q .none { s with heap := h', toks := tk }) → wpAny (model P0 w) (AR D U fr gd) (call (.ref f) [.int v tv, .int lo tl, .int hi th] []) Q EF s
theorem ini_cs {k : Nat} (ih : IniCall w f c' c oc cl doc md ctv n k) {p : Nat × Nat × Nat} {S : Sit} {D U : Nat} {fr : Option (List Env)} {gd : Option (List Code)} {env : Env} (eA : S.A = (AR D U fr gd).deeper env) (ew : S.w = w) (hD : D + 1 + k ≤ 700) (hU : U + 3 + 3 * k ≤ 8000) (X : Rdy S.w S.h₀)
  (m : InM (Str.ofString "a_digits") p S.d.F.cs) (lk : InC (Str.ofString "a_digits") c S.env.cells) (hC : S.d.C = fun q vs ν K => q = f ∧ C_ini f [(f, oF_ini cl doc md c' ctv), (c', oc)] n p k vs ν K) : CsOk S := by
 intro q vs ν μ K args s ad h H hr
 rw [hC] at h
 obtain ⟨rfl, h⟩ := h
 (refine el_EEER (a3_inv h) fun x y z z09 => ?_; subst z09; intro h)
 (refine el_ER (wI_inv h) fun v z09 => ?_; subst z09; intro h)
 (refine el_ER (wI_inv h) fun lo z09 => ?_; subst z09; intro h)
 (refine el_EREEAAA (wI_inv h) fun hi kd ns z09 => ?_; subst z09; intro I hk hc k)
 obtain ⟨_, _, rfl, ⟨tv, rfl⟩, _, _, rfl, ⟨tl, rfl⟩, _, _, rfl, ⟨th, rfl⟩, rfl⟩ := hr
 refine el_EA (I.heap H m lk) fun l IH hl => ?_
 refine el_EEAA (H.ints hk hl) fun vs nl w1 w2 w3 => ?_
 obtain ⟨_, _, _, F, _⟩ := id H
 show wpAny _ S.A _ _ _ _
 rw [eA, ew]
 exact at_call (Nat.le_refl _) (Nat.le_refl _) (ih s S.h₀ _ _ _ _ l vs nl ns v lo hi tv tl th _ hc hD hU (ew ▸ X) F.keep IH w1 w3 w2 fun h' tk ws nk ds e1 e2 e3 e4 => PX.here (sv := .v .none) (H.setI hk hl e2 e3 e4) rfl (k ds e1))
theorem ini_call (hd : oc.data = .fields vs2) (hv : vs2[1]? = some (.str q_ini t2)) (hn1 : 1 ≤ n) (hn2 : n ≤ 2000) (lk : InC (Str.ofString "a_digits") c cl) : ∀ k : Nat, IniCall w f c' c oc cl doc md ctv n k := by
 intro k
 induction k with
 | zero => intro s g D U fr gd l vs nl ns v lo hi tv tl th Q h; omega
 | succ k ih =>
  intro s g D U fr gd l vs nl ns v lo hi tv tl th Q h hD hU X hg I hl hln hi ret
  (refine el_AAAAAA h ?_; try clear h; intro h0 h1 h2 h3 h4 h5 h6)
  exact innB (g := g) (d := d_ini f [(f, oF_ini cl doc md c' ctv), (c', oc)] n k) (b := bl_ini) (nx := [(l, listOf vs.toArray nl)]) (as := [l, c.1, c.2.1, c.2.2, f]) (μ0 := [.i v, .i lo, .i _, .u, .u, .u, .u]) (ν0 := [.ints ns, .fcell (.o 0), .fcell (.o 4), .fcell (.i n), .fn f [(f, oF_ini cl doc md c' ctv), (c', oc)]]) (P := fun sv ν' => sv = .v .none ∧ ∃ ds, DsOf n v (_ - lo) ds ∧ ν'[0]? = some (.ints (put ns lo ds)) ∧ ν'[1]? = some (.fcell (.o 0)))
   hg X (fun q hq => by rw [List.mem_singleton.mp hq]; exact ⟨hl, hln⟩) (List.nodup_cons.mpr ⟨List.not_mem_nil, List.nodup_nil⟩) I.1 ⟨c', oc, vs2, t2, rfl, I.2.1, hd, hv⟩ (by show D < 1000; lia) (by show U + 3 + 66 < 9900; lia) (BindsTo.of_eq rfl) (locs rfl) (by decide) rfl rfl rfl rfl (GtOk.of fun _ => trivial) (show fn_ini.ns.Nodup by decide) rfl lk.cs ⟨.inr ⟨_, rfl, _, rfl⟩, .inr ⟨_, rfl, _, rfl⟩, .inr ⟨_, rfl, _, rfl⟩, .inl rfl, .inl rfl, .inl rfl, .inl rfl, trivial⟩
   (fun G hG => .own rfl ⟨vs, nl, rfl, hi⟩ (I.start ⟨_, _, _, _, rfl⟩ hd fun b o e q => hG b o e fun z => by
    rw [List.mem_singleton.mp z] at e
    obtain rfl := Option.some.inj (hl.symm.trans e)
    exact q _ _ rfl))
   (fun S e1 e2 e3 ⟨env, e4⟩ XS => ini_cs ih (p := (1, 2, 3)) e4 e1 (by lia) (by lia) XS (by rw [e2]; exact ⟨.head _, .tail _ (.head _), .tail _ (.tail _ (.head _))⟩) (e3.symm ▸ lk) (by rw [e2])) (ini_st hn1 hn2 h0 h1 h2 h3 h4 h5 h6 fun ds e => ⟨rfl, ds, e, rfl, rfl⟩)
   (fun S h' tk ad' μ' ν' sv v hG e1 e2 _ H r e => by
    (refine el_REAA e fun ds z09 => ?_; try clear e; subst z09; intro x1 x2 x3)
    cases (show v = .none from r)
    have hk : ∀ b o, s.heap.get? b = some o → b ≠ l → h'.get? b = some o := fun b o e hb => by
     obtain ⟨_, _, _, F, _⟩ := id H
     exact F.keep _ _ (hG _ _ e fun z => hb (List.mem_singleton.mp z))
    obtain ⟨c₁, v₁, z1, ⟨o₁, z2, z3⟩, D, z4, rfl⟩ := cell_at H (p := (1, Str.ofString "a_digits")) (by rw [e2]; exact .head _) (.inr x3) (fun e => by cases e)
    rw [e1] at z1
    cases lk.1.symm.trans z1
    refine el_EA (I.2.2.1) fun o₂ y1 y2 => ?_
    have y3 := hk _ _ y1 fun z => by
     rw [z, hl] at y1; cases y1; cases y2
    obtain rfl := Option.some.inj (z2.symm.trans y3)
    rw [z3] at y2; cases y2
    refine el_EEAA (H.ints x2 z4) fun ws nk q1 q2 _ => ?_
    exact ret h' tk ws nk ds x1 hk q1 q2)
end
noncomputable def fn_i2d : Fn := { ns := [Str.ofString "a"], cs := [(1, Str.ofString "inner"), (2, Str.ofString "a_digits"), (3, Str.ofString "n")], bi := [.len] }
noncomputable def bl_i2d : B := (.ite (.loc 0 7 8) (.expr (.callE3 0 (.loc 0 14 15) (.int 0 17 18) (.b1 0 (.cel 1 24 32) 23 20 33) 13 8 34) 104 8 34 .nil) .nil 103 4 104 34 (.ret (.cel 1 11 19) 105 4 19 .nil))
theorem i2d_ev {C : Cs} {a n : Int} {Kd : Nat} {cs : List (Addr × Obj)} (hn1 : 1 ≤ n) (hn2 : n ≤ 2000) (k1 : ((Builtin.Int.intBits a : Int) + n - 1) / n = Kd) (k3 : Kd ≤ 40) :
  ev { F := fn_i2d, D := [], C := C } (.bin .mul (.lst (.int 0 16 17) 15 18) (.bin .div (.bin .sub (.bin .add (.m0 .bits (.loc 0 23 24) 35 23 37) (.cel 2 40 41) 23 41) (.int 1 44 45) 23 45) (.cel 2 50 51) 22 51) 15 52) false (fun sv => stoC fn_i2d 1 sv fun μ1 ν1 => μ1 = [.i a] ∧ ν1 = [.tab t61.P t61.l t61.c t61.q cs, .cell .u, .cell (.o 5), .cell (.i n), .ints [0], .ints (List.replicate Kd 0)]) [.i a] [.tab t61.P t61.l t61.c t61.q cs, .cell .u, .cell .u, .cell (.i n)] := by
 refine ⟨⟨by assumption, by exact Int.lt_of_le_of_lt (by assumption) (by decide)⟩, ?_⟩
 show (-2 ^ 63 ≤ ((Builtin.Int.intBits a : Int) + n - 1) / n ∧ ((Builtin.Int.intBits a : Int) + n - 1) / n < 2 ^ 63 ∧ 1 * (((Builtin.Int.intBits a : Int) + n - 1) / n).toNat ≤ 2 ^ 24) ∧ [SV.i a] = [.i a] ∧ [SO.tab t61.P t61.l t61.c t61.q cs, .cell .u, .cell (.o 5), .cell (.i n), .ints [0], .ints (List.replicate (((Builtin.Int.intBits a : Int) + n - 1) / n).toNat [(0 : Int)]).flatten] = _
 rw [k1, Int.toNat_natCast, List.flatten_replicate_singleton]
 exact ⟨⟨by exact Int.natCast_nonneg _, by lia, by grind only⟩, rfl, rfl⟩
theorem i2d_st {f : Addr} {os : List (Addr × Obj)} {a n : Int} {Kd : Nat} {cs : List (Addr × Obj)} {P : SV → Nu → Prop} {x : SO} (ha : 0 < a) (h1 : 1 ≤ Kd) (h2 : Kd ≤ 40) (hK : a < 2 ^ (n.toNat * Kd)) (hP : ∀ ν' ds, DsOf n a Kd ds → ν'[5]? = some (.ints ds) → Kept ν' [.tab t61.P t61.l t61.c t61.q cs] → P (.o 5) ν') :
  st { F := fn_i2d, C := fun q vs ν K => q = f ∧ C_ini f os n (2, 1, 3) 40 vs ν K } bl_i2d (retK P) [.i a] [.tab t61.P t61.l t61.c t61.q cs, .cell (.o 6), .cell (.o 5), .cell (.i n), x, .ints (List.replicate Kd 0), .fn f os] := by
 have hl : (List.replicate Kd (0 : Int)).length = Kd := List.length_replicate
 refine ⟨fun _ => ⟨by lia, ⟨_, rfl⟩, rfl, 5, _, ⟨.inl rfl, .inl rfl, 6, .inl rfl, rfl⟩, rfl, ⟨Int.le_refl _, by lia, Int.le_refl _, by lia, by lia, by exact Int.le_of_lt (by assumption), ?_⟩, fun ds e => ?_⟩, fun e => by lia⟩
 ·rw [hl, show ((Kd : Int) - 0).toNat = Kd by exact Int.toNat_natCast _]; exact hK
 ·rw [hl, Int.sub_zero] at e
  have e1 : ds.length = Kd := e.1
  rw [put_all _ _ (by rw [hl]; exact e1)]
  exact hP _ ds e rfl ⟨⟨0, rfl⟩, trivial⟩
theorem good_i2d : Good 66 600 6000 C_i2d :=
 goodB (F := fn_i2d) (Ds := []) (Cl := []) (body := .Assign [.Name (Str.ofString "a_digits") ⟨91, 4, 91, 12⟩] (T.raw 91 { F := fn_i2d } (.bin .mul (.lst (.int 0 16 17) 15 18) (.bin .div (.bin .sub (.bin .add (.m0 .bits (.loc 0 23 24) 35 23 37) (.cel 2 40 41) 23 41) (.int 1 44 45) 23 45) (.cel 2 50 51) 22 51) 15 52)) ⟨91, 4, 91, 52⟩ :: .FunctionDef (Str.ofString "inner") ar_ini bd_ini [] none [] sc_ini none (Str.ofString "inner") ⟨93, 4, 102, 28⟩ :: bl_i2d.raw { F := fn_i2d }) [Str.ofString "a", Str.ofString "n"] [t61] (fun _ => rfl) (fun _ => rfl) (by decide) (by decide) (fun s pos h => by (refine el_EEr (ex2 h) fun a b z09 => ?_; subst z09); exact .of_eq rfl) rfl (by decide) rfl rfl rfl rfl (fun _ => trivial) (by decide) (by decide) (fun _ => trivial) trivial 0 rfl fun vs ν K h => by
  (refine el_EER (a2_inv h) fun x y z09 => ?_; subst z09; intro h)
  (refine el_ER (wI_inv h) fun a z09 => ?_; subst z09; intro h)
  obtain ⟨n, rfl, ht, Kd, ⟨ha, hn1, hn2, k1, k2, k3, k4⟩, hK⟩ := wI_inv h
  refine ⟨rfl, rfl, (fun t h => by rw [List.mem_singleton.mp h]; exact ht), fun w fr gd G L fm s₁ ad0 tb O e H => ?_⟩
  (refine el_EERr e fun cs _ z09 z19 => ?_; try clear e; subst z09; subst z19)
  have H : Hd _ s₁.heap ad0 [.i a] [.tab t61.P t61.l t61.c t61.q cs, .cell .u, .cell .u, .cell (.i n)] := H
  refine seqN (setc_st (fm := fm) (k := .nil) O rfl (i2d_ev hn1 hn2 k1 k3) H) fun fm μ1 ν1 s1 ad1 e H1 => ?_
  obtain ⟨rfl, rfl⟩ := e
  refine nest_st (fm := fm) (cc := 65) O rfl (codeHd_of_K O.rdy.1 (by kernel_rfl)) (kt := 0) (ci := 0) (kc := 1) (clos := [(Str.ofString "n", L + 1), (Str.ofString "inner", L + 1 + 1 + 1), (Str.ofString "a_digits", L + 1 + 1)]) rfl rfl rfl (by decide) rfl rfl rfl rfl rfl rfl rfl H1 fun f c' oc vs t ctv doc md s' ad' hd hv H2 _ => ?_
  let d2 : Df := { F := fn_i2d, C := fun q vs ν K => q = f ∧ C_ini f [(f, oF_ini [(Str.ofString "n", L + 1), (Str.ofString "inner", L + 1 + 1 + 1), (Str.ofString "a_digits", L + 1 + 1)] doc md c' ctv), (c', oc)] n (2, 1, 3) 40 vs ν K }
  exact swapC O rfl (d' := d2) rfl rfl (fun fm pin own => ini_cs (w := w) (c := (L + 1 + 1, L + 1 + 1 + 1, L + 1)) (ini_call hd hv hn1 hn2 ⟨rfl, rfl, rfl⟩ 40) (p := (2, 1, 3)) rfl rfl (by decide) (by decide) O.rdy ⟨.tail _ (.head _), .head _, .tail _ (.tail _ (.head _))⟩ ⟨rfl, rfl, rfl⟩ rfl) (b := bl_i2d) rfl (i2d_st (P := fun sv ν' => Kept ν' [.tab t61.P t61.l t61.c t61.q cs] ∧ Dv sv ν' ν K) ha k2 k3 k4 fun ν' ds e h k => ⟨k, dvI h (hK ds e.1 e.2.1 e.2.2)⟩) H2
end Mine
end
section
namespace Mine
open PySem PySem.W PySem.Calls PySem.Spec PyProof.Rows
noncomputable def fn_wsm : Fn := { ns := [Str.ofString "self", Str.ofString "ws", Str.ofString "S", Str.ofString "T", Str.ofString "count", Str.ofString "b", Str.ofString "n", Str.ofString "nt", Str.ofString "ch"], gt := [(Str.ofString "Whitespace", .ref 164)], bi := [.len, .tuple] }
noncomputable def bl_ch : B := (.ite (.cmp .eq (.loc 8 15 17) (.loc 2 21 22) 15 22) (.set 6 (.bin .add (.loc 6 20 21) (.int 1 24 25) 20 25) 170 16 17 25 (.set 5 (.bin .add (.loc 5 20 21) (.int 1 24 25) 20 25) 171 16 17 25 .nil)) (.ite (.cmp .eq (.loc 8 17 19) (.loc 3 23 24) 17 24) (.set 6 (.bin .add (.loc 6 20 21) (.int 1 24 25) 20 25) 173 16 17 25 (.set 7 (.bin .add (.loc 7 21 23) (.int 1 26 27) 21 27) 174 16 18 27 (.ite (.cmp .ge (.loc 5 19 20) (.b1 0 (.loc 4 28 33) 27 24 34) 19 34) (.set 4 (.bin .add (.loc 4 28 33) (.bin .mul (.lst (.int 0 37 38) 36 39) (.bin .add (.bin .sub (.loc 5 43 44) (.b1 0 (.loc 4 51 56) 50 47 57) 43 57) (.int 1 60 61) 43 61) 36 62) 28 62) 176 20 25 62 .nil) .nil 175 16 176 62 (.sset (.loc 4 16 21) (.loc 5 22 23) (.bin .add (.sub (.loc 4 27 32) (.loc 5 33 34) 27 35) (.int 1 38 39) 27 39) 177 16 24 39 (.set 5 (.int 0 20 21) 178 16 17 21 .nil))))) (.brk 180 16 21 .nil) 172 12 180 21 .nil) 169 12 180 21 .nil)
noncomputable def bd_wsm : List Stmt := [.Assign [.Attribute (.Name (Str.ofString "self") ⟨164, 8, 164, 12⟩) (Str.ofString "raw") ⟨164, 8, 164, 16⟩] (T.raw 164 { F := fn_wsm } (.loc 1 19 21)) ⟨164, 8, 164, 21⟩,
 .Assign [.Tuple [.Name (Str.ofString "S") ⟨165, 8, 165, 9⟩, .Name (Str.ofString "T") ⟨165, 11, 165, 12⟩] 0 ⟨165, 8, 165, 12⟩] (.Tuple [.Attribute (.Name (Str.ofString "Whitespace") ⟨165, 16, 165, 26⟩) (Str.ofString "S") ⟨165, 16, 165, 28⟩, .Attribute (.Name (Str.ofString "Whitespace") ⟨165, 30, 165, 40⟩) (Str.ofString "T") ⟨165, 30, 165, 42⟩] 0 ⟨165, 15, 165, 43⟩) ⟨165, 8, 165, 43⟩,
 .Assign [.Name (Str.ofString "count") ⟨166, 8, 166, 13⟩] (T.raw 166 { F := fn_wsm } (.nil false 16 18)) ⟨166, 8, 166, 18⟩,
 .Assign [.Name (Str.ofString "b") ⟨167, 8, 167, 9⟩, .Name (Str.ofString "n") ⟨167, 12, 167, 13⟩, .Name (Str.ofString "nt") ⟨167, 16, 167, 18⟩] (T.raw 167 { F := fn_wsm } (.int 0 21 22)) ⟨167, 8, 167, 22⟩,
 .For (.Name (Str.ofString "ch") ⟨168, 12, 168, 14⟩) (.Attribute (.Name (Str.ofString "self") ⟨168, 18, 168, 22⟩) (Str.ofString "raw") ⟨168, 18, 168, 26⟩) (bl_ch.raw { F := fn_wsm }) [] ⟨168, 8, 180, 21⟩,
 .Assign [.Attribute (.Name (Str.ofString "self") ⟨181, 8, 181, 12⟩) (Str.ofString "n") ⟨181, 8, 181, 14⟩] (T.raw 181 { F := fn_wsm } (.loc 6 17 18)) ⟨181, 8, 181, 18⟩,
 .Assign [.Attribute (.Name (Str.ofString "self") ⟨182, 8, 182, 12⟩) (Str.ofString "nt") ⟨182, 8, 182, 15⟩] (T.raw 182 { F := fn_wsm } (.loc 7 18 20)) ⟨182, 8, 182, 20⟩,
 .Assign [.Attribute (.Name (Str.ofString "self") ⟨183, 8, 183, 12⟩) (Str.ofString "norm") ⟨183, 8, 183, 17⟩] (T.raw 183 { F := fn_wsm } (.tup (.b1 1 (.loc 4 27 32) 26 21 33) (.loc 5 35 36) 20 37)) ⟨183, 8, 183, 37⟩,
 .Assign [.Attribute (.Name (Str.ofString "self") ⟨184, 8, 184, 12⟩) (Str.ofString "is_simple") ⟨184, 8, 184, 22⟩] (T.raw 184 { F := fn_wsm } (.cmp .le (.b1 0 (.loc 4 29 34) 28 25 35) (.int 1 39 40) 25 40)) ⟨184, 8, 184, 40⟩]
noncomputable abbrev d_wsm : Df := { F := fn_wsm }
noncomputable abbrev raw' : Str := Str.ofString "raw"
theorem ch_eq {z : Str} {n c : Nat} (h : z.cps.toList.drop n = c :: z.cps.toList.drop (n + 1)) : ((z.cps[n]?).getD 0) = c := by
 have := congrArg (fun l => l[0]?) h
 simp only [List.getElem?_drop, Nat.add_zero, List.getElem?_cons_zero, Array.getElem?_toList] at this
 rw [this]; rfl
theorem str1 {a : Nat} {x : Str} {c : Nat} (h : x = ⟨#[c]⟩) : ((⟨#[a]⟩ : Str) = x) ↔ a = c := by
 rw [h]
 exact ⟨fun h => by injection h with h; simpa using h, fun h => by rw [h]⟩
noncomputable def KNw (x : Str) (x1 : Addr) : KP := fun μ ν => ∃ n b nt cnt c, μ = [.v (.ref x1), .u, .s (Str.ofString " "), .s (Str.ofString "\t"), .o 1, .i b, .i n, .i nt, c] ∧ ν = [.fld x1 [(raw', .s x)], .ints cnt] ∧ (n, b, nt, cnt) = wsRun x.cps.toList 0 0 0 [] ∧ cnt.length ≤ 10000
theorem bump_pos {cnt : List Int} {b : Int} (h : (cnt.length : Int) ≤ b) : bump cnt b = (cnt ++ (List.replicate (b - cnt.length + 1).toNat [(0 : Int)]).flatten).set b.toNat ((cnt ++ (List.replicate (b - cnt.length + 1).toNat [(0 : Int)]).flatten).getD b.toNat 0 + 1) := by
 unfold bump; rw [if_pos h, List.flatten_replicate_singleton]
theorem bump_neg {cnt : List Int} {b : Int} (h : ¬ (cnt.length : Int) ≤ b) : bump cnt b = cnt.set b.toNat (cnt.getD b.toNat 0 + 1) := by
 unfold bump; rw [if_neg h]
theorem ext_len {cnt : List Int} {b : Int} (h : (cnt.length : Int) ≤ b) : (((cnt ++ (List.replicate (b - cnt.length + 1).toNat [(0 : Int)]).flatten).length : Nat) : Int) = b + 1 := by
 rw [List.flatten_replicate_singleton, List.length_append, List.length_replicate]; grind only
theorem bump_le {cnt : List Int} {b : Int} {i : Nat} (h0 : 0 ≤ b) (h1 : b ≤ i) (h2 : cnt.length ≤ i) : (bump cnt b).length ≤ i + 1 := by
 by_cases h : (cnt.length : Int) ≤ b
 ·have := ext_len h
  rw [bump_pos h, List.length_set]; omega
 ·rw [bump_neg h, List.length_set]; exact Nat.le_succ_of_le (by assumption)
theorem ch_st {x : Str} {x1 : Addr} {K : KF} (hx : x.length ≤ 10000) : forGK fn_wsm (fun n Q => Q (chrAt x n)) (stoK 8) x.cps.size (st d_wsm bl_ch) (KNw x x1) (KNw x x1) K [.v (.ref x1), .s x, .s (Str.ofString " "), .s (Str.ofString "	"), .o 1, .i 0, .i 0, .i 0, .u] [.fld x1 [(raw', .s x)], .ints []] := by
 have hx : x.cps.size ≤ 10000 := hx
 refine for1 (α := Int × Int × Int × List Int) (fun a => [.v (.ref x1), .u, .s (Str.ofString " "), .s (Str.ofString "	"), .o 1, .i a.2.1, .i a.1, .i a.2.2.1, .u]) (fun a => [.fld x1 [(raw', .s x)], .ints a.2.2.2]) (fun i a => a.2.2.2.length ≤ i ∧ 0 ≤ a.2.1 ∧ a.2.1 ≤ i ∧ wsRun (x.cps.toList.drop i) a.1 a.2.1 a.2.2.1 a.2.2.2 = wsRun x.cps.toList 0 0 0 [])
  (in1 [true, false, true, true, true, true, true, true, false] [true, true] (0, 0, 0, []) rfl rfl rfl ⟨Nat.le_refl _, Int.le_refl _, Int.le_refl _, rfl⟩) (fun i a hi h => ?_) fun a h => ?_
 ·obtain ⟨n, b, nt, cnt⟩ := a
  (refine el_AAA h ?_; try clear h; intro h1 h2 h3 h4)
  dsimp only at h1 h2 h3 h4
  have hi : i < x.cps.toList.length := by rw [Array.length_toList]; exact hi
  have hd := List.drop_eq_getElem_cons hi
  generalize x.cps.toList[i] = c at hd
  have hc := ch_eq hd
  rw [hd, wsRun] at h4
  have e32 : (⟨#[(x.cps[i]?).getD 0]⟩ : Str) = Str.ofString " " ↔ c = 32 := by rw [hc]; exact str1 (by decide +kernel)
  have e9 : (⟨#[(x.cps[i]?).getD 0]⟩ : Str) = Str.ofString "	" ↔ c = 9 := by rw [hc]; exact str1 (by decide +kernel)
  rw [Array.length_toList] at hi
  refine ⟨fun e => ?_, fun ne => ⟨fun e => ⟨by lia, fun ge => ?_, fun lt => ?_⟩, fun ne' => ?_⟩⟩
  ·rw [if_pos (e32.mp e)] at h4
   exact in1 [true, false, true, true, true, true, true, true, false] [true, true] (n + 1, b + 1, nt, cnt) rfl rfl rfl ⟨by exact Nat.le_succ_of_le (by assumption), by exact Int.le_add_one (by assumption), by lia, h4⟩
  ·rw [if_neg (fun z => ne (e32.mpr z)), if_pos (e9.mp e)] at h4
   have ge : (cnt.length : Int) ≤ b := ge
   have el := ext_len ge
   have fl := bump_le h2 h3 h1
   have fe : (List.replicate (b - cnt.length + 1).toNat [(0 : Int)]).flatten.length = (b - cnt.length + 1).toNat := by rw [List.flatten_replicate_singleton, List.length_replicate]
   rw [bump_pos ge] at h4 fl
   refine ⟨by lia, ⟨by grind only, by lia, by show 1 * _ ≤ _; lia⟩, by grind only, ⟨h2, by lia, by lia⟩, ⟨h2, by lia, by lia⟩, ?_⟩
   exact in1m 1 4 [true, false, true, true, true, true, true, true, false] [true, true] (n + 1, 0, nt + 1, _) rfl rfl rfl rfl ⟨fl, Int.le_refl _, by exact Int.natCast_nonneg _, h4⟩
  ·rw [if_neg (fun z => ne (e32.mpr z)), if_pos (e9.mp e)] at h4
   have fl := bump_le h2 h3 h1
   have lt : ¬ (cnt.length : Int) ≤ b := lt
   rw [bump_neg lt] at h4 fl
   refine ⟨⟨h2, by exact Int.not_le.mp (by assumption), by lia⟩, ⟨h2, by exact Int.not_le.mp (by assumption), by lia⟩, ?_⟩
   exact in1 [true, false, true, true, true, true, true, true, false] [true, true] (n + 1, 0, nt + 1, _) rfl rfl rfl ⟨fl, Int.le_refl _, by exact Int.natCast_nonneg _, h4⟩
  ·rw [if_neg (fun z => ne (e32.mpr z)), if_neg (fun z => ne' (e9.mpr z))] at h4
   exact ⟨n, b, nt, cnt, _, rfl, rfl, h4, by lia⟩
 ·obtain ⟨n, b, nt, cnt⟩ := a
  (refine el_AAA h ?_; try clear h; intro h1 h2 h3 h4)
  rw [List.drop_eq_nil_of_le (by rw [Array.length_toList]; exact Nat.le_refl _), wsRun] at h4
  exact ⟨n, b, nt, cnt, _, rfl, rfl, h4, Nat.le_trans h1 hx⟩
theorem set_ok {x : Str} (h : x = Str.ofString "raw" ∨ x = Str.ofString "n" ∨ x = Str.ofString "nt" ∨ x = Str.ofString "norm" ∨ x = Str.ofString "is_simple") : SetOk x := by
 rcases h with rfl | rfl | rfl | rfl | rfl <;> exact fun w => ⟨rfl, rfl, rfl, rfl⟩
theorem get_raw : GetOk raw' := fun w => ⟨_, rfl, rfl, rfl, rfl⟩
theorem cls_S : ClsS (Str.ofString "S") (Str.ofString " ") := fun w => ⟨_, _, rfl, rfl, rfl⟩
theorem cls_T : ClsS (Str.ofString "T") (Str.ofString "	") := fun w => ⟨_, _, rfl, rfl, rfl⟩
noncomputable def EndW (x : Str) (x1 : Addr) (sv : SV) (ν : Nu) : Prop := sv = .v .none ∧ ∃ n b nt cnt, ν = [.fld x1 [(raw', .s x), (Str.ofString "n", .i n), (Str.ofString "nt", .i nt), (Str.ofString "norm", .o 3), (Str.ofString "is_simple", .b (decide ((cnt.length : Int) ≤ 1)))], .ints cnt, .tup (cnt.map SV.i), .tup [.o 2, .i b]] ∧ (n, b, nt, cnt) = wsRun x.cps.toList 0 0 0 [] ∧ cnt.length ≤ 10000
section
variable {w : World} {fr : Option (List Env)} {gd : Option (List Code)} {G : Heap} {L : Addr} {fm : Str → Option Value} {s : Shared} {x : Str} {x1 d1 : Addr}
noncomputable abbrev sc_wsm : Scope := { kind := ScopeKind.function, names := [ (Str.ofString "self", NameKind.local), (Str.ofString "ws", NameKind.local), (Str.ofString "S", NameKind.local), (Str.ofString "T", NameKind.local), (Str.ofString "count", NameKind.local), (Str.ofString "b", NameKind.local), (Str.ofString "n", NameKind.local), (Str.ofString "nt", NameKind.local), (Str.ofString "ch", NameKind.local), (Str.ofString "Whitespace", NameKind.globalImplicit), (Str.ofString "len", NameKind.globalImplicit), (Str.ofString "tuple", NameKind.globalImplicit)], isGenerator := false, isCoroutine := false, more := [] : Scope }
noncomputable abbrev S_wsm (w : World) (fr : Option (List Env)) (gd : Option (List Code)) (G : Heap) (L : Addr) (cdv : Value) (fm : Str → Option Value) : Sit := Sit.of w ((AR 710 7100 fr gd).deeper (envX (Str.ofString "Whitespace.__init__") sc_wsm L 119 cdv [])) G L (envX (Str.ofString "Whitespace.__init__") sc_wsm L 119 cdv []) d_wsm fm
theorem wsm_run {cdv : Value} (hx : x.length ≤ 10000) (O : Ok (S_wsm w fr gd G L cdv fm)) (H : Hd (S_wsm w fr gd G L cdv fm) s.heap [d1] [.v (.ref x1), .s x, .u, .u, .u, .u, .u, .u, .u] [.fld x1 []]) : wpS (S_wsm w fr gd G L cdv fm) (execs bd_wsm (envX (Str.ofString "Whitespace.__init__") sc_wsm L 119 cdv [])) (PS (S_wsm w fr gd G L cdv fm) s (endK (EndW x x1))) s := by
 refine seqN (seta_st (fm := fm) (l := 164) (x1 := x1) (j := 0) (kd := 0) (t := (.loc 1 19 21)) (c := 8) (en := 12) (tn := 16) (e := 21) O rfl (set_ok (.inl rfl)) (P := fun μ1 ν1 => μ1 = [.v (.ref x1), .s x, .u, .u, .u, .u, .u, .u, .u] ∧ ν1 = [.fld x1 [(raw', .s x)]]) (by exact ⟨rfl, _, rfl, rfl, by decide, rfl, rfl⟩) H) fun fm μ1 ν1 s ad e H => ?_
 obtain ⟨rfl, rfl⟩ := e
 refine seqN (unpC_st (fm := fm) O rfl (i := 2) (j := 3) (.head _) cls_S cls_T rfl rfl (P := fun μ1 ν1 => μ1 = [.v (.ref x1), .s x, .s (Str.ofString " "), .s (Str.ofString "	"), .u, .u, .u, .u, .u] ∧ ν1 = [.fld x1 [(raw', .s x)]]) (by exact ⟨rfl, rfl⟩) H) fun fm μ1 ν1 s ad e H => ?_
 obtain ⟨rfl, rfl⟩ := e
 refine seqN (set_st (fm := fm) (i := 4) (l := 166) (t := (.nil false 16 18)) (c := 8) (tn := 13) (e := 18) (k := .nil) O rfl rfl (P := fun μ1 ν1 => μ1 = [.v (.ref x1), .s x, .s (Str.ofString " "), .s (Str.ofString "	"), .o 1, .u, .u, .u, .u] ∧ ν1 = [.fld x1 [(raw', .s x)], .ints []]) (by exact ⟨rfl, rfl⟩) H) fun fm μ1 ν1 s ad e H => ?_
 obtain ⟨rfl, rfl⟩ := e
 refine seqN (set3_st (fm := fm) (i := 5) (j := 6) (k := 7) (l := 167) (t := (.int 0 21 22)) O rfl (P := fun μ1 ν1 => μ1 = [.v (.ref x1), .s x, .s (Str.ofString " "), .s (Str.ofString "	"), .o 1, .i 0, .i 0, .i 0, .u] ∧ ν1 = [.fld x1 [(raw', .s x)], .ints []]) (by exact ⟨rfl, rfl⟩) H) fun fm μ1 ν1 s ad e H => ?_
 obtain ⟨rfl, rfl⟩ := e
 refine seqT (forS_st (fm := fm) (b := bl_ch) (i := 8) (j := 0) (kd := 0) (l := 168) (c := 18) (en := 22) (KN := KNw x x1) O rfl (st_sound d_wsm bl_ch) get_raw rfl rfl rfl (ch_st hx) H) fun fm μ1 ν1 s ad e H => ?_
 (refine el_EEEEERRA e fun n b nt cnt c z09 z19 => ?_; try clear e; subst z09; subst z19; intro e hl)
 refine seqN (seta_st (fm := fm) (l := 181) (x1 := x1) (j := 0) (kd := 0) (t := (.loc 6 17 18)) (c := 8) (en := 12) (tn := 14) (e := 18) O rfl (set_ok (.inr (.inl rfl))) (P := fun μ1 ν1 => μ1 = [.v (.ref x1), .u, .s (Str.ofString " "), .s (Str.ofString "	"), .o 1, .i b, .i n, .i nt, c] ∧ ν1 = [.fld x1 [(raw', .s x), (Str.ofString "n", .i n)], .ints cnt]) (by exact ⟨rfl, _, rfl, rfl, show (1 : Nat) ≤ 100 by decide, rfl, rfl⟩) H) fun fm μ1 ν1 s ad e1 H => ?_
 obtain ⟨rfl, rfl⟩ := e1
 refine seqN (seta_st (fm := fm) (l := 182) (x1 := x1) (j := 0) (kd := 0) (t := (.loc 7 18 20)) (c := 8) (en := 12) (tn := 15) (e := 20) O rfl (set_ok (.inr (.inr (.inl rfl)))) (P := fun μ1 ν1 => μ1 = [.v (.ref x1), .u, .s (Str.ofString " "), .s (Str.ofString "	"), .o 1, .i b, .i n, .i nt, c] ∧ ν1 = [.fld x1 [(raw', .s x), (Str.ofString "n", .i n), (Str.ofString "nt", .i nt)], .ints cnt]) (by exact ⟨rfl, _, rfl, rfl, show (2 : Nat) ≤ 100 by decide, rfl, rfl⟩) H) fun fm μ1 ν1 s ad e1 H => ?_
 obtain ⟨rfl, rfl⟩ := e1
 refine seqN (seta_st (fm := fm) (l := 183) (x1 := x1) (j := 0) (kd := 0) (t := (.tup (.b1 1 (.loc 4 27 32) 26 21 33) (.loc 5 35 36) 20 37)) (c := 8) (en := 12) (tn := 17) (e := 37) O rfl (set_ok (.inr (.inr (.inr (.inl rfl))))) (P := fun μ1 ν1 => μ1 = [.v (.ref x1), .u, .s (Str.ofString " "), .s (Str.ofString "	"), .o 1, .i b, .i n, .i nt, c] ∧ ν1 = [.fld x1 [(raw', .s x), (Str.ofString "n", .i n), (Str.ofString "nt", .i nt), (Str.ofString "norm", .o 3)], .ints cnt, .tup (cnt.map SV.i), .tup [.o 2, .i b]]) (by exact ⟨by exact Nat.le_trans (by assumption) (by decide), rfl, _, rfl, rfl, show (3 : Nat) ≤ 100 by decide, rfl, rfl⟩) H) fun fm μ1 ν1 s ad e1 H => ?_
 obtain ⟨rfl, rfl⟩ := e1
 refine seqN (seta_st (fm := fm) (l := 184) (x1 := x1) (j := 0) (kd := 0) (t := (.cmp .le (.b1 0 (.loc 4 29 34) 28 25 35) (.int 1 39 40) 25 40)) (c := 8) (en := 12) (tn := 22) (e := 40) O rfl (set_ok (.inr (.inr (.inr (.inr rfl))))) (P := fun μ1 ν1 => EndW x x1 (.v .none) ν1) (by exact ⟨by exact Nat.le_trans (by assumption) (by decide), rfl, _, rfl, rfl, show (4 : Nat) ≤ 100 by decide, rfl, n, b, nt, cnt, rfl, e, hl⟩) H) fun fm μ1 ν1 s ad e1 H => ?_
 exact wpAny_execs_nil ⟨fm, ad, .next, μ1, ν1, At.refl, H, rfl, e1⟩
end
theorem de {h : Int} {k v v' : Value} {tl tl' : List DictEntry} (e : v = v') (f : tl = tl') : (⟨h, k, v⟩ : DictEntry) :: tl = ⟨h, k, v'⟩ :: tl' := by rw [e, f]
theorem ws_e {w : World} {ad : List Addr} {x : Str} {n nt : Int} {q : Bool} {es : List DictEntry} {Q : Prop} (E : FldE w ad [(raw', .s x), (Str.ofString "n", .i n), (Str.ofString "nt", .i nt), (Str.ofString "norm", .o 3), (Str.ofString "is_simple", .b q)] es)
  (f : ∀ k1 k2 k3 k4 k5 t1 t2 t3 D, ad[3]? = some D → es = [⟨PyData.keyHash w.params raw', .str raw' k1, .str x t1⟩, ⟨PyData.keyHash w.params (Str.ofString "n"), .str (Str.ofString "n") k2, .int n t2⟩, ⟨PyData.keyHash w.params (Str.ofString "nt"), .str (Str.ofString "nt") k3, .int nt t3⟩, ⟨PyData.keyHash w.params (Str.ofString "norm"), .str (Str.ofString "norm") k4, .ref D⟩, ⟨PyData.keyHash w.params (Str.ofString "is_simple"), .str (Str.ofString "is_simple") k5, .bool q⟩] → Q) : Q :=
 el_EEEAA E fun k1 v1 r1 e1 p1 E => el_EEEAA E fun k2 v2 r2 e2 p2 E => el_EEEAA E fun k3 v3 r3 e3 p3 E => el_EEEAA E fun k4 v4 r4 e4 p4 E => el_EEEAA E fun k5 v5 r5 e5 p5 E =>
  p1.elim fun t1 p1 => p2.elim fun t2 p2 => p3.elim fun t3 p3 => el_EA p4 fun D hD p4 => f k1 k2 k3 k4 k5 t1 t2 t3 D hD (e1.trans (de p1 (e2.trans (de p2 (e3.trans (de p3 (e4.trans (de p4 (e5.trans (de p5 E))))))))))
theorem ws_t {ad : List Addr} {b : Int} {vs : List Value} {Q : Prop} (r : RL ad [.o 2, .i b] vs) (f : ∀ D t, ad[2]? = some D → vs = [.ref D, .int b t] → Q) : Q :=
 el_EEAA r fun v1 r1 e1 p1 r => el_EEAA r fun v2 r2 e2 p2 r => el_EA p1 fun D hD p1 => p2.elim fun t p2 => f D t hD (by rw [e1, e2, p1, p2, show r2 = [] from r])
theorem end_wsm {S S' : Sit} {hh h' : Heap} {s : Shared} {tk' : Nat} {x : Str} {x1 : Addr} {ad ad' : List Addr} {μ μ' : Mu} {ν : Nu} {K : KV} {n b nt : Int} {cnt : List Int} (ew : S'.w = S.w) (Hc : Hd S hh ad μ ν) (hl : cnt.length ≤ 10001) (hK : K (.o ν.length) μ (ν ++ [.ws n b nt cnt])) (fresh : ∀ q, S'.h₀.get? q = none → hh.get? q = none) (st : ∀ b o, hh.get? b = some o → S'.h₀.get? b = some o) (f1 : hh.get? x1 = none)
  (H : Hd S' h' ad' μ' [.fld x1 [(raw', .s x), (Str.ofString "n", .i n), (Str.ofString "nt", .i nt), (Str.ofString "norm", .o 3), (Str.ofString "is_simple", .b (decide ((cnt.length : Int) ≤ 1)))], .ints cnt, .tup (cnt.map SV.i), .tup [.o 2, .i b]]) : PX S s ad K (.ref x1) { s with heap := h', toks := tk' } := by
 obtain ⟨m', nx', fz', F', N', lo, R'⟩ := H
 refine el_EEAAbAEAe (R'.own (k := 0) rfl rfl) fun a0 o0 es _ zx eo E y3 => ?_
 refine el_EEAAbEAe (R'.fsh (k := 3) rfl rfl) fun D2 o2 vs2 y4 eo2 r2 y5 => ?_
 refine el_EEAAbEAe (R'.fsh (k := 2) rfl rfl) fun D1 o1 vs1 y6 eo1 r1 y7 => ?_
 rw [ew] at E
 refine ws_e E fun k1 k2 k3 k4 k5 t1 t2 t3 D2' z1 e => ?_
 refine ws_t r2 fun D1' t4 z2 e' => ?_
 obtain rfl := Option.some.inj (y4.symm.trans z1)
 obtain rfl := Option.some.inj (y6.symm.trans z2)
 subst e e' eo eo1 eo2
 clear E r2
 have n0 := N' _ (List.mem_append_left _ y3)
 have n2 := N' _ (List.mem_append_right _ (List.mem_append_left _ y5))
 have n1 := N' _ (List.mem_append_right _ (List.mem_append_left _ y7))
 refine PX.new (Hd.len Hc) (Hc.give (ext := wsO S.w x1 a0 D1 D2 k1 k2 k3 k4 k5 t1 t2 t3 t4 x vs1 n b nt cnt) (so := .ws n b nt cnt) (o := instObj 164 a0) (fun b o e => F'.keep _ _ (st b o e)) (fun q hq => ?_) rfl (.head _) fun h₀ fz hs => ⟨_, ⟨a0, D1, D2, k1, k2, k3, k4, k5, t1, t2, t3, t4, x, vs1, rfl, RL.ints.mp r1, hl⟩, .head _, fun q hq => .inr (hs q hq)⟩) hK
 rcases List.mem_cons.mp hq with rfl | hq
 ·exact ⟨zx.get F' N', f1⟩
 rcases List.mem_cons.mp hq with rfl | hq
 ·exact ⟨n0.1, fresh _ n0.2.2⟩
 rcases List.mem_cons.mp hq with rfl | hq
 ·exact ⟨n2.1, fresh _ n2.2.2⟩
 ·rw [List.mem_singleton.mp hq]; exact ⟨n1.1, fresh _ n1.2.2⟩
theorem good_wsm : Good 164 700 7000 C_wsm := by
 intro S D' U' fr gd env eA hD hU X vs ν μ K args s ad h Hc hv
 (refine el_ER (a1_inv h) fun a z09 => ?_; subst z09; intro h)
 (refine el_ERA (wS_inv h) fun x z09 => ?_; subst z09; intro hx hK)
 (refine el_EERAbErer hv fun _ _ t z09 z19 z29 => ?_; try clear hv; subst z09; subst z19; subst z29)
 show wpAny _ S.A _ _ _ _
 rw [eA]
 refine at_call hD hU ?_
 obtain ⟨hh, g, d, tk, os⟩ := s
 obtain ⟨_, _, _, F0, _⟩ := id Hc
 have Xs : Rdy S.w hh := X.keeps F0.keep
 refine wpAny_call (make_core (makes_of (K := H39 S.w) Xs.1 rfl) (looks_findIn Xs.1 rfl) (fun self => bind_fn Xs.1 self rfl) (.inl rfl) ?_)
 refine code_le (D := 710) (U := 7100) (d := 701) (u := 7001) (by decide) (by decide) ?_
 have hst : hh.StaysIn ((hh.push emptyDict).push (instObj 164 hh.objs.size)) := fun b o e => Heap.get?_push_of_some _ (Heap.get?_push_of_some _ e)
 have hd : ((hh.push emptyDict).push (instObj 164 hh.objs.size)).get? hh.objs.size = some (dictOf [] 0) := Heap.get?_push_of_some _ (Heap.get?_push_size _ rfl)
 have hi : ((hh.push emptyDict).push (instObj 164 hh.objs.size)).get? (hh.objs.size + 1) = some (instObj 164 hh.objs.size) := by
  have := Heap.get?_push_size (hh.push emptyDict) (o := instObj 164 hh.objs.size) rfl
  rwa [Heap.size_push] at this
 have f1 : hh.get? (hh.objs.size + 1) = none := Heap.get?_none_of_le (Nat.le_succ _)
 have f0 : hh.get? hh.objs.size = none := Heap.get?_none_of_le (Nat.le_refl _)
 have f2 : hh.objs.size + 1 ≠ hh.objs.size := Nat.succ_ne_self _
 generalize hh.objs.size + 1 = x1 at *
 generalize hh.objs.size = d1 at *
 generalize (hh.push emptyDict).push (instObj 164 d1) = h2 at *
 refine innC (w := S.w) (g := hh) (d := d_wsm) (body := bd_wsm) (nx := [(d1, dictOf [] 0)]) (as := [d1]) (cl := []) (μ0 := [.v (.ref x1), .s x, .u, .u, .u, .u, .u, .u, .u]) (ν0 := [.fld x1 []]) (P := EndW x x1) hst Xs (fun q hq => by rw [List.mem_singleton.mp hq]; exact ⟨hd, f0⟩) (List.nodup_cons.mpr ⟨List.not_mem_nil, List.nodup_nil⟩)
  (hst _ _ (Xs.1 119 _ rfl)) (codeRec_of (Xs.keeps hst).1 rfl) (by decide) (by decide) (BindsTo.of_eq rfl) (locs rfl) (by decide) rfl rfl rfl rfl (GtOk.of fun _ => ⟨⟨rfl, rfl⟩, trivial⟩) (show fn_wsm.ns.Nodup by decide) rfl (fun p hp => nomatch hp) ⟨.inr ⟨_, rfl, rfl⟩, .inr ⟨_, rfl, _, rfl⟩, .inl rfl, .inl rfl, .inl rfl, .inl rfl, .inl rfl, .inl rfl, .inl rfl, trivial⟩
  (fun G hG => .own rfl ⟨.inl (hG _ _ hi fun z => f2 (List.mem_singleton.mp z)), [], rfl, rfl⟩ .nil) (fun S' e1 e2 e3 e4 XS q vs ν μ K args s ad h => by rw [e2] at h; exact h.elim) (fun G L fm s₁ _ _ O H => wsm_run hx O H) ?_
 intro S' h' tk' ad' μ' ν' sv v hG ecl ed ew H r e
 (refine el_REEEERA e fun n b nt cnt z09 z19 => ?_; try clear e; subst z09; subst z19; intro e1 e2)
 cases (show v = .none from r)
 refine ⟨rfl, ?_⟩
 have nd : ∀ {b o}, hh.get? b = some o → b ∉ [d1] := fun z y => by rw [List.mem_singleton.mp y, f0] at z; cases z
 exact end_wsm ew Hc (Nat.le_succ_of_le e2) (hK n b nt cnt e1 (Nat.le_succ_of_le e2)) (fun q e => by
  cases z : hh.get? q with
  | none => rfl
  | some o => have := hG _ _ (hst _ _ z) (nd z); rw [e] at this; cases this) (fun b o e => hG _ _ (hst _ _ e) (nd e)) f1 H
end Mine
end
section
namespace Mine
open PySem PySem.W PySem.Calls PySem.Spec PyProof.Rows
noncomputable def fn_pv : Fn := { ns := [Str.ofString "iterator", Str.ofString "b", Str.ofString "val"], bi := [.next] }
noncomputable def bl_pv : B := (.set 1 (.b1 0 (.loc 0 13 21) 12 8 22) 152 4 5 22 (.set 2 (.bin .band (.loc 1 10 11) (.int 63 14 16) 10 16) 153 4 7 16 (.whl (.bin .band (.loc 1 10 11) (.int 64 14 16) 10 16) (.aug 2 .shl (.int 6 16 17) 155 8 11 17 (.set 1 (.b1 0 (.loc 0 17 25) 16 12 26) 156 8 9 26 (.aug 2 .bor (.bin .band (.loc 1 15 16) (.int 63 19 21) 15 21) 157 8 11 21 .nil))) 154 4 157 21 (.ret (.loc 2 11 14) 158 4 14 .nil))))
noncomputable abbrev d_pv : Df := { F := fn_pv }
noncomputable def C_pv : Co := fun vs ν K => a1 vs fun x => wO x ν fun k so => match so with
 | .iter I D os i => (∀ b ∈ os, 0 ≤ b ∧ b < 256) ∧ ∃ x j, vint 0 (os.drop i) = some (x, os.drop j) ∧ j ≤ os.length ∧ x < 1000000 ∧ K (.i x) (ν.set k (.iter I D os j))
 | _ => False
theorem and_shift : ∀ (s : Nat) (x y : Int), Builtin.bitAnd (x * 2 ^ s) y = Builtin.bitAnd x (y / 2 ^ s) * 2 ^ s
 | 0, x, y => by simp
 | s + 1, x, y => by
  have e1 : x * 2 ^ (s + 1) = 2 * (x * 2 ^ s) := by rw [Int.pow_succ, ← Int.mul_assoc, Int.mul_comm]
  have e2 : y / 2 ^ (s + 1) = y / 2 / 2 ^ s := by rw [Int.pow_succ', ← Int.ediv_ediv_of_nonneg (by decide)]
  rw [e1, e2, kbt_halves, Int.mul_ediv_cancel_left _ (by decide), and_shift s x (y / 2), if_neg (by lia), Int.pow_succ, Int.add_zero, Int.mul_comm 2, Int.mul_assoc]
theorem or_low (v b : Int) : Builtin.bitOr (v * 2 ^ 6) (b % 64) = v * 64 + b % 64 := by
 have h1 := bitXor_and (v * 2 ^ 6) (b % 64)
 have h2 : Builtin.bitXor (v * 2 ^ 6) (b % 64) = Builtin.bitOr (v * 2 ^ 6) (b % 64) - Builtin.bitAnd (v * 2 ^ 6) (b % 64) := rfl
 have h3 : Builtin.bitAnd (v * 2 ^ 6) (b % 64) = 0 := by
  rw [and_shift, show b % 64 / 2 ^ 6 = 0 from Int.ediv_eq_zero_of_lt (Int.emod_nonneg b (by decide)) (Int.emod_lt_of_pos b (by decide))]
  have := kbt_mask v 0
  rw [show (2 : Int) ^ 0 - 1 = 0 by decide] at this
  rw [this, Int.pow_zero, Int.emod_one, Int.zero_mul]
 rw [h3] at h1 h2
 grind only
theorem vint_at {os : List Int} {i : Nat} {v x : Int} {r : List Int} (h : vint v (os.drop i) = some (x, r)) : i < os.length ∧ (if os.getD i 0 / 64 % 2 = 1 then vint (v * 64 + os.getD i 0 % 64) (os.drop (i + 1)) else some (v * 64 + os.getD i 0 % 64, os.drop (i + 1))) = some (x, r) := by
 rcases Nat.lt_or_ge i os.length with q | q
 ·refine ⟨q, ?_⟩
  rw [List.drop_eq_getElem_cons q, vint] at h
  rw [List.getD_eq_getElem?_getD, List.getElem?_eq_getElem q]
  exact h
 ·rw [List.drop_eq_nil_of_le q] at h; cases h
theorem drop_inj {os : List Int} {q j : Nat} (hq : q ≤ os.length) (hj : j ≤ os.length) (e : os.drop q = os.drop j) : q = j := by
 have := congrArg List.length e
 rw [List.length_drop, List.length_drop] at this
 rw [← Nat.sub_sub_self hq, this, Nat.sub_sub_self hj]
noncomputable def VLeft (os : List Int) (x : Int) (j : Nat) (q : Nat) (b v : Int) : Prop := (b / 64 % 2 = 1 → vint v (os.drop q) = some (x, os.drop j)) ∧ (b / 64 % 2 = 0 → v = x ∧ q = j)
theorem vleft {os : List Int} {x : Int} {j q : Nat} {v : Int} (hj : j ≤ os.length) (hq : q < os.length) (h : (if os.getD q 0 / 64 % 2 = 1 then vint (v * 64 + os.getD q 0 % 64) (os.drop (q + 1)) else some (v * 64 + os.getD q 0 % 64, os.drop (q + 1))) = some (x, os.drop j)) : VLeft os x j (q + 1) (os.getD q 0) (v * 64 + os.getD q 0 % 64) := by
 refine ⟨fun e => by rw [if_pos e] at h; exact h, fun e => ?_⟩
 rw [if_neg (by rw [e]; decide)] at h
 injection h with h
 injection h with h1 h2
 exact ⟨h1, drop_inj hq hj h2⟩
theorem pv_st {I D : Addr} {os : List Int} {i j : Nat} {x : Int} (hx : vint 0 (os.drop i) = some (x, os.drop j)) (hj : j ≤ os.length) (hx6 : x < 1000000) (hb : ∀ b ∈ os, 0 ≤ b ∧ b < 256) :
  st d_pv bl_pv (endK fun sv ν' => sv = .i x ∧ ν'[0]? = some (.iter I D os j)) [.o 0, .u, .u] [.iter I D os i] := by
 have h0 := vint_at hx
 have hl := vleft hj h0.1 h0.2
 refine ⟨h0.1, ?_⟩
 refine whl3 (fun (q : Nat) (b v : Int) => [.o 0, .i b, .i v]) (fun q _ _ => [.iter I D os q]) (fun n q b v => n = os.length - q ∧ q ≤ os.length ∧ 0 ≤ v ∧ v ≤ x ∧ VLeft os x j q b v) (os.length - (i + 1)) (in3 [true, true, true] [true] (i + 1) (os.getD i 0) (os.getD i 0 % 64) rfl (by show [SV.o 0, .i (os.getD i 0), .i (Builtin.bitAnd (os.getD i 0) 63)] = _; rw [bitAnd_m6]) rfl ⟨rfl, h0.1, Int.emod_nonneg _ (by decide), ?_, by rw [Int.zero_mul, Int.zero_add] at hl; exact hl⟩) fun n q b v h => ?_
 ·have e := h0.2
  rw [Int.zero_mul, Int.zero_add] at e
  split at e
  ·exact vint_le e (Int.emod_nonneg _ (by decide))
  ·injection e with e; injection e with e _; exact Int.le_of_eq e
 ·(refine el_RAAAA h fun z09 => ?_; try clear h; subst z09; intro hq v0 vx h1 h2)
  have hbit := kbt_bit b 6
  rw [show (2 : Int) ^ 6 = 64 by decide] at hbit
  refine ⟨fun ne => ?_, fun e => ?_⟩
  ·have hf : b / 64 % 2 = 1 := by
    rcases (show b / 64 % 2 = 1 ∨ b / 64 % 2 = 0 by lia) with hf | hf
    ·exact hf
    ·rw [hf] at hbit; exact (ne hbit).elim
   have hx := h1 hf
   have h0 := vint_at hx
   have hl := vleft hj h0.1 h0.2
   have hle : v * 64 + os.getD q 0 % 64 ≤ x := by
    have e := h0.2
    split at e
    ·exact vint_le e (Int.add_nonneg (Int.mul_nonneg v0 (by decide)) (Int.emod_nonneg _ (by decide)))
    ·injection e with e; injection e with e _; exact Int.le_of_eq e
   refine ⟨⟨by decide, by decide, by lia⟩, h0.1, turn3 (os.length - (q + 1)) [true, true, true] [true] (q + 1) (os.getD q 0) (v * 64 + os.getD q 0 % 64) (Nat.sub_lt_sub_left h0.1 (Nat.lt_succ_self q)) rfl ?_ rfl ⟨rfl, h0.1, Int.add_nonneg (Int.mul_nonneg v0 (by decide)) (Int.emod_nonneg _ (by decide)), hle, hl⟩⟩
   show [SV.o 0, .i (os.getD q 0), .i (Builtin.bitOr (v * 2 ^ (6 : Int).toNat) (Builtin.bitAnd (os.getD q 0) 63))] = _
   rw [bitAnd_m6, show (6 : Int).toNat = 6 from rfl, or_low]
  ·have hf : b / 64 % 2 = 0 := by
    rcases (show b / 64 % 2 = 1 ∨ b / 64 % 2 = 0 by lia) with hf | hf
    ·rw [hf] at hbit
     exact (e (show Builtin.bitAnd b 64 ≠ 0 by rw [hbit]; decide)).elim
    ·exact hf
   obtain ⟨rfl, rfl⟩ := h2 hf
   exact ⟨rfl, rfl⟩
theorem good_pv : Good 102 550 5500 C_pv := by
 intro S D' U' fr gd env eA hD hU X vs ν μ K args s ad h Hc hv
 (refine el_ER (a1_inv h) fun a z09 => ?_; subst z09; intro h)
 (refine el_EERA (wO_inv h) fun k so z09 => ?_; subst z09; intro hk h)
 (refine el_EERAbEArer hv fun _ _ I z09 z19 z29 => ?_; try clear hv; subst z09; subst z19; subst z29; intro hI)
 cases so with
 | iter I' D os i =>
  (refine el_AEEAAA h fun x j => ?_; try clear h; intro hb hx hj hx6 hK)
  obtain ⟨m', nx, fz, F, N, lo, R⟩ := id Hc
  (refine el_EEAAbRREEAe (R.own hk rfl) fun D0 o0 vs nl z09 z19 => ?_; subst z09; subst z19; intro y1 z hi y3)
  obtain rfl := Option.some.inj (hI.symm.trans y1)
  have nI := N _ (List.mem_append_left _ y3)
  have hDg := z.get F N
  have hDI : D ≠ I := fun q => by
   rw [q, nI.1] at hDg
   have := congrArg Obj.data (Option.some.inj hDg)
   cases this
  show wpAny _ S.A _ _ _ _
  rw [eA]
  refine at_call hD hU (wpAny_call (innC (w := S.w) (g := S.h₀) (cl := []) (d := d_pv) (body := bl_pv.raw d_pv) (scope := { kind := ScopeKind.function, names := [ (Str.ofString "iterator", NameKind.local), (Str.ofString "b", NameKind.local), (Str.ofString "val", NameKind.local), (Str.ofString "next", NameKind.globalImplicit)], isGenerator := false, isCoroutine := false, more := [] : Scope }) (qual := Str.ofString "_parse_varint") (nx := [(I, itO D i)]) (as := [I]) (μ0 := [.o 0, .u, .u]) (ν0 := [.iter I D os i]) (P := fun sv ν' => sv = .i x ∧ ν'[0]? = some (.iter I D os j)) F.keep X (fun q hq => by rw [List.mem_singleton.mp hq]; exact ⟨nI.1, nI.2.2⟩) (List.nodup_cons.mpr ⟨List.not_mem_nil, List.nodup_nil⟩)
   (F.keep _ _ (X.1 102 _ rfl)) (codeRec_of (X.keeps F.keep).1 rfl) (by decide) (by decide) (BindsTo.of_eq rfl) (locs rfl) (by decide) rfl rfl rfl rfl (GtOk.of fun _ => trivial) (show fn_pv.ns.Nodup by decide) rfl (fun p hp => nomatch hp) ⟨.inr ⟨_, rfl, I, rfl, rfl⟩, .inl rfl, .inl rfl, trivial⟩
   (fun G hG => .own rfl ⟨rfl, rfl, vs, nl, .inl (hG _ _ hDg fun q => hDI (List.mem_singleton.mp q)), hi⟩ .nil) (fun S' e1 e2 e3 e4 XS q vs ν μ K args s ad h => by rw [e2] at h; exact h.elim) (fun G L fm s₁ _ _ O H => st_sound d_pv bl_pv _ O rfl rfl _ _ _ _ s₁ _ (pv_st hx hj hx6 hb) H) ?_))
  intro S' h' tk ad' μ' ν' sv v hG ecl ed ew H r e
  obtain ⟨rfl, e0⟩ := e
  obtain ⟨t, rfl⟩ := r
  obtain ⟨m2, nx2, fz2, F2, N2, lo2, R2⟩ := H
  (refine el_EEAAbRRe (R2.own e0 rfl) fun D2 o2 z09 z19 => ?_; subst z09; subst z19; intro y4 _ y6)
  have n2 := N2 _ (List.mem_append_left _ y6)
  exact PX.here (sv := .i x) (Hc.setO (so := .iter _ D os i) (so' := .iter _ D os j) hk rfl rfl hI (fun b o e hb => F2.keep _ _ (hG _ _ e fun q => hb (List.mem_singleton.mp q))) n2.1 fun w h₀ fz o q => ⟨rfl, rfl, q.2.2⟩) ⟨t, rfl⟩ hK
 | _ => exact h.elim
end Mine
end
section
namespace Mine
open PySem PySem.W PySem.Calls PySem.Spec PyProof.Rows
noncomputable def fn_rea : Fn := { ns := [Str.ofString "octets", Str.ofString "iterator", Str.ofString "numbers"], gt := [(Str.ofString "_parse_varint", .ref 102)], bi := [.iter] }
noncomputable abbrev d_rea : Df := { F := fn_rea, C := lookC [(102, C_pv)] }
noncomputable def bl_app : B := (.expr (.m1 .append (.loc 2 12 19) (.call1 0 (.loc 1 41 49) 40 27 50) 26 12 51) 231 12 51 .nil)
noncomputable def tr_rea : Stmt := .Try (bl_app.raw d_rea) [.ExceptHandler (some (.Name (Str.ofString "StopIteration") ⟨232, 15, 232, 28⟩)) none [.Return (some (.Name (Str.ofString "numbers") ⟨233, 19, 233, 26⟩)) ⟨233, 12, 233, 26⟩] ⟨232, 8, 233, 26⟩] [] [] ⟨230, 8, 233, 26⟩
noncomputable abbrev sc_rea : Scope := { kind := ScopeKind.function, names := [ (Str.ofString "octets", NameKind.local), (Str.ofString "iterator", NameKind.local), (Str.ofString "numbers", NameKind.local), (Str.ofString "iter", NameKind.globalImplicit), (Str.ofString "_parse_varint", NameKind.globalImplicit), (Str.ofString "StopIteration", NameKind.globalImplicit)], isGenerator := false, isCoroutine := false, more := [] : Scope }
noncomputable abbrev sc_pv : Scope := { kind := ScopeKind.function, names := [ (Str.ofString "iterator", NameKind.local), (Str.ofString "b", NameKind.local), (Str.ofString "val", NameKind.local), (Str.ofString "next", NameKind.globalImplicit)], isGenerator := false, isCoroutine := false, more := [] : Scope }
noncomputable abbrev bd_rea : List Stmt := [.Assign [.Name (Str.ofString "iterator") ⟨227, 4, 227, 12⟩] (T.raw 227 d_rea (.b1 0 (.loc 0 20 26) 19 15 27)) ⟨227, 4, 227, 27⟩, .Assign [.Name (Str.ofString "numbers") ⟨228, 4, 228, 11⟩] (T.raw 228 d_rea (.nil false 14 16)) ⟨228, 4, 228, 16⟩, .While (T.raw 229 d_rea (.bool true 10 14)) [tr_rea] [] ⟨229, 4, 233, 26⟩]
section
variable {w : World} {s : Shared} {h₀ g G : Heap} {gd : Option (List Code)} {D I L' a : Addr} {nl i : Nat} {vs : List Value} {rest : List (Addr × Obj)} {p : Program} {loose : List Str} {mean : ExcName → Option Value} {mg mb : Str → Option Value} {m : Str → Option Value} {Q E : Value → Shared → Prop} {outer : List Env}
theorem pv_end (X : (H39 w).In G) (T : Top p loose mean mg mb G) (KB : Below (AR 550 5500 (some outer) gd) h₀ outer G) (hGs : G.StaysIn s.heap) (hsz : G.objs.size = s.heap.objs.size)
  (hobj : ∀ q ∈ (I, itO D i) :: rest, s.heap.get? q.1 = some q.2 ∧ G.get? q.1 = none) (hne : ∀ q ∈ rest, q.1 ≠ I) (hDl : s.heap.IsList D vs.toArray) (hx : vs[i]? = none)
  (raised : ∀ h' tk e, RaisedSN h₀ G outer e (.type "StopIteration") ((I, itE i) :: rest) h' → G.UpToSlots h' → E (.ref e) { s with heap := h', toks := tk }) :
  wpAny (model P0 w) (AR 550 5500 (some outer) gd) (call (.ref 102) [.ref I] []) Q E s := by
 have Xs := X.keeps hGs
 refine wpAny_call (codeAny_call_def (fd := fnX (Str.ofString "_parse_varint") (Str.ofString "_parse_varint") _ (bl_pv.raw d_pv) sc_pv [] _ _ _ _ _ _ _) (body := bl_pv.raw d_pv) (binds := [(Str.ofString "iterator", .ref I)]) (show 550 < recursionLimit by decide) (Xs 102 _ rfl) rfl (T.nolimit.keeps hGs) (codeRec_of Xs rfl) rfl (BindsTo.of_eq rfl) (by decide) (locs rfl) (fun h₁ hns hk₁ => ?_))
 have F' : Fr G s.heap.objs.size h₁ (fun y => [(Str.ofString "iterator", Value.ref I)].reverse.lookup y) := ⟨hns, fun b o e => hk₁ b o (hGs b o e), Nat.le_of_eq hsz⟩
 have N' : News G s.heap.objs.size h₁ ((I, itO D i) :: rest) := fun q hq => ⟨hk₁ _ _ (hobj q hq).1, Nat.ne_of_lt (Heap.lt_size (hobj q hq).1), (hobj q hq).2⟩
 refine wpAny_execs_cons (wpAny_Assign_Name (Call_ (nameX_B (cn := Str.ofString "_parse_varint") (cs := sc_pv) (a := 102) (cl := []) F' X (topRead_of T) rfl PyProof.Rows.boot_next (by decide) (PyProof.Rows.callWith_builtin1 (args_cons (nameX_L (cn := Str.ofString "_parse_varint") (cs := sc_pv) (a := 102) (cl := []) F' rfl (args_nil ?_)))))))
 (refine el_EAA hDl fun o => ?_; try clear hDl; intro e1 e2 e3)
 refine my_next_end rfl F' N' (.head hne) ⟨o, hk₁ _ _ e1, e2, e3⟩ hx fun h2 h3 tk e F2 N2 hx2 => ?_
 exact leave_newS KB hx2 F2 N2 (fun h' R _ up => raised h' tk e R up)
end
theorem readV_nil {K : Nat} {l : List Int} (h : readV K l = some []) : l = [] := by
 cases K with
 | zero => cases h
 | succ K =>
  rw [readV] at h
  split at h
  ·assumption
  ·split at h
   ·cases hq : readV K _ with
    | none => rw [hq] at h; cases h
    | some l => rw [hq] at h; cases h
   ·cases h
theorem readV_cons {K : Nat} {os : List Int} {i : Nat} {x : Int} {r : List Int} (hi : i ≤ os.length) (h : readV K (os.drop i) = some (x :: r)) : ∃ j K3, vint 0 (os.drop i) = some (x, os.drop j) ∧ j ≤ os.length ∧ readV K3 (os.drop j) = some r := by
 cases K with
 | zero => cases h
 | succ K =>
  rw [readV] at h
  split at h
  ·cases h
  ·cases hv : vint 0 (os.drop i) with
   | none => rw [hv] at h; cases h
   | some xr =>
    obtain ⟨x', r'⟩ := xr
    rw [hv] at h
    dsimp only at h
    (refine el_EAAr (vint_drop hv) fun q z09 => ?_; subst z09; intro h1 h2)
    rw [List.length_drop] at h2
    rw [List.drop_drop] at h
    cases hq : readV K (os.drop (i + q)) with
    | none => rw [hq] at h; cases h
    | some l =>
     rw [hq] at h
     have e := Option.some.inj h
     rw [← (List.cons.inj e).1, ← (List.cons.inj e).2]
     exact ⟨i + q, K, by rw [List.drop_drop], by grind only, hq⟩
theorem stop_exc : isSubtype (.type "StopIteration") (.type "BaseException") = pure true := by rw [isSubtype_type]; kernel_rfl
theorem stop_tuple : isSubtype (.type ((Manifest.find? "StopIteration").elim "type" fun x => x.metatype)) (.type "tuple") = pure false := by
 rw [show ((Manifest.find? "StopIteration").elim "type" fun x => x.metatype) = "type" from by kernel_rfl, isSubtype_type]; kernel_rfl
theorem stop_self : isSubtype (.type "StopIteration") (.type "StopIteration") = pure true := by rw [isSubtype_type]; kernel_rfl
noncomputable def RB (w : World) (h₀ g : Heap) (env0 : Env) (gd : Option (List Code)) (L : Addr) (oL : Obj) : Prop := Rdy w h₀ ∧ Rdy w g ∧ Below (AR 500 5000 (some [env0]) gd) h₀ [env0] g ∧ [env0].filterMap (·.frame) = [L] ∧ g.get? L = some oL ∧ ∃ es n, oL.data = .dict es n
noncomputable abbrev e_rea (L' : Addr) (cdv : Value) : Env := envX (Str.ofString "_law_read") sc_rea L' 180 cdv []
noncomputable abbrev S_rea (w : World) (env0 : Env) (gd : Option (List Code)) (G : Heap) (L' : Addr) (cdv : Value) (fm : Str → Option Value) : Sit := Sit.of w ((AR 500 5000 (some [env0]) gd).deeper (e_rea L' cdv)) G L' (e_rea L' cdv) d_rea fm
noncomputable def fTry (L : Addr) (oL : Obj) : KF → KP := fun K μ ν => ∃ I D os i ns1 ns2 K2, μ = [.u, .o 2, .o 3] ∧ ν = [.junk, .raw L oL, .iter I D os i, .ints ns1] ∧ (∀ b ∈ os, 0 ≤ b ∧ b < 256) ∧ i ≤ os.length ∧ readV K2 (os.drop i) = some ns2 ∧ (∀ x ∈ ns2, x < 1000000) ∧ ns1.length ≤ 16000000 ∧
 (ns2 = [] → K (.ret (.o 3)) μ [.junk, .slt L oL, .opn, .ints ns1]) ∧ ∀ x r j K3, ns2 = x :: r → vint 0 (os.drop i) = some (x, os.drop j) → j ≤ os.length → readV K3 (os.drop j) = some r → K .next μ [.junk, .raw L oL, .iter I D os j, .ints (ns1 ++ [x])]
section
variable {w : World} {h₀ g G : Heap} {env0 : Env} {gd : Option (List Code)} {L L' : Addr} {oL : Obj} {cdv : Value} {fm0 fm : Str → Option Value} {K : KF} {s : Shared} {ad : List Addr} {I D : Addr} {os ns1 : List Int} {i : Nat}
theorem end_Hd (rb : RB w h₀ g env0 gd L oL) {m' : Str → Option Value} {nx fz : List (Addr × Obj)} (F : Fr (hideAll g [L]) L' s.heap fm) (N : News (hideAll g [L]) L' s.heap (ledg (S_rea w env0 gd (hideAll g [L]) L' cdv fm) nx fz)) (lo : Loc (S_rea w env0 gd (hideAll g [L]) L' cdv fm) m') (R : Rel (S_rea w env0 gd (hideAll g [L]) L' cdv fm) ad [.u, .o 2, .o 3] [.junk, .raw L oL, .iter I D os i, .ints ns1] m' nx fz) (hIL : I ≠ L)
  {h3 g' : Heap} (T : KtsTurn [L] g g') (F3 : Fr g' L' h3 fm) (N3 : News g' L' h3 ((I, itE i) :: (ledg (S_rea w env0 gd (hideAll g [L]) L' cdv fm) nx fz).filter fun q => decide (q.1 ≠ I ∧ q.1 ≠ L))) : Hd (S_rea w env0 gd (hideAll g [L]) L' cdv fm) h3 ad [.u, .o 2, .o 3] [.junk, .slt L oL, .opn, .ints ns1] := by
 (refine el_AAAAA rb ?_; try clear rb; intro _ _ _ _ hL _)
 let up : Addr × Obj → Obj := fun p => match h3.get? p.1 with | some o => o | none => p.2
 have upe : ∀ {p : Addr × Obj} {o : Obj}, h3.get? p.1 = some o → up p = o := fun {p o} e => by show (match h3.get? p.1 with | some o => o | none => p.2) = o; rw [e]
 obtain ⟨sl, hsl⟩ := T.frame L oL hL List.mem_cons_self
 have hL3 := F3.keep _ _ hsl
 have rst : ∀ {q : Addr × Obj}, q ∈ ledg (S_rea w env0 gd (hideAll g [L]) L' cdv fm) nx fz → q.1 ≠ I → q.1 ≠ L → h3.get? q.1 = some q.2 := fun hq n1 n2 => (N3 _ (.tail _ (List.mem_filter.mpr ⟨hq, decide_eq_true ⟨n1, n2⟩⟩))).1
 (refine el_EEAAbRRe (R.own (k := 2) rfl rfl) fun D2 o2 z09 z19 => ?_; subst z09; subst z19; intro a2 _ m2)
 (refine el_EEAAbRre (R.own (k := 1) rfl rfl) fun D1 o1 z09 z19 => ?_; subst z09; subst z19; intro a1 m1)
 have R1 := R.weakO (k := 1) (so' := .slt D1 o1) rfl rfl rfl fun a o _ h => ⟨h.1, o1.slots, h.2⟩
 have R2 := R1.weakO (k := 2) (so' := .opn) rfl rfl rfl fun a o _ h => trivial
 have R3 := R2.behind (fun _ h => h) up (fun k so a o hk ho ha hm hI => by
  rcases k with _ | _ | _ | _ | k
  ·cases hk; cases ho
  ·cases hk; obtain ⟨rfl, _⟩ := hI; exact ⟨rfl, sl, upe hL3⟩
  ·cases hk; trivial
  ·cases hk
   rw [upe (p := (a, o)) (rst (q := (a, o)) (List.mem_append_left _ hm) (fun e => R.dis 3 2 _ _ _ (by decide) rfl rfl rfl rfl ha (by rw [a2]; exact congrArg some e.symm)) fun e => R.dis 3 1 _ _ _ (by decide) rfl rfl rfl rfl ha (by rw [a1]; exact congrArg some e.symm))]
   exact hI
  ·cases hk) R2.off R2.offz
 refine ⟨m', _, fz, ⟨F3.ns, fun b o e => F3.keep _ _ (T.other b o (of_hideAll _ e) fun q => by rw [List.mem_singleton.mp q, hideAll_none _ List.mem_cons_self] at e; cases e), F.above⟩, fun p hp => ?_, lo, R3⟩
 rcases List.mem_append.mp hp with hp | hp
 ·(refine el_EAr (List.mem_map.mp hp) fun q z09 => ?_; subst z09; intro hq)
  have n := N q (List.mem_append_left _ hq)
  refine ⟨?_, n.2⟩
  by_cases e1 : q.1 = D2
  ·have := (N3 _ (.head _)).1
   dsimp only
   rw [e1]; exact this.trans (congrArg some (upe (p := q) (e1 ▸ this)).symm)
  ·by_cases e2 : q.1 = D1
   ·dsimp only
    rw [e2]; exact hL3.trans (congrArg some (upe (p := q) (e2 ▸ hL3)).symm)
   ·have := rst (List.mem_append_left _ hq) e1 e2
    exact this.trans (congrArg some (upe this).symm)
 ·exact ⟨rst (List.mem_append_right _ hp) (Ne.symm (R.off _ m2 p hp)) (Ne.symm (R.off _ m1 p hp)), (N p (List.mem_append_right _ hp)).2⟩
theorem try_end (rb : RB w h₀ g env0 gd L oL) (XG : Rdy w G) {m : Str → Option Value} {rest : List (Addr × Obj)} {Nm : Addr} {oN : Obj} {vs : List Value} {Q : Flow → Shared → Prop} (F : Fr G L' s.heap m) (Fg : Fr g L' s.heap m) (Ng : News g L' s.heap ((I, itO D i) :: rest)) (hne : ∀ q ∈ rest, q.1 ≠ I) (n1 : m (Str.ofString "iterator") = some (.ref I)) (n2 : m (Str.ofString "numbers") = some (.ref Nm))
  (hN : s.heap.get? Nm = some oN) (hNc : oN.cls = .type "list" ∧ oN.dict = none) (hD : s.heap.IsList D vs.toArray) (hx : vs[i]? = none) (k : ∀ h3 g' tk, KtsTurn [L] g g' → Fr g' L' h3 m → News g' L' h3 ((I, itE i) :: rest) → Q (.ret (.ref Nm)) { s with heap := h3, toks := tk }) :
  wpAny (model P0 w) ((AR 500 5000 (some [env0]) gd).deeper (e_rea L' cdv)) (exec tr_rea (e_rea L' cdv)) Q EF s := by
 obtain ⟨⟨X2, p2, loo2, me2, mg2, mb2, T2⟩, ⟨X1, p, loo, me, mg, mb, T⟩, KB, hfr, hLg, es, nn, hLd⟩ := rb
 (refine el_AEEEEE XG fun p3 loo3 me3 mg3 mb3 => ?_; try clear XG; intro X3 T3)
 refine el_EEEAAAAA (kts_enter (A := AR 550 5500 (some (e_rea L' cdv :: [env0])) gd) KB Fg Ng rfl rfl) fun _ _ _ hg1 _ hg3 _ hg5 hg6 => ?_
 have hhd : ∀ q ∈ (I, itO D i) :: rest, s.heap.get? q.1 = some q.2 ∧ (hideAll s.heap (((I, itO D i) :: rest).map (·.1))).get? q.1 = none := fun q hq => ⟨(Ng q hq).1, hideAll_none _ (List.mem_map_of_mem (f := (·.1)) hq)⟩
 have F' : Fr g L' (hideAll s.heap (((I, itO D i) :: rest).map (·.1))) m := ⟨hg3 _ hg1, hg5, Fg.above⟩
 have hs : (hideAll s.heap (((I, itO D i) :: rest).map (·.1))).StaysIn s.heap ∧ (hideAll s.heap (((I, itO D i) :: rest).map (·.1))).objs.size = s.heap.objs.size := ⟨fun b o e => of_hideAll _ e, hideAll_size _ _⟩
 clear hg1 hg3
 generalize hideAll s.heap (((I, itO D i) :: rest).map (·.1)) = G2 at hhd F' hg6 hg5 hs
 refine wpAny_Try_except (wpAny_execs_cons (wpAny_Expr_any (MethodCall_ (nameX_L (cn := Str.ofString "_law_read") (cs := sc_rea) (a := 180) (cl := []) F n2 (getMethod_builtin ⟨_, hN, hNc.1⟩ PySem.F.plainAttrs_list slot_list_append PySem.F.type_list_append (fun a e => by cases e; exact ⟨_, hN, hNc.2⟩) (callWith_method1 (args_cons (Call_ (nameX_K (cn := Str.ofString "_law_read") (cs := sc_rea) (a := 180) (cl := []) F X3 (topRead_of T3) rfl (callWith_K (K := H39 w) (X3.keeps F.keep) rfl (args_cons (nameX_L (cn := Str.ofString "_law_read") (cs := sc_rea) (a := 180) (cl := []) F n1 (args_nil ⟨X3.keeps F.keep, ?_⟩)))))))))))))
 refine at_call (by decide) (by decide) (pv_end (outer := [e_rea L' cdv, env0]) (h₀ := h₀) (X1.keeps hg5) (T.keeps hg5) hg6 hs.1 hs.2 hhd hne hD hx fun h' tk e R up => ?_)
 refine' caught_SN0 (KF := H39 w) (T' := "StopIteration") R F' ⟨rfl, KB.stays, KB.frames⟩ up X2 T2 ?D KtsTurn.refl rfl PyProof.Rows.Boot.«StopIteration» ?hn stop_exc stop_tuple stop_self ?_
 case hn => decide
 case D =>
  intro b hb
  rw [hfr, List.mem_singleton] at hb
  subst hb
  exact ⟨_, es, nn, hLg, hLd⟩
 intro h3 g' T' F3 N3 K3 X3 P3 D3
 rw [hfr] at T'
 exact wpAny_execs_cons (wpAny_Return_some (nameX_L (cn := Str.ofString "_law_read") (cs := sc_rea) (a := 180) (cl := []) F3 n2 (k h3 g' tk T' F3 N3)))
theorem base_g (rb : RB w h₀ g env0 gd L oL) {m : Str → Option Value} {led : List (Addr × Obj)} (F : Fr (hideAll g [L]) L' s.heap m) (N : News (hideAll g [L]) L' s.heap led) (mL : (L, oL) ∈ led) : Fr g L' s.heap m ∧ ∀ q ∈ led, q.1 ≠ L → s.heap.get? q.1 = some q.2 ∧ q.1 ≠ L' ∧ g.get? q.1 = none := by
 have hLg := rb.2.2.2.2.1
 have nm : ∀ {b : Addr}, b ≠ L → b ∉ [L] := fun h z => h (List.mem_singleton.mp z)
 refine ⟨⟨F.ns, fun b o e => ?_, Nat.le_trans (Nat.le_of_eq (hideAll_size _ _).symm) F.above⟩, fun q hq hn => ⟨(N q hq).1, (N q hq).2.1, ?_⟩⟩
 ·by_cases q : b = L
  ·rw [q] at e ⊢
   obtain rfl := Option.some.inj (hLg.symm.trans e)
   exact (N _ mL).1
  ·exact F.keep _ _ (hideAll_get _ e (nm q))
 ·cases e : g.get? q.1 with
  | none => rfl
  | some o => have := (N q hq).2.2; rw [hideAll_get [L] e (nm hn)] at this; cases this
theorem try_bl (rb : RB w h₀ g env0 gd L oL) (O : Ok (S_rea w env0 gd (hideAll g [L]) L' cdv fm0)) : Bl (S_rea w env0 gd (hideAll g [L]) L' cdv fm0) [tr_rea] (fTry L oL) := by
 intro fm K μ ν s ad h H
 obtain ⟨I, D, os, i, ns1, ns2, K2, rfl, rfl, hb, hi, hr, hx6, hl, k0, k1⟩ := h
 refine wpAny_execs_cons ?_
 cases ns2 with
 | cons x r =>
  refine el_EEAA (readV_cons hi hr) fun j K3 hv hj hr' => ?_
  refine wpAny_Try_except (wpAny_mono (st_sound d_rea bl_app (S_rea w env0 gd (hideAll g [L]) L' cdv fm0) O rfl rfl fm (fun sf μ1 ν1 => sf = .next ∧ K .next μ1 ν1) [.u, .o 2, .o 3] [.junk, .raw L oL, .iter I D os i, .ints ns1] s ad ⟨hb, x, j, hv, hj, hx6 x List.mem_cons_self, hl, rfl, k1 x r j K3 rfl hv hj hr'⟩ H) ?_ (fun _ _ x => x.elim))
  intro f s1 q19; (refine el_EEEEEAAAR q19 fun fm2 ad2 sf μ1 ν1 z09 => ?_; try clear q19; subst z09; intro a1 H1 r1 k1)
  cases r1
  exact wpAny_execs_nil (wpAny_execs_nil ⟨fm2, ad2, .next, μ1, ν1, a1, H1, rfl, k1⟩)
 | nil =>
  have hil : os.length ≤ i := by
   have := congrArg List.length (readV_nil hr)
   rw [List.length_drop, List.length_nil] at this
   lia
  obtain ⟨m', nx, fz, F, N, lo, R⟩ := H
  obtain rfl : m' = fm := lo.elim (fun h => h.2) fun q => q.elim fun _ h => nomatch h.1
  (refine el_EEAAbRREEAe (R.own (k := 2) rfl rfl) fun I _ vs nl z09 z19 => ?_; subst z09; subst z19; intro aI zD hiD mI)
  (refine el_EEAAbRre (R.own (k := 1) rfl rfl) fun L _ z09 z19 => ?_; subst z09; subst z19; intro aL mL)
  (refine el_EEAAbEERe (R.own (k := 3) rfl rfl) fun Nm _ yv k z09 => ?_; subst z09; intro aN hy mN)
  have hIL : I ≠ L := fun e => R.dis 2 1 _ _ _ (by decide) rfl rfl rfl rfl aI (by rw [aL, e])
  (refine el_EAEAr ((R.names 1 (.o 2) _ rfl rfl).resolve_left (fun e => by cases e)) fun v1 I' z09 => ?_; subst z09; intro n1 z1)
  (refine el_EAEAr ((R.names 2 (.o 3) _ rfl rfl).resolve_left (fun e => by cases e)) fun v2 Nm' z09 => ?_; subst z09; intro n2 z2)
  obtain rfl := Option.some.inj (aI.symm.trans z1)
  obtain rfl := Option.some.inj (aN.symm.trans z2)
  have bg := base_g rb F N (List.mem_append_left _ mL)
  exact try_end rb O.rdy F bg.1 (fun q hq => (List.mem_cons.mp hq).elim (fun e => e ▸ bg.2 _ (List.mem_append_left _ mI) hIL) fun hq => bg.2 _ (List.mem_filter.mp hq).1 (of_decide_eq_true (List.mem_filter.mp hq).2).2) (fun q hq => (of_decide_eq_true (List.mem_filter.mp hq).2).1) n1 n2 (N _ (List.mem_append_left _ mN)).1 ⟨rfl, rfl⟩
   ⟨_, zD.get (S := S_rea w env0 gd (hideAll g [L]) L' cdv m') F N, rfl, _, rfl⟩ (List.getElem?_eq_none (by rw [hiD.length]; exact hil)) fun h3 g' tk T F3 N3 => ⟨m', ad, .ret (.o 3), _, _, ⟨h3, tk, rfl⟩, end_Hd (cdv := cdv) rb F N lo R hIL T F3 N3, ⟨_, rfl, Nm, aN, rfl⟩, k0 rfl⟩
noncomputable def EndR (ns : List Int) (L : Addr) (oL : Obj) (sv : SV) (ν : Nu) : Prop := sv = .o 3 ∧ ν = [.junk, .slt L oL, .opn, .ints ns]
noncomputable def JRea (ns os : List Int) (L : Addr) (oL : Obj) (n : Nat) : KP := fun μ ν => ∃ I D i ns1 ns2 K2, μ = [.u, .o 2, .o 3] ∧ ν = [.junk, .raw L oL, .iter I D os i, .ints ns1] ∧ n = ns2.length ∧ ns = ns1 ++ ns2 ∧ readV K2 (os.drop i) = some ns2 ∧ i ≤ os.length
theorem rea_run (rb : RB w h₀ g env0 gd L oL) (O : Ok (S_rea w env0 gd (hideAll g [L]) L' cdv fm)) {ns : List Int} {Kf : Nat} (hb : ∀ b ∈ os, 0 ≤ b ∧ b < 256) (hr : readV Kf os = some ns) (hx6 : ∀ x ∈ ns, x < 1000000) (hl5 : ns.length ≤ 5)
  (H : Hd (S_rea w env0 gd (hideAll g [L]) L' cdv fm) s.heap ad [.o 0, .u, .u] [.ro os, .raw L oL]) : wpS (S_rea w env0 gd (hideAll g [L]) L' cdv fm) (execs bd_rea (e_rea L' cdv)) (PS (S_rea w env0 gd (hideAll g [L]) L' cdv fm) s (endK (EndR ns L oL))) s := by
 refine seqN (set_st (fm := fm) (i := 1) (l := 227) (t := (.b1 0 (.loc 0 20 26) 19 15 27)) (c := 4) (tn := 12) (e := 27) (k := .nil) O rfl rfl (P := fun μ1 ν1 => ∃ I D, μ1 = [.o 0, .o 2, .u] ∧ ν1 = [.ro os, .raw L oL, .iter I D os 0]) (by exact fun I D => ⟨I, D, rfl, rfl⟩) H) fun fm μ1 ν1 s ad e H => ?_
 (refine el_EERr e fun I D z09 z19 => ?_; try clear e; subst z09; subst z19)
 refine seqN (set_st (fm := fm) (i := 2) (l := 228) (t := (.nil false 14 16)) (c := 4) (tn := 11) (e := 16) (k := .nil) O rfl rfl (P := fun μ1 ν1 => μ1 = [.o 0, .o 2, .o 3] ∧ ν1 = [.ro os, .raw L oL, .iter I D os 0, .ints []]) (by exact ⟨rfl, rfl⟩) H) fun fm μ1 ν1 s ad e H => ?_
 obtain ⟨rfl, rfl⟩ := e
 refine seqT (whl_st (fm := fm) (l := 229) (t := (.bool true 10 14)) (c := 4) (l2 := 233) (e := 26) (b := .any [tr_rea]) (f := fTry L oL) (KN := fun _ _ => False) O (try_bl rb O) (J := JRea ns os L oL) (n₀ := ns.length) ⟨none, [false, true, true], [false, true, true, true], rfl, I, D, 0, [], ns, Kf, rfl, rfl, rfl, rfl, hr, Nat.zero_le _⟩ (fun n μ ν j => ?_) H) fun fm μ1 ν1 s ad e H => e.elim
 obtain ⟨I, D, i, ns1, ns2, K2, rfl, rfl, rfl, rfl, hr2, hi⟩ := j
 rw [List.length_append] at hl5
 refine ⟨fun _ => ⟨I, D, os, i, ns1, ns2, K2, rfl, rfl, hb, hi, hr2, fun x hx => hx6 x (List.mem_append_right _ hx), by lia, fun e => ?_, fun x r j K3 e hv hj hr' => ?_⟩, fun h => (h rfl).elim⟩
 ·subst e
  rw [List.append_nil]
  exact ⟨rfl, rfl⟩
 ·subst e
  exact ⟨r.length, Nat.lt_succ_self _, none, [true, true, true], [true, true, true, true], rfl, I, D, j, ns1 ++ [x], r, K3, rfl, rfl, rfl, by rw [List.append_assoc]; rfl, hr', hj⟩
end
noncomputable def C_rea : Co := fun vs ν K => a1 vs fun x => wL x ν fun os => (∀ b ∈ os, 0 ≤ b ∧ b < 256) ∧ ∃ Kf ns, readV Kf os = some ns ∧ (∀ x ∈ ns, x < 1000000) ∧ ns.length ≤ 5 ∧ K (.o ν.length) (ν ++ [.ro ns])
theorem rea_ok {S : Sit} {env0 : Env} (eA : S.A = (AR 301 4 (some []) (some [])).deeper env0) (hf : env0.frame = some S.L) (hk0 : env0.scope.kind = .function) (X : Rdy S.w S.h₀) (vs : List SV) (ν : Nu) (μ : Mu) (K : KV) (args : List Value) (s : Shared) (ad : List Addr) (h : C_rea vs ν fun v ν => K v μ ν) (Hc : Hd S s.heap ad μ ν) (hv : RL ad vs args) : wpS S (call (.ref 180) args) (PX S s ad K) s := by
 (refine el_ER (a1_inv h) fun a z09 => ?_; subst z09; intro h)
 (refine el_EERAAEEAAA (wL_inv h) fun k os Kf ns z09 => ?_; subst z09; intro hk hb hr hx6 hl5 hK)
 (refine el_EERAbEArer hv fun _ _ D z09 z19 z29 => ?_; try clear hv; subst z09; subst z19; subst z29; intro hDa)
 obtain ⟨m', nx, fz, F, N, lo, R⟩ := id Hc
 have key : ∃ vs n, s.heap.get? D = some (listOf vs.toArray n) ∧ IntsAre vs os := by
  rcases hk with hk | hk
  ·(refine el_EEAAbEERe (R.own hk rfl) fun D' o vs n z09 => ?_; subst z09; intro e1 hi e3)
   obtain rfl := Option.some.inj (e1.symm.trans hDa)
   exact ⟨vs, n, (N _ (List.mem_append_left _ e3)).1, hi⟩
  ·(refine el_EEAAbEERe (R.fro hk (fun e => by cases e) rfl) fun D' o vs n z09 => ?_; subst z09; intro e1 hi e3)
   obtain rfl := Option.some.inj (e1.symm.trans hDa)
   exact ⟨vs, n, e3.get F N, hi⟩
 (refine el_EEA key fun vs n => ?_; try clear key; intro hD hi)
 refine el_EEEAA (F.ns) fun oL es ep hLg hLd hLr => ?_
 have hDL : D ≠ S.L := fun q => by
  rw [q, hLg] at hD
  have := congrArg Obj.data (Option.some.inj hD)
  rw [hLd] at this; cases this
 have KB := pushX (below_caller S.h₀) F hf hk0
 have rb : RB S.w S.h₀ s.heap env0 (some []) S.L oL := ⟨X, X.keeps F.keep, ⟨rfl, KB.stays, KB.frames⟩, by show [env0].filterMap _ = _; rw [List.filterMap_cons, hf]; rfl, hLg, es, ep, hLd⟩
 show wpAny _ S.A _ _ _ _
 rw [eA]
 refine at_call (d := 500) (u := 5000) (by decide) (by decide) (wpAny_call (innC (w := S.w) (g := S.h₀) (cl := []) (d := d_rea) (body := bd_rea) (scope := sc_rea) (qual := Str.ofString "_law_read") (nx := [(S.L, oL)]) (as := [D, S.L]) (μ0 := [.o 0, .u, .u]) (ν0 := [.ro os, .raw S.L oL]) (P := EndR ns S.L oL) F.keep X (fun q hq => by rw [List.mem_singleton.mp hq]; exact ⟨hLg, kts_self F⟩) (List.nodup_cons.mpr ⟨List.not_mem_nil, List.nodup_nil⟩)
  (F.keep _ _ (X.1 180 _ rfl)) (codeRec_of (X.keeps F.keep).1 rfl) (by decide) (by decide) (BindsTo.of_eq rfl) (locs rfl) (by decide) rfl rfl rfl rfl (GtOk.of fun _ => ⟨⟨rfl, rfl⟩, trivial⟩) (show fn_rea.ns.Nodup by decide) rfl (fun p hp => nomatch hp) ⟨.inr ⟨_, rfl, D, rfl, rfl⟩, .inl rfl, .inl rfl, trivial⟩
  (fun G hG => .fro rfl rfl (fun _ => ⟨_, ⟨vs, n, rfl, hi⟩, hG _ _ hD fun q => hDL (List.mem_singleton.mp q)⟩) (.own rfl ⟨rfl, rfl⟩ .nil)) (fun S' e1 e2 e3 ⟨env, e4⟩ XS q vs ν μ K args s ad h H hr => CsOk.of e4 XS (l := [(102, C_pv)]) ⟨⟨_, _, by decide, by decide, good_pv⟩, trivial⟩ q vs ν μ K args s ad (by rw [e2] at h; exact h) H hr)
  (fun G L' fm s₁ hGb eG O H => by subst eG; exact rea_run rb O hb hr hx6 hl5 H) ?_))
 intro S' h' tk ad' μ' ν' sv v hG ecl ed ew H r e
 obtain ⟨rfl, rfl⟩ := e
 (refine el_EAr r fun r0 z09 => ?_; try clear r; subst z09; intro y0)
 obtain ⟨m2, nx2, fz2, F2, N2, lo2, R2⟩ := H
 (refine el_EEAAbEERe (R2.own (k := 3) rfl rfl) fun r1 o1 ys n1 z09 => ?_; subst z09; intro y1 hi1 y3)
 have e01 : r1 = r0 := Option.some.inj (y1.symm.trans y0)
 subst e01
 (refine el_EEAAbREre (R2.own (k := 1) rfl rfl) fun L2 o2 sl z09 z19 => ?_; subst z09; subst z19; intro y4 y6)
 have nr := N2 _ (List.mem_append_left _ y3)
 have nL := N2 _ (List.mem_append_left _ y6)
 have nn : ∀ {b}, b ≠ S.L → b ∉ [((S.L, oL) : Addr × Obj)].map (·.1) := fun h q => h (List.mem_singleton.mp q)
 have hrL : r1 ≠ S.L := fun e => R2.dis 3 1 _ _ _ (by decide) rfl rfl rfl rfl y1 (by rw [y4, e])
 refine PX.new (Hd.len Hc) (Hc.giveL (ext := [(r1, listOf ys.toArray n1)]) (so := .ro ns) (o := listOf ys.toArray n1) (fun b o e hb => F2.keep _ _ (hG _ _ e (nn hb))) (fun _ => ⟨_, es, ep, nL.1, hLd, hLr⟩) (fun q hq => ?_) rfl (.head _) fun h₀ fz hs => ⟨ys, n1, rfl, hi1⟩) hK
 rw [List.mem_singleton.mp hq]
 refine ⟨nr.1, ?_⟩
 cases e : s.heap.get? r1 with
 | none => rfl
 | some o => have := hG _ _ e (nn hrL); rw [nr.2.2] at this; cases this
end Mine
end
section
namespace Mine
open PySem PySem.W PySem.Calls PySem.Spec PyProof.Rows
noncomputable def C_idm : Co := fun vs ν K => C_idmP vs ν K ∨ C_idmN vs ν K
theorem good_idm (g66 : Good 66 600 6000 C_i2d) (g73 : Good 73 600 6000 C_d2i) : Good 87 570 5700 C_idm := by
 intro S D' U' fr gd env eA h1 h2 X vs ν μ K args s ad h
 rcases h with h | h
 ·exact good_idmP g66 g73 S D' U' fr gd env eA (Nat.le_trans h1 (by decide)) (Nat.le_trans h2 (by decide)) X vs ν μ K args s ad h
 ·exact good_idmN g66 g73 S D' U' fr gd env eA h1 h2 X vs ν μ K args s ad h
noncomputable def fn_law : Fn := { ns := [Str.ofString "script", Str.ofString "x", Str.ofString "whole", Str.ofString "drawn", Str.ofString "numbers", Str.ofString "parts", Str.ofString "told", Str.ofString "lead", Str.ofString "weights", Str.ofString "first", Str.ofString "second", Str.ofString "k", Str.ofString "places", Str.ofString "most", Str.ofString "ends", Str.ofString "kept", Str.ofString "row", Str.ofString "end", Str.ofString "ways", Str.ofString "bits", Str.ofString "above", Str.ofString "below", Str.ofString "quotient", Str.ofString "rest"], gt := [(Str.ofString "_law_read", .ref 180), (Str.ofString "_law_octets", .ref 173), (Str.ofString "_law_split", .ref 194), (Str.ofString "_law_lead", .ref 235), (Str.ofString "_law_weights", .ref 206), (Str.ofString "Whitespace", .ref 164), (Str.ofString "_law_figures", .ref 213), (Str.ofString "_law_joined", .ref 199), (Str.ofString "pretty_flags", .ref 95), (Str.ofString "_law_words", .ref 218), (Str.ofString "_law_partitions", .ref 223), (Str.ofString "ISEOF", .ref 45), (Str.ofString "_law_ways", .ref 230), (Str.ofString "int_divmod", .ref 87), (Str.ofString "_int2digits", .ref 66), (Str.ofString "_digits2int", .ref 73)], cs := [(3, Str.ofString "level"), (4, Str.ofString "due"), (5, Str.ofString "size")], bi := [.len, .sum, .tuple, .range] }
noncomputable def cd_law0 : CD := { x := Str.ofString "x", c := 30, e := 31, sc := {kind := ScopeKind.function, names := [(Str.ofString ".0", NameKind.local), (Str.ofString "x", NameKind.local)], isGenerator := false, isCoroutine := false, more := []}, F := { ns := [Str.ofString "x"] } }
noncomputable def cd_law1 : CD := { x := Str.ofString "x", c := 30, e := 31, sc := {kind := ScopeKind.function, names := [(Str.ofString ".0", NameKind.local), (Str.ofString "x", NameKind.local)], isGenerator := false, isCoroutine := false, more := []}, F := { ns := [Str.ofString "x"] } }
noncomputable def cd_law2 : CD := { x := Str.ofString "part", c := 70, e := 74, sc := {kind := ScopeKind.function, names := [ (Str.ofString ".0", NameKind.local), (Str.ofString "part", NameKind.local), (Str.ofString "size", NameKind.free)], isGenerator := false, isCoroutine := false, more := []}, F := { ns := [Str.ofString "part"], cs := [(5, Str.ofString "size")] } }
noncomputable def cd_law3 : CD := { x := Str.ofString "k", c := 33, e := 34, sc := {kind := ScopeKind.function, names := [ (Str.ofString ".0", NameKind.local), (Str.ofString "k", NameKind.local), (Str.ofString "due", NameKind.free), (Str.ofString "level", NameKind.free)], isGenerator := false, isCoroutine := false, more := []}, F := { ns := [Str.ofString "k"], cs := [(4, Str.ofString "due"), (3, Str.ofString "level")] } }
noncomputable def cd_law4 : CD := { x := Str.ofString "place", c := 44, e := 49, sc := {kind := ScopeKind.function, names := [(Str.ofString ".0", NameKind.local), (Str.ofString "place", NameKind.local)], isGenerator := false, isCoroutine := false, more := []}, F := { ns := [Str.ofString "place"] } }
noncomputable def bl_lawG : B := (.set 19 (.bin .add (.int 10 11 13) (.bin .mod (.loc 2 16 21) (.int 30 24 26) 16 26) 11 26) 367 4 8 26 (.set 20 (.int 1 12 13) 368 4 9 13 (.set 21 (.int 1 12 13) 369 4 9 13 (.forR2 11 3 (.int 1 19 20) (.bin .add (.loc 13 22 26) (.int 1 29 30) 22 30) 18 13 31 (.aug 20 .mul (.bin .sub (.bin .pow (.int 2 17 18) (.bin .mul (.bin .mul (.loc 19 23 27) (.cel 2 30 34) 23 34) (.loc 11 37 38) 23 38) 17 39) (.int 1 42 43) 17 43) 371 8 13 43 (.aug 21 .mul (.bin .sub (.bin .pow (.int 2 17 18) (.bin .mul (.loc 19 23 27) (.loc 11 30 31) 23 31) 17 32) (.int 1 35 36) 17 36) 372 8 13 36 .nil)) 370 4 8 9 372 36 (.unp 22 23 (.call2 13 (.loc 20 32 37) (.loc 21 39 44) 31 21 45) 373 4 12 14 18 45 (.ite (.or (.not (.call1 11 (.loc 23 17 21) 16 11 22) 7 22) (.cmp .ne (.call2 14 (.loc 22 38 46) (.loc 19 48 52) 37 26 53) (.loc 18 57 61) 26 61) 7 61) (.ret (.bool false 15 20) 375 8 20 .nil) .nil 374 4 375 20 (.ret (.cmp .eq (.call2 13 (.bin .sub (.int 1 22 23) (.loc 20 26 31) 22 31) (.loc 21 33 38) 21 11 39) (.tup (.neg (.call2 15 (.loc 18 57 61) (.loc 19 63 67) 56 45 68) 44 68) (.int 1 70 71) 43 72) 11 72) 376 4 72 .nil)))))))
noncomputable def bl_lawI : B := (.ite (.call1 11 (.bin .sub (.meth1 .indent (.call1 5 (.call2 3 (.loc 16 38 41) (.int 0 43 44) 37 28 45) 27 17 46) (.cel 2 60 64) 59 17 65) (.meth1 .indent (.call1 5 (.call2 3 (.loc 16 89 92) (.int 1 94 95) 88 79 96) 78 68 97) (.cel 2 111 115) 110 68 116) 17 116) 16 11 117) (.aug 15 .add (.int 1 20 21) 363 12 16 21 .nil) .nil 362 8 363 21 .nil)
noncomputable def bl_lawF : B := (.set 13 (.bin .add (.int 3 11 12) (.bin .mod (.loc 2 15 20) (.int 3 23 24) 15 24) 11 24) 355 4 8 24 (.set 14 (.nilL .lists 11 13) 356 4 8 13 (.set 15 (.int 0 11 12) 357 4 8 12 (.forL 16 (.call2 10 (.loc 13 31 35) (.loc 13 37 41) 30 15 42) (.set 17 (.call2 7 (.loc 16 26 29) (.cel 2 31 35) 25 14 36) 359 8 11 36 (.ite (.cmp .nin (.loc 17 11 14) (.loc 14 22 26) 11 26) (.expr (.m1 .append (.loc 14 12 16) (.loc 17 24 27) 23 12 28) 361 12 28 .nil) .nil 360 8 361 28 bl_lawI)) 358 4 8 11 363 21 (.set 18 (.call2 12 (.loc 13 21 25) (.cel 2 27 31) 20 11 32) 364 4 8 32 (.ite (.or (.cmp .ne (.b1 0 (.loc 14 11 15) 10 7 16) (.sub (.loc 18 20 24) (.loc 13 25 29) 20 30) 7 30) (.cmp .ne (.loc 15 34 38) (.sub (.loc 18 42 46) (.loc 13 47 51) 42 52) 34 52) 7 52) (.ret (.bool false 15 20) 366 8 20 .nil) .nil 365 4 366 20 (.fgt [false, false, true, false, false, false, false, false, false, false, false, false, false, true, false, false, false, false, true, false, false, false, false, false] [false, true, true, false, false, true, false, true] bl_lawG)))))))
noncomputable def bl_lawE : B := (.forC2 0 3 (.int 1 23 24) (.cel 2 26 30) 22 17 31 (.setRF 12 .ints 3 (.bin .sub (.sub (.cel 0 18 21) (.loc 0 22 23) 18 24) (.int 1 27 28) 18 28) (.cmp .eq (.m1 .count (.sto (.cel 0 57 60) (.loc 0 62 63) 61 63 57 64) (.sub (.cel 0 71 74) (.loc 0 75 76) 71 77) 70 57 78) (.bin .sub (.cel 1 82 87) (.int 1 90 91) 82 91) 57 91) (.b1 0 (.cel 1 48 51) 47 44 52) 3 43 38 53 352 8 14 17 92 (.ite (.cmp .ne (.call1 8 (.b1 1 (.comp .ints 4 (.bin .shl (.int 1 29 30) (.loc 0 34 39) 29 39) (.loc 12 53 59) 28 60) 27 24 61) 23 11 62) (.call1 9 (.loc 12 77 83) 76 66 84) 11 84) (.ret (.bool false 19 24) 354 12 24 .nil) .nil 353 8 354 24 .nil)) 351 4 8 13 354 24 (.fgt [false, false, true, false, false, false, false, false, false, false, false, false, false, false, false, false, false, false, false, false, false, false, false, false] [false, true, true, false, false, true] bl_lawF))
noncomputable def bl_lawD : B := (.setc 1 (.call2 6 (.loc 8 23 30) (.cel 2 32 36) 22 10 37) 348 4 7 37 (.ite (.or (.cmp .ne (.call2 7 (.loc 5 19 24) (.cel 2 26 30) 18 7 31) (.cel 1 35 38) 7 38) (.cmp .ne (.call2 7 (.loc 6 54 58) (.cel 2 60 64) 53 42 65) (.cel 1 69 72) 42 72) 7 72) (.ret (.bool false 15 20) 350 8 20 .nil) .nil 349 4 350 20 (.fgt [false, false, true, false, false, false, false, false, false, false, false, false, false, false, false, false, false, false, false, false, false, false, false, false] [false, true, true, true, true, true, false, false, true] bl_lawE)))
noncomputable def bl_lawC : B := (.set 9 (.call1 5 (.call2 3 (.loc 5 33 38) (.int 0 40 41) 32 23 42) 22 12 43) 342 4 9 43 (.set 10 (.call1 5 (.bin .add (.loc 7 24 28) (.str (Str.ofString " ") 31 34) 24 34) 23 13 35) 343 4 10 35 (.ite (.or (.cmp .isnt (.meth1 .less (.loc 9 7 12) (.loc 10 18 24) 17 7 25) (.bool true 33 37) 7 37) (.cmp .isnt (.meth1 .less (.loc 10 41 47) (.loc 9 53 58) 52 41 59) (.bool false 67 72) 41 72) 7 72) (.ret (.bool false 15 20) 345 8 20 .nil) .nil 344 4 345 20 (.ite (.cmp .ne (.meth1 .indent (.loc 9 7 12) (.cel 2 26 30) 25 7 31) (.b1 1 (.comp .ints 2 (.bin .mul (.cel 0 40 44) (.bin .add (.bin .div (.loc 0 48 52) (.cel 0 56 60) 48 60) (.int 1 63 64) 48 64) 40 65) (.loc 5 78 83) 39 84) 38 35 85) 7 85) (.ret (.bool false 15 20) 347 8 20 .nil) .nil 346 4 347 20 (.fgt [false, false, true, false, false, true, true, false, true, false, false, false, false, false, false, false, false, false, false, false, false, false, false, false] [true, true, true, true, true, true, true, true] bl_lawD)))))
noncomputable def bl_lawB : B := (.set 6 (.call2 2 (.loc 5 22 27) (.cel 2 29 33) 21 11 34) 337 4 8 34 (.set 7 (.call2 3 (.loc 6 21 25) (.int 0 27 28) 20 11 29) 338 4 8 29 (.set 8 (.call2 4 (.loc 5 27 32) (.cel 2 34 38) 26 14 39) 339 4 11 39 (.ite (.cmp .ne (.att .norm (.call1 5 (.bin .add (.loc 7 18 22) (.str (Str.ofString "x \t") 25 31) 18 31) 17 7 32) 7 37) (.tup (.b1 2 (.loc 8 48 55) 47 42 56) (.int 0 58 59) 41 60) 7 60) (.ret (.bool false 15 20) 341 8 20 .nil) .nil 340 4 341 20 (.fgt [false, false, true, false, false, true, true, true, true, false, false, false, false, false, false, false, false, false, false, false, false, false, false, false] [true, true, true, true, true, true, true, true] bl_lawC)))))
noncomputable def bl_lawP : B := (.set 5 (.nil false 12 14) 334 4 9 14 (.forL 1 (.loc 4 13 20) (.expr (.m1 .extend (.loc 5 8 13) (.bin .mul (.lst (.bin .add (.int 1 22 23) (.bin .mod (.loc 1 26 27) (.int 9 30 31) 26 31) 22 31) 21 32) (.bin .add (.int 1 36 37) (.bin .mod (.bin .div (.loc 1 40 41) (.int 9 45 46) 40 46) (.int 3 49 50) 40 50) 36 50) 21 51) 20 8 52) 336 8 52 .nil) 335 4 8 9 336 52 bl_lawB))
noncomputable def bl_lawA : B := (.setc 2 (.bin .add (.int 2 11 12) (.bin .mod (.b1 0 (.loc 0 19 25) 18 15 26) (.int 2 29 30) 15 30) 11 30) 328 4 8 30 (.set 2 (.b1 1 (.comp .ints 0 (.bin .mod (.loc 0 17 18) (.int 1000 21 25) 17 25) (.loc 0 35 41) 16 42) 15 12 43) 329 4 9 43 (.set 3 (.sto (.bin .add (.comp .ints 1 (.bin .mod (.loc 0 14 15) (.bin .pow (.int 10 18 20) (.int 6 24 25) 18 25) 14 25) (.sto (.loc 0 35 41) (.int 5 43 44) 42 44 35 45) 13 46) (.lstI [(743, 50, 53), (3, 55, 56), (9, 58, 59), (4112, 61, 65)] 49 66) 13 66) (.int 5 69 70) 68 70 12 71) 330 4 9 71 (.set 4 (.call1 0 (.call1 1 (.loc 3 36 41) 35 24 42) 23 14 43) 331 4 11 43 (.ite (.cmp .ne (.loc 4 7 14) (.loc 3 18 23) 7 23) (.ret (.bool false 15 20) 333 8 20 .nil) .nil 332 4 333 20 (.fgt [false, false, true, false, true, false, false, false, false, false, false, false, false, false, false, false, false, false, false, false, false, false, false, false] [false, true, true, true, true, true, false, false, false, false, false, false, false, true] bl_lawP))))))
noncomputable abbrev cl_law : List (Nat × Co) := [(173, C_oct), (194, C_spl), (235, C_lea), (206, C_wei), (164, C_wsm), (213, C_fig), (199, C_joi), (95, C_pf), (218, C_wo), (223, C_par 6), (45, C_ise), (230, C_way), (87, C_idm), (66, C_i2d), (73, C_d2i), (154, C_les), (133, C_ind)]
noncomputable abbrev d_law : Df := { F := fn_law, D := [cd_law0, cd_law1, cd_law2, cd_law3, cd_law4], C := lookC ((180, C_rea) :: cl_law) }
theorem good_cl : AllG 301 4 cl_law := ⟨⟨_, _, by decide, by decide, good_oct⟩, ⟨_, _, by decide, by decide, good_spl good_i2d good_d2i good_wsm⟩, ⟨_, _, by decide, by decide, good_lea⟩, ⟨_, _, by decide, by decide, good_wei⟩, ⟨_, _, by decide, by decide, good_wsm⟩, ⟨_, _, by decide, by decide, good_fig⟩, ⟨_, _, by decide, by decide, good_joi⟩, ⟨_, _, by decide, by decide, good_pf⟩, ⟨_, _, by decide, by decide, good_wo⟩, ⟨_, _, by decide, by decide, good_par 6 (by decide)⟩, ⟨_, _, by decide, by decide, good_ise⟩, ⟨_, _, by decide, by decide, good_way⟩, ⟨_, _, by decide, by decide, good_idm good_i2d good_d2i⟩, ⟨_, _, by decide, by decide, good_i2d⟩, ⟨_, _, by decide, by decide, good_d2i⟩, ⟨_, _, by decide, by decide, good_les⟩, ⟨_, _, by decide, by decide, good_ind⟩, trivial⟩
end Mine
end
section
namespace Mine
open PySem PySem.W PySem.Calls PySem.Spec PyProof.Rows
noncomputable def drawnF (ns : List Int) : List Int := List.take 5 ((List.take 5 ns).map (fun k => k % 1000000) ++ [743, 3, 9, 4112])
theorem drawn_mem {ns : List Int} : ∀ x ∈ drawnF ns, 0 ≤ x ∧ x < 1000000 := by
 intro x hx
 rcases List.mem_append.mp (List.mem_of_mem_take hx) with hx | hx
 ·(refine el_EAr (List.mem_map.mp hx) fun y z09 => ?_; subst z09; intro _)
  lia
 ·simp only [List.mem_cons, List.not_mem_nil, or_false] at hx
  lia
theorem drawn_len (ns : List Int) : (drawnF ns).length ≤ 5 ∧ 4 ≤ (drawnF ns).length := by
 unfold drawnF
 rw [List.length_take, List.length_append]
 simp only [List.length_cons, List.length_nil]
 lia
noncomputable def partsOf (x : Int) : List Int := List.replicate (1 + x / 9 % 3).toNat (1 + x % 9)
noncomputable def lawParts (ns : List Int) : List Int := (drawnF ns).flatMap partsOf
noncomputable abbrev nuA (ps : SO) (z : Int) (cs1 cs2 : List (Addr × Obj)) : Nu := [ps, tb1 cs1, tb2 cs2, .cell .u, .cell .u, .cell (.i z)]
theorem partsOf_len (x : Int) : (partsOf x).length ≤ 3 := by unfold partsOf; rw [List.length_replicate]; lia
theorem drawn_parts (ds : List Int) : ∀ n, ((ds.take n).flatMap partsOf).length ≤ 3 * n := by
 induction ds with
 | nil => intro n; rw [List.take_nil]; exact Nat.zero_le _
 | cons d r ih => intro n; cases n with
  | zero => exact Nat.le_refl _
  | succ n => rw [List.take_succ_cons, List.flatMap_cons, List.length_append]; have := ih n; have := partsOf_len d; lia
theorem newI_of {ν : Nu} {a b : List Int} {K : SV → Nu → Prop} (e : a = b) (h : newI ν b K) : newI ν a K := e ▸ h
theorem lawA {ns : List Int} {cs1 cs2 : List (Addr × Obj)} {K : KF} (hl : ns.length ≤ 63)
  (next : st d_law bl_lawP K [.u, .u, .i (ns.map (· % 1000)).sum, .u, .o 13, .u, .u, .u, .u, .u, .u, .u, .u, .u, .u, .u, .u, .u, .u, .u, .u, .u, .u, .u] [.junk, tb1 cs1, tb2 cs2, .cell .u, .cell .u, .cell (.i (2 + (ns.length : Int) % 2)), .junk, .junk, .junk, .junk, .junk, .junk, .junk, .ro (drawnF ns)]) :
  st d_law bl_lawA K [.o 0, .u, .u, .u, .u, .u, .u, .u, .u, .u, .u, .u, .u, .u, .u, .u, .u, .u, .u, .u, .u, .u, .u, .u] [.ro ns, tb1 cs1, tb2 cs2, .cell .u, .cell .u, .cell .u] := by
 have hd := drawn_len ns
 have hr := law_read (drawnF ns) fun x hx => (drawn_mem x hx).1
 have hb := octF_bounds (drawnF ns) drawn_mem
 refine ⟨by exact Nat.le_trans (by assumption) (by decide), by decide, by exact Nat.le_trans (by assumption) (by decide), fun i => ns.getD i 0 % 1000, fun i hi => ⟨by decide, rfl⟩, newI_of (map_getD (· % 1000) ns) ?_⟩
 refine ⟨⟨by decide, by exact Nat.le_trans (by assumption) (by decide)⟩, by rw [List.length_take]; lia, fun i => (ns.take 5).getD i 0 % 1000000, fun i hi => ⟨⟨by decide, by decide, by decide⟩, by decide, rfl⟩, newI_of (map_getD (· % 1000000) (ns.take 5)) ?_⟩
 refine ⟨by decide, by rw [List.length_map, List.length_take]; show _ + 4 ≤ _; lia, ⟨by decide, by rw [List.length_append, List.length_map, List.length_take]; show _ + 4 ≤ _; lia⟩, newI_of (b := drawnF ns) rfl ?_⟩
 refine ⟨⟨drawn_mem, hd.1⟩, hb.1, _, _, hr, fun x hx => (drawn_mem x hx).2, hd.1, fun h => absurd rfl h, fun _ => ⟨rfl, next⟩⟩
theorem lawP {ns : List Int} {cs1 cs2 : List (Addr × Obj)} {K : KF}
  (next : st d_law bl_lawB K [.u, .u, .i (ns.map (· % 1000)).sum, .u, .u, .o 0, .u, .u, .u, .u, .u, .u, .u, .u, .u, .u, .u, .u, .u, .u, .u, .u, .u, .u] (nuA (.ints (lawParts ns)) (2 + (ns.length : Int) % 2) cs1 cs2)) :
  st d_law bl_lawP K [.u, .u, .i (ns.map (· % 1000)).sum, .u, .o 13, .u, .u, .u, .u, .u, .u, .u, .u, .u, .u, .u, .u, .u, .u, .u, .u, .u, .u, .u] [.junk, tb1 cs1, tb2 cs2, .cell .u, .cell .u, .cell (.i (2 + (ns.length : Int) % 2)), .junk, .junk, .junk, .junk, .junk, .junk, .junk, .ro (drawnF ns)] := by
 have hd := drawn_len ns
 refine for1 (fun (_ : List Int) => [.u, .u, .i (ns.map (· % 1000)).sum, .u, .u, .o 0, .u, .u, .u, .u, .u, .u, .u, .u, .u, .u, .u, .u, .u, .u, .u, .u, .u, .u]) (fun ps => nuA (.ints ps) (2 + (ns.length : Int) % 2) cs1 cs2) (fun n ps => ps = ((drawnF ns).take n).flatMap partsOf) (in1m 0 14 [false, false, true, false, false, true, false, false, false, false, false, false, false, false, false, false, false, false, false, false, false, false, false, false] [true, true, true, true, true, true] [] rfl rfl rfl rfl rfl) (fun n ps hn hp => ?_) fun ps hp => ?_
 ·have hn : n < (drawnF ns).length := hn
  have hx := drawn_mem _ (getD_mem hn)
  have hl : ps.length ≤ 3 * n := hp ▸ drawn_parts (drawnF ns) n
  refine ⟨by decide, ⟨by decide, by decide⟩, by decide, ⟨by lia, by lia, by show 1 * _ ≤ _; lia⟩, ?_⟩
  rw [show (List.replicate (1 + (drawnF ns).getD n 0 / 9 % 3).toNat [1 + (drawnF ns).getD n 0 % 9]).flatten = partsOf ((drawnF ns).getD n 0) from rep_one_int _ _]
  exact ⟨by have := (partsOf_len ((drawnF ns).getD n 0)); lia, in1 [false, false, true, false, false, true, false, false, false, false, false, false, false, false, false, false, false, false, false, false, false, false, false, false] [true, true, true, true, true, true] _ rfl rfl rfl (by rw [hp, take_getD hn, List.flatMap_append, List.flatMap_cons, List.flatMap_nil, List.append_nil])⟩
 ·rw [show ps = lawParts ns from hp.trans (by rw [List.take_length]; rfl)]
  exact next
end Mine
end
section
namespace Mine
open PySem PySem.W PySem.Calls PySem.Spec PyProof.Rows
theorem leadCodes_le (f : Int) (hf : 0 ≤ f) : ∀ ns : List Int, (∀ x ∈ ns, 1 ≤ x ∧ x ≤ 9) → (leadCodes f ns).length ≤ 10 * ns.length
 | [], _ => by simp [leadCodes]
 | k :: ns, h => by
  have := leadCodes_le f hf ns fun x hx => h x (List.mem_cons_of_mem _ hx)
  have hk := h k List.mem_cons_self
  unfold leadCodes at this ⊢
  rw [List.flatMap_cons, List.length_append, List.length_append, List.length_replicate, List.length_cons]
  exact lea_e this hk.2 hf
theorem lead_run {f : Int} (hf : f = 0 ∨ f = 1) {ns : List Int} (h : ∀ x ∈ ns, 1 ≤ x ∧ x ≤ 9) (hl : ns.length ≤ 135) (y : Str) (hy : y.length ≤ 3) :
  (leadS f ns).length + y.length ≤ 16777216 ∧ (leadS f ns ++ y).length ≤ 10000 ∧ (leadS f ns).length ≤ 10000 ∧
  wsRun (leadS f ns ++ y).cps.toList 0 0 0 [] = wsRun y.cps.toList (0 + (ns.map fun k => k - f + 1).sum) 0 (0 + ns.length) (cntF f ns []) ∧
  wsRun (leadS f ns).cps.toList 0 0 0 [] = (0 + (ns.map fun k => k - f + 1).sum, 0, 0 + (ns.length : Int), cntF f ns []) := by
 have e := lead_codes f ns
 have l : (leadS f ns).length ≤ 1350 := by
  show (leadS f ns).cps.size ≤ _
  rw [← Array.length_toList, show (leadS f ns).cps.toList = leadCodes f ns from e]
  have := leadCodes_le f (by lia) ns h
  lia
 have l2 : (leadS f ns ++ y).length = (leadS f ns).length + y.length := by
  show (leadS f ns ++ y).cps.size = (leadS f ns).cps.size + y.cps.size
  rw [← Array.length_toList, cps_append, List.length_append, Array.length_toList, Array.length_toList]
 have r := run_codes f ns [] 0 0 [] fun x hx => by have := (h x hx).1; lia
 rw [List.append_nil] at r
 refine ⟨by lia, by lia, by exact Nat.le_trans (by assumption) (by decide), ?_, ?_⟩
 ·rw [cps_append, show (leadS f ns).cps.toList = leadCodes f ns from e, run_codes f ns _ 0 0 [] fun x hx => by have := (h x hx).1; lia]
 ·rw [show (leadS f ns).cps.toList = leadCodes f ns from e, r, wsRun]
structure PsOk (z : Int) (ps : List Int) : Prop where
 z : z = 2 ∨ z = 3
 b : ∀ x ∈ ps, 1 ≤ x ∧ x ≤ 9
 l : ps.length ≤ 15
 n : ps ≠ []
section
variable {z : Int} {ps : List Int}
theorem PsOk.t (P : PsOk z ps) : (∀ x ∈ toldF z ps, 1 ≤ x ∧ x ≤ 9) ∧ (toldF z ps).length ≤ 135 ∧ ps.length ≤ (toldF z ps).length ∧ toldF z ps ≠ [] := by
 have h := told_longer P.z P.b
 have := P.l
 refine ⟨told_mem P.z P.b, by lia, h.1, fun e => ?_⟩
 have := List.length_pos_iff.mpr P.n
 rw [e, List.length_nil] at h
 lia
theorem norm_told (P : PsOk z ps) {n b nt : Int} {cnt : List Int} (e : (n, b, nt, cnt) = wsRun (leadS 0 (toldF z ps) ++ Str.ofString "x \t").cps.toList 0 0 0 []) : cnt = weiF z ps ∧ b = 0 := by
 rw [(lead_run (.inl rfl) P.t.1 P.t.2.1 _ (by decide)).2.2.2.1, show (Str.ofString "x \t").cps.toList = [120, 32, 9] from rfl, show ∀ n b nt cnt, wsRun [120, 32, 9] n b nt cnt = (n, b, nt, cnt) from fun n b nt cnt => by simp [wsRun], law_norm P.z P.b] at e
 injection e with _ e
 injection e with e1 e
 injection e with _ e
 exact ⟨e, e1⟩
end
theorem lawB {ps : List Int} {z W : Int} {cs1 cs2 : List (Addr × Obj)} {K : KF} (P : PsOk z ps)
  (next : st d_law bl_lawC K [.u, .u, .i W, .u, .u, .o 0, .o 6, .s (leadS 0 (toldF z ps)), .o 7, .u, .u, .u, .u, .u, .u, .u, .u, .u, .u, .u, .u, .u, .u, .u] (nuA (.ints ps) z cs1 cs2 ++ [.ro (toldF z ps), .ro (weiF z ps)])) :
  st d_law bl_lawB K [.u, .u, .i W, .u, .u, .o 0, .u, .u, .u, .u, .u, .u, .u, .u, .u, .u, .u, .u, .u, .u, .u, .u, .u, .u] (nuA (.ints ps) z cs1 cs2) := by
 have R := lead_run (.inl rfl) P.t.1 P.t.2.1 (Str.ofString "x \t") (by decide)
 have w := @wei_length z ps
 refine ⟨⟨⟨1, cs1, rfl⟩, ⟨2, cs2, rfl⟩, P.b, P.l, P.z⟩, ⟨P.t.1, by have := P.t.2.1; exact Nat.le_trans (by assumption) (by decide), .inl rfl⟩, ⟨P.b, P.n, P.z⟩, R.1, R.2.1, fun n b nt cnt e hc => ?_⟩
 have q := norm_told P e
 exact ⟨by exact Nat.le_trans (by assumption) (by decide), _, _, _, rfl, rfl, fun h => absurd q h, fun _ => ⟨rfl, next⟩⟩
end Mine
end
section
namespace Mine
open PySem PySem.W PySem.Calls PySem.Spec PyProof.Rows
theorem bump_b (cnt : List Int) (b : Int) (B : Nat) (h : cnt.length ≤ B) (hB : b < B) : (bump cnt b).length ≤ B ∧ cnt.length ≤ (bump cnt b).length := by
 unfold bump
 dsimp only
 rw [List.length_set]
 split
 ·rw [List.length_append, List.length_replicate, gr_e]; exact ⟨gr_le h hB, Nat.le_add_right _ _⟩
 ·exact ⟨h, Nat.le_refl _⟩
theorem cnt_len (f : Int) (b : Nat) : ∀ (ns cnt : List Int), (∀ x ∈ ns, f ≤ x ∧ x - f < b) → cnt.length ≤ b → (cntF f ns cnt).length ≤ b ∧ cnt.length ≤ (cntF f ns cnt).length
 | [], cnt, _, h => ⟨h, Nat.le_refl _⟩
 | k :: ns, cnt, hn, h => by
  have hk := hn k List.mem_cons_self
  have hl := bump_b cnt (k - f) b h hk.2
  have := cnt_len f b ns (bump cnt (k - f)) (fun x hx => hn x (List.mem_cons_of_mem _ hx)) hl.1
  exact ⟨this.1, Nat.le_trans hl.2 this.2⟩
theorem cnt_two {ns : List Int} (hn : ∀ x ∈ ns, 1 ≤ x ∧ x ≤ 9) (hne : ns ≠ []) : 2 ≤ (cntF 0 ns []).length ∧ (cntF 0 ns []).length ≤ 10 := by
 refine ⟨?_, (cnt_len 0 10 ns [] (fun x hx => by have := hn x hx; lia) (by simp)).1⟩
 cases ns with
 | nil => exact absurd rfl hne
 | cons k ns =>
  have hk := hn k List.mem_cons_self
  have hl := bump_length [] (k - 0) (by lia)
  rw [List.length_nil] at hl
  have := (cnt_len 0 10 ns (bump [] (k - 0)) (fun x hx => by have := hn x (List.mem_cons_of_mem _ hx); lia) (by grind only)).2
  exact Nat.le_trans (by grind only) this
theorem run_le {b : Int} {c : List Int} (hb : b ≤ 1) (hc : c.length ≤ 10) : runF b c ≤ 9 := by unfold runF; split <;> lia
theorem sum_succ (ns : List Int) : (ns.map fun k => k - 0 + 1).sum = ns.sum + ns.length := by
 induction ns with
 | nil => rfl
 | cons x r ih => rw [List.map_cons, List.sum_cons, ih, List.sum_cons, List.length_cons]; lia
section
variable {z : Int} {ps : List Int}
theorem less_law (P : PsOk z ps) {n1 b1 nt1 n2 b2 nt2 : Int} {c1 c2 : List Int} (e1 : (n1, b1, nt1, c1) = wsRun (leadS 0 ps).cps.toList 0 0 0 []) (e2 : (n2, b2, nt2, c2) = wsRun (leadS 0 (toldF z ps) ++ Str.ofString " ").cps.toList 0 0 0 []) :
  ((2 ≤ c1.length ∧ c1.length ≤ 10001 ∧ c2.length ≤ 10001 ∧ runF b1 c1 ≤ 9 ∧ runF b2 c2 ≤ 9 ∧ 0 ≤ b1 ∧ 0 ≤ b2) ∧ lessF n1 b1 nt1 c1 n2 b2 nt2 c2 = true) ∧ ((2 ≤ c2.length ∧ c2.length ≤ 10001 ∧ c1.length ≤ 10001 ∧ runF b2 c2 ≤ 9 ∧ runF b1 c1 ≤ 9 ∧ 0 ≤ b2 ∧ 0 ≤ b1) ∧ lessF n2 b2 nt2 c2 n1 b1 nt1 c1 = false) ∧
  lvl z b1 nt1 c1 = (ps.map fun k => z * (k / z + 1)).sum := by
 rw [(lead_run (.inl rfl) P.b (by have := P.l; exact Nat.le_trans (by assumption) (by decide)) (Str.ofString " ") (by decide)).2.2.2.2] at e1
 rw [(lead_run (.inl rfl) P.t.1 P.t.2.1 _ (by decide)).2.2.2.1, show (Str.ofString " ").cps.toList = [32] from rfl, show ∀ n b nt cnt, wsRun [32] n b nt cnt = (n + 1, b + 1, nt, cnt) from fun n b nt cnt => by simp [wsRun]] at e2
 simp only [Prod.mk.injEq] at e1 e2
 (refine el_RRRr e1 fun z09 z19 z29 z39 => ?_; try clear e1; subst z09; subst z19; subst z29; subst z39)
 (refine el_RRRr e2 fun z09 z19 z29 z39 => ?_; try clear e2; subst z09; subst z19; subst z29; subst z39)
 have h1 := told_sum P.z P.b
 have h2 := told_longer P.z P.b
 have hc1 := cnt_two P.b P.n
 have hc2 := cnt_two P.t.1 P.t.2.2.2
 have r1 := run_le (b := 0) (by decide) hc1.2
 have r2 := run_le (b := 0 + 1) (by decide) hc2.2
 rw [sum_succ, sum_succ, h1]
 refine ⟨⟨⟨hc1.1, by exact Nat.le_trans (And.right (by assumption)) (by decide), by exact Nat.le_trans (And.right (by assumption)) (by decide), r1, r2, by decide, by decide⟩, ?_⟩, ⟨⟨hc2.1, by exact Nat.le_trans (And.right (by assumption)) (by decide), by exact Nat.le_trans (And.right (by assumption)) (by decide), r2, r1, by decide, by decide⟩, ?_⟩, ?_⟩
 ·unfold lessF
  rw [if_neg (by lia), List.all_eq_true]
  intro ts hts
  unfold rangeKs at hts
  (refine el_EAr (List.mem_map.mp hts) fun i z09 => ?_; subst z09; intro _)
  rw [Int.zero_add, Int.zero_add, Int.zero_add]
  exact decide_eq_true (law_level P.z (by lia) P.b)
 ·unfold lessF
  exact if_pos (by lia)
 ·rw [Int.zero_add, lvl_run z (by have := P.z; lia) 0 0 ps (fun x hx => by have := (P.b x hx).1; lia), Int.zero_add]
  simp only [Int.sub_zero]
end
theorem lawC {ps : List Int} {z W : Int} {cs1 cs2 : List (Addr × Obj)} {K : KF} (P : PsOk z ps)
  (next : st d_law bl_lawD K [.u, .u, .i W, .u, .u, .o 0, .o 6, .u, .o 7, .u, .u, .u, .u, .u, .u, .u, .u, .u, .u, .u, .u, .u, .u, .u] (nuA (.ints ps) z cs1 cs2 ++ [.ro (toldF z ps), .ro (weiF z ps)])) :
  st d_law bl_lawC K [.u, .u, .i W, .u, .u, .o 0, .o 6, .s (leadS 0 (toldF z ps)), .o 7, .u, .u, .u, .u, .u, .u, .u, .u, .u, .u, .u, .u, .u, .u, .u] (nuA (.ints ps) z cs1 cs2 ++ [.ro (toldF z ps), .ro (weiF z ps)]) := by
 have hl := P.l
 have hz := P.z
 have R1 := lead_run (.inl rfl) P.b (by exact Nat.le_trans (by assumption) (by decide)) (Str.ofString " ") (by decide)
 have R := lead_run (.inl rfl) P.t.1 P.t.2.1 (Str.ofString " ") (by decide)
 refine ⟨⟨P.b, by exact Nat.le_trans (by assumption) (by decide), .inl rfl⟩, R1.2.2.1, fun n1 b1 nt1 c1 e1 hc1 => ⟨R.1, R.2.1, fun n2 b2 nt2 c2 e2 hc2 => ?_⟩⟩
 refine el_AA (less_law P e1 e2) fun q1 q2 q3 => ?_
 refine ⟨q1.1, fun h => absurd q1.2 h, fun _ => ⟨q2.1, fun h => absurd q2.2 h, fun _ => ?_⟩⟩
 refine ⟨⟨by lia, by lia, hc1⟩, by lia, fun i => z * (ps.getD i 0 / z + 1), fun i hi => ⟨⟨by lia, by lia⟩, IntMulOk.of_left (intBits_le_64 (by lia) (by lia)), rfl⟩, newI_of (map_getD (fun k => z * (k / z + 1)) ps) ⟨fun h => absurd q3 h, fun _ => ⟨rfl, next⟩⟩⟩
end Mine
end
section
namespace Mine
open PySem PySem.W PySem.Calls PySem.Spec PyProof.Rows
noncomputable def rowR (z : Int) (ps : List Int) : List Int := rowF z (wOf (weiF z ps)) 200
noncomputable abbrev nuD (v : SV) (R : List Int) (z : Int) (cs1 cs2 : List (Addr × Obj)) : Nu := [.junk, tb1 cs1, tb2 cs2, .cell v, .cell (.o 8), .cell (.i z), .junk, .junk, .ro R]
theorem lawD' {ps : List Int} {z W : Int} {cs1 cs2 : List (Addr × Obj)} {K : KF} (P : PsOk z ps)
  (next : st d_law bl_lawE K [.u, .u, .i W, .u, .u, .u, .u, .u, .u, .u, .u, .u, .u, .u, .u, .u, .u, .u, .u, .u, .u, .u, .u, .u] (nuD .u (rowR z ps) z cs1 cs2)) :
  st d_law bl_lawD K [.u, .u, .i W, .u, .u, .o 0, .o 6, .u, .o 7, .u, .u, .u, .u, .u, .u, .u, .u, .u, .u, .u, .u, .u, .u, .u] (nuA (.ints ps) z cs1 cs2 ++ [.ro (toldF z ps), .ro (weiF z ps)]) := by
 have hl := P.l
 have hs := sum_nine ps P.b
 have w := wei_mem P.z P.b (by lia)
 have D : (∀ ms : List Int, ms.Perm (figF z (weiF z ps) (weiF z ps).length) → ms.Pairwise (· ≤ ·) → ms = rowR z ps) ∧ _ := law_due P.z P.b P.l
 have J : (∀ M, M ∈ ps → (∀ a, a ∈ ps → a ≤ M) → jGo z.toNat 140 1 (cnt0 ps M) [] = some (rowR z ps)) ∧ (∀ M, M ∈ toldF z ps → (∀ a, a ∈ toldF z ps → a ≤ M) → jGo z.toNat 140 1 (cnt0 (toldF z ps) M) [] = some (rowR z ps)) := law_rows P.z P.b P.l
 generalize rowR z ps = R at *
 refine ⟨⟨fun x hx => by have := w x hx; lia, wei_length, P.z, D.2.1⟩, fun ms hp hw => ?_⟩
 obtain rfl := D.1 ms hp hw
 exact ⟨⟨P.b, by exact Nat.le_trans (by assumption) (by decide), P.n, P.z⟩, _, _, J.1, fun h => absurd rfl h, fun _ => ⟨⟨P.t.1, by have := P.t.2.1; exact Nat.le_trans (by assumption) (by decide), P.t.2.2.2, P.z⟩, _, _, J.2, fun h => absurd rfl h, fun _ => ⟨rfl, next⟩⟩⟩
theorem lawE {ps : List Int} {z W : Int} {cs1 cs2 : List (Addr × Obj)} {K : KF} (P : PsOk z ps)
  (next : st d_law bl_lawF K [.u, .u, .i W, .u, .u, .u, .u, .u, .u, .u, .u, .u, .u, .u, .u, .u, .u, .u, .u, .u, .u, .u, .u, .u] [.junk, tb1 cs1, tb2 cs2, .junk, .junk, .cell (.i z)]) :
  st d_law bl_lawE K [.u, .u, .i W, .u, .u, .u, .u, .u, .u, .u, .u, .u, .u, .u, .u, .u, .u, .u, .u, .u, .u, .u, .u, .u] (nuD .u (rowR z ps) z cs1 cs2) := by
 have hz := P.z
 have hR : (rowR z ps).length < 64 := (law_due P.z P.b P.l).2.2
 have hb : ∀ x ∈ rowR z ps, 1 ≤ x ∧ x ≤ 200 := fun x hx => rowF_mem 200 hx
 have hs : (rowR z ps).Pairwise (· ≤ ·) := rowF_sorted 200
 generalize rowR z ps = R at *
 refine ⟨by lia, ?_⟩
 refine for1 (fun (_ : SV) => [.u, .u, .i W, .u, .u, .u, .u, .u, .u, .u, .u, .u, .u, .u, .u, .u, .u, .u, .u, .u, .u, .u, .u, .u]) (fun v => nuD v R z cs1 cs2) (fun _ _ => True) (in1 [false, false, true, false, false, false, false, false, false, false, false, false, false, false, false, false, false, false, false, false, false, false, false, false] [true, true, true, true, true, true, true, true, true] .u rfl rfl rfl trivial) (fun n v hn _ => ?_) fun v _ => ⟨rfl, next⟩
 have F := law_flags (lv := 1 + (n : Int)) hs hb
 have hq : (placesF R (1 + (n : Int)) R.length).length ≤ 100 := by
  unfold placesF
  rw [List.length_map]
  exact Nat.le_trans (List.length_filter_le _ _) (by rw [List.length_range]; exact Nat.le_of_lt (Nat.lt_of_lt_of_le (by assumption) (by decide)))
 refine ⟨by exact Nat.le_of_lt (Nat.lt_of_lt_of_le (by assumption) (by decide)), by lia, fun k => decide ((((R.take k).count (R.getD k 0) : Nat) : Int) = 1 + (n : Int) - 1), fun k => R.getD k 0 - 1, fun i hi => ?_, newI_of (b := placesF R (1 + (n : Int)) R.length) rfl ?_⟩
 ·exact ⟨⟨by exact Int.natCast_nonneg _, by exact Nat.le_of_lt (Nat.lt_of_lt_of_le (by assumption) (by decide))⟩, ⟨by exact Int.natCast_nonneg _, by lia, by exact Nat.le_of_lt (Nat.lt_of_lt_of_le (by assumption) (by decide))⟩, fun h => ⟨decide_eq_true h, ⟨by exact Int.natCast_nonneg _, by lia, by exact Nat.le_of_lt (Nat.lt_of_lt_of_le (by assumption) (by decide))⟩, rfl⟩, fun h => decide_eq_false h⟩
 ·generalize placesF R (1 + (n : Int)) R.length = ps at *
  refine ⟨by exact Nat.le_trans (by assumption) (by decide), fun i => 2 ^ (ps.getD i 0).toNat, fun i hi => ⟨⟨(F.2.2.2 _ (getD_mem hi)).1, by have := (F.2.2.2 _ (getD_mem hi)).2; exact Int.le_of_lt (Int.lt_of_lt_of_le (by assumption) (by decide)), by decide⟩, congrArg SV.i (Int.one_mul _)⟩, newI_of (map_getD (fun p => 2 ^ p.toNat) ps) ?_⟩
  refine ⟨⟨F.2.1, Int.lt_trans F.2.2.1 (by decide)⟩, ⟨fun x hx => by have := F.2.2.2 x hx; lia, hq⟩, fun h => absurd (congrArg _ F.1) h, fun _ => in1 [false, false, true, false, false, false, false, false, false, false, false, false, false, false, false, false, false, false, false, false, false, false, false, false] [true, true, true, true, true, true, true, true, true] _ rfl rfl rfl trivial⟩
end Mine
end
section
namespace Mine
open PySem PySem.W PySem.Calls PySem.Spec PyProof.Rows
theorem forR_2 {F : Fn} {i : Nat} {rs : List (List Int)} {body : KF → KP} {KE KN : KP} {K : KF} {μ : Mu} {ν : Nu} {α β : Type} (f : α → β → Mu) (g : α → β → Nu) (P : Nat → α → β → Prop) (h0 : InJ F (J2 f g P 0) μ ν)
  (hs : ∀ n a b, n < rs.length → P n a b → stoK i (.o (g a b).length) (body (loopK F (InJ F (J2 f g P (n + 1))) KN K)) (f a b) (g a b ++ [.ro (rs.getD n [])])) (he : ∀ a b, P rs.length a b → KE (f a b) (g a b)) : forGK F (fun n Q μ ν => Q (.o ν.length) μ (ν ++ [.ro (rs.getD n [])])) (stoK i) rs.length body KE KN K μ ν :=
 ⟨J2 f g P, h0, fun n _ _ hn j => by (refine el_EERR j fun a b z09 z19 => ?_; try clear j; subst z09; subst z19; intro p); exact hs n a b hn p, fun _ _ j => by (refine el_EERR j fun a b z09 z19 => ?_; try clear j; subst z09; subst z19; intro p); exact he a b p⟩
structure RowOk (z : Int) (row : List Int) : Prop where
 b : ∀ x ∈ row, 1 ≤ x ∧ x ≤ 9
 l : row.length ≤ 5
 n : row ≠ []
 j : ∀ M, M ∈ row → (∀ a ∈ row, a ≤ M) → jGo z.toNat 20 1 (cnt0 row M) [] = some (rowOf z row)
theorem row_ok {z : Int} {row : List Int} (h : rowB z row = true) : RowOk z row := by
 unfold rowB at h
 rw [Bool.and_eq_true, Bool.and_eq_true, List.all_eq_true] at h
 have h1 := of_decide_eq_true h.1
 have h2 := of_decide_eq_true h.2.1
 have h3 : ∀ x ∈ row, 1 ≤ x ∧ x ≤ 9 ∧ x ≤ row.headD 0 := fun x hx => of_decide_eq_true (h.2.2 x hx)
 exact ⟨fun x hx => ⟨(h3 x hx).1, (h3 x hx).2.1⟩, h2.2, fun e => by rw [e] at h2; exact (List.not_mem_nil h2.1).elim, fun M hM hle => by rw [Int.le_antisymm (h3 M hM).2.2 (hle _ h2.1)]; exact h1⟩
theorem rows_at (W : Int) {z : Int} (hz : z = 2 ∨ z = 3) : (∀ row ∈ partsF 6 (3 + W % 3) (3 + W % 3), RowOk z row) ∧ (partsF 6 (3 + W % 3) (3 + W % 3)).length ≤ 10 ∧
  ((((partsF 6 (3 + W % 3) (3 + W % 3)).foldl (stepE z) ([], 0)).1.length : Int) = (waysF (3 + W % 3) z).getD (3 + W % 3).toNat 0 ∧ ((partsF 6 (3 + W % 3) (3 + W % 3)).foldl (stepE z) ([], 0)).2 = (waysF (3 + W % 3) z).getD (3 + W % 3).toNat 0) ∧ waysF (3 + W % 3) z = wTab (3 + W % 3) z ∧ (3 + W % 3).toNat < (waysF (3 + W % 3) z).length ∧ (waysF (3 + W % 3) z).length ≤ 40 := by
 have e : ∃ m : Nat, m < 3 ∧ 3 + W % 3 = (m : Int) + 3 := el_EA (modN W (k := 3) (by decide)) fun m hm em => ⟨m, hm, (congrArg ((3 : Int) + ·) em).trans (Int.add_comm _ _)⟩
 have e2 : ∃ q : Nat, q < 2 ∧ z = (q : Int) + 2 := hz.elim (fun e => ⟨0, by decide, e⟩) fun e => ⟨1, by decide, e⟩
 (refine el_EA e fun m => ?_; try clear e; intro hm e)
 obtain ⟨q, hq, rfl⟩ := e2
 rw [e]
 have h := rows_ok m hm q hq
 have w := ways_tab m hm q hq
 unfold rowsB at h
 rw [Bool.and_eq_true, Bool.and_eq_true, List.all_eq_true] at h
 rw [w]
 refine ⟨fun row hr => row_ok (h.1 row hr), of_decide_eq_true h.2.1, of_decide_eq_true h.2.2, rfl, ?_⟩
 clear h w e
 revert q
 revert m
 decide
theorem foldE_len {z : Int} (rows : List (List Int)) : ∀ p : List (List Int) × Int, (rows.foldl (stepE z) p).1.length ≤ p.1.length + rows.length := by
 induction rows with
 | nil => intro p; exact Nat.le_refl _
 | cons r rs ih =>
  intro p
  refine Nat.le_trans (ih _) ?_
  have : (stepE z p r).1.length ≤ p.1.length + 1 := by
   show (if rowOf z r ∈ p.1 then p.1 else p.1 ++ [rowOf z r]).length ≤ _
   split
   ·exact Nat.le_succ _
   ·rw [List.length_append]; exact Nat.le_refl _
  rw [List.length_cons]; lia
theorem take_getL {rs : List (List Int)} {i : Nat} (h : i < rs.length) : rs.take (i + 1) = rs.take i ++ [rs.getD i []] := by rw [List.take_add_one, List.getD_eq_getElem?_getD, List.getElem?_eq_getElem h]; rfl
theorem lvl_row {z f n b nt : Int} {cnt row : List Int} (hz : z = 2 ∨ z = 3) (R : RowOk z row) (hf : f = 0 ∨ f = 1) (e : (n, b, nt, cnt) = wsRun (leadS f row).cps.toList 0 0 0 []) : lvl z b nt cnt = lvlD z f row := by
 rw [(lead_run hf R.b (by have := R.l; exact Nat.le_trans (by assumption) (by decide)) (Str.ofString " ") (by decide)).2.2.2.2] at e
 simp only [Prod.mk.injEq] at e
 (refine el_RRRr e fun z09 z19 z29 z39 => ?_; try clear e; subst z09; subst z19; subst z29; subst z39)
 rw [Int.zero_add, lvl_run z (by lia) f 0 row (fun x hx => by have := (R.b x hx).1; lia), Int.zero_add]; rfl
theorem lawI {z W m k : Int} {es : List (List Int)} {row R : List Int} {cs1 cs2 : List (Addr × Obj)} {K : KF} (hz : z = 2 ∨ z = 3) (H : RowOk z row)
  (next : ∀ k', k' = (if lvlD z 0 row - lvlD z 1 row = 0 then k + 1 else k) → ∀ ν, K .next [.u, .u, .i W, .u, .u, .u, .u, .u, .u, .u, .u, .u, .u, .i m, .o 6, (.i k'), .o 7, .o 8, .u, .u, .u, .u, .u, .u] ([.junk, tb1 cs1, tb2 cs2, .junk, .junk, .cell (.i z), .lrows es, .ro row, .ro R] ++ ν)) :
  st d_law bl_lawI K [.u, .u, .i W, .u, .u, .u, .u, .u, .u, .u, .u, .u, .u, .i m, .o 6, .i k, .o 7, .o 8, .u, .u, .u, .u, .u, .u] [.junk, tb1 cs1, tb2 cs2, .junk, .junk, .cell (.i z), .lrows es, .ro row, .ro R] := by
 have l0 := lead_run (.inl rfl) H.b (by have := H.l; exact Nat.le_trans (by assumption) (by decide)) (Str.ofString " ") (by decide)
 have l1 := lead_run (.inr rfl) H.b (by have := H.l; exact Nat.le_trans (by assumption) (by decide)) (Str.ofString " ") (by decide)
 have hl := H.l
 refine ⟨⟨H.b, by exact Nat.le_trans (by assumption) (by decide), .inl rfl⟩, l0.2.2.1, fun n0 b0 t0 c0 e0 hc0 => ⟨⟨by lia, by lia, hc0⟩, ⟨H.b, by exact Nat.le_trans (by assumption) (by decide), .inr rfl⟩, l1.2.2.1, fun n1 b1 t1 c1 e1 hc1 => ⟨⟨by lia, by lia, hc1⟩, ?_⟩⟩⟩
 have q0 := lvl_row hz H (.inl rfl) e0
 have q1 := lvl_row hz H (.inr rfl) e1
 refine ⟨fun h => next _ ?_ _, fun h => next _ ?_ _⟩
 ·rw [if_pos (by rw [← q0, ← q1]; exact of_decide_eq_true h)]
 ·rw [if_neg (by rw [← q0, ← q1]; exact fun x => h (decide_eq_true x))]
end Mine
end
section
namespace Mine
open PySem PySem.W PySem.Calls PySem.Spec PyProof.Rows
theorem lawF {z W : Int} {cs1 cs2 : List (Addr × Obj)} {K : KF} (hz : z = 2 ∨ z = 3)
  (next : st d_law bl_lawG K [.u, .u, .i W, .u, .u, .u, .u, .u, .u, .u, .u, .u, .u, .i (3 + W % 3), .u, .u, .u, .u, .o 7, .u, .u, .u, .u, .u] [.junk, tb1 cs1, tb2 cs2, .junk, .junk, .cell (.i z), .junk, .ro (waysF (3 + W % 3) z)]) :
  st d_law bl_lawF K [.u, .u, .i W, .u, .u, .u, .u, .u, .u, .u, .u, .u, .u, .u, .u, .u, .u, .u, .u, .u, .u, .u, .u, .u] [.junk, tb1 cs1, tb2 cs2, .junk, .junk, .cell (.i z)] := by
 refine el_AAAAA (rows_at W hz) fun h1 h2 h3 h4 h5 h6 => ?_
 refine ⟨by decide, ⟨by lia, by lia, by lia, by lia, by lia⟩, ?_⟩
 generalize hr : partsF 6 (3 + W % 3) (3 + W % 3) = rows at *
 refine forR_2 (fun (es : List (List Int)) (k : Int) => [.u, .u, .i W, .u, .u, .u, .u, .u, .u, .u, .u, .u, .u, .i (3 + W % 3), .o 6, .i k, .u, .u, .u, .u, .u, .u, .u, .u]) (fun es k => [.junk, tb1 cs1, tb2 cs2, .junk, .junk, .cell (.i z), .lrows es]) (fun n es k => es.length ≤ n ∧ (es, k) = (rows.take n).foldl (stepE z) ([], 0)) (in2 [false, false, true, false, false, false, false, false, false, false, false, false, false, true, true, true, false, false, false, false, false, false, false, false] [false, true, true, false, false, true, true] [] 0 rfl rfl rfl ⟨Nat.le_refl _, rfl⟩) (fun n es k hn p => ?_) fun es k p => ?_
 ·have H := h1 _ (show rows.getD n [] ∈ rows by rw [List.getD_eq_getElem?_getD, List.getElem?_eq_getElem hn]; exact List.getElem_mem hn)
  have hl := H.l
  have f := p.2
  have fin : ∀ es' k', (es', k') = stepE z (es, k) (rows.getD n []) → es'.length ≤ n + 1 ∧ (es', k') = (rows.take (n + 1)).foldl (stepE z) ([], 0) := fun es' k' e => by
   refine ⟨?_, by rw [take_getL hn, List.foldl_append, ← f]; exact e⟩
   have e := congrArg (·.1.length) e
   have : (stepE z (es, k) (rows.getD n [])).1.length ≤ es.length + 1 := foldE_len [rows.getD n []] (es, k)
   dsimp only at e
   have := p.1
   lia
  generalize rows.getD n [] = row at *
  refine ⟨⟨H.b, by exact Nat.le_trans (by assumption) (by decide), H.n, hz⟩, _, _, H.j, fun hni => ⟨by have := p.1; lia, lawI hz H fun k' e ν => in2 [false, false, true, false, false, false, false, false, false, false, false, false, false, true, true, true, false, false, false, false, false, false, false, false] [false, true, true, false, false, true, true] _ k' rfl rfl rfl (fin _ _ ?_)⟩, fun hi => lawI hz H fun k' e ν => in2 [false, false, true, false, false, false, false, false, false, false, false, false, false, true, true, true, false, false, false, false, false, false, false, false] [false, true, true, false, false, true, true] _ k' rfl rfl rfl (fin _ _ ?_)⟩
  ·rw [e]; exact Prod.ext (if_neg hni).symm rfl
  ·rw [e]; exact Prod.ext (if_pos (Decidable.not_not.mp hi)).symm rfl
 ·have p2 := p.2
  rw [List.take_length] at p2
  rw [← p2] at h3
  have := p.1
  exact ⟨⟨by lia, by lia, hz⟩, by lia, ⟨by lia, by lia, by exact Nat.le_trans (by assumption) (by decide)⟩, fun h => absurd h3.1 h, fun _ => ⟨⟨by lia, by lia, by lia⟩, fun h => absurd h3.2 h, fun _ => ⟨rfl, next⟩⟩⟩
end Mine
end
section
namespace Mine
open PySem PySem.W PySem.Calls PySem.Spec PyProof.Rows
theorem digV_inj (n : Nat) : ∀ a b : List Int, a.length = b.length → (∀ x ∈ a, 0 ≤ x ∧ x < 2 ^ n) → (∀ x ∈ b, 0 ≤ x ∧ x < 2 ^ n) → digV n a = digV n b → a = b
 | [], [], _, _, _, _ => rfl
 | [], _ :: _, h, _, _, _ => nomatch h
 | _ :: _, [], h, _, _, _ => nomatch h
 | x :: a, y :: b, h, ha, hb, e => by
  have hx := ha x List.mem_cons_self
  have hy := hb y List.mem_cons_self
  have e : x + 2 ^ n * digV n a = y + 2 ^ n * digV n b := e
  have m : x = y := by
   have : (x + 2 ^ n * digV n a) % 2 ^ n = (y + 2 ^ n * digV n b) % 2 ^ n := congrArg (· % (2 : Int) ^ n) e
   rw [Int.add_mul_emod_self_left, Int.add_mul_emod_self_left, Int.emod_eq_of_lt hx.1 hx.2, Int.emod_eq_of_lt hy.1 hy.2] at this
   exact this
  subst m
  have p : (0 : Int) < 2 ^ n := Int.pow_pos (by decide)
  rw [digV_inj n a b (Nat.succ.inj h) (fun q hq => ha q (List.mem_cons_of_mem _ hq)) (fun q hq => hb q (List.mem_cons_of_mem _ hq)) (Int.eq_of_mul_eq_mul_left (Int.ne_of_gt p) (Int.add_left_cancel e))]
theorem dv_of {a b : Int} (h : dvB a b = true) : DvC a b := by
 have h := of_decide_eq_true h
 exact ⟨h.1, h.2.1, h.2.2.1, _, (Int.toNat_of_nonneg (by have := h.2.2.2.1; exact Int.le_of_lt (by assumption))).symm, by have := h.2.2.2.1; omega, by have := h.2.2.2.2.1; omega, h.2.2.2.2.2⟩
structure NumOk (m : Nat) (b z : Int) (ws : List Int) : Prop where
 d : DvC (mulF (b * z) m) (mulF b m)
 d2 : DvC (mulF (b * z) m - 2) (mulF b m)
 r : mulF (b * z) m % mulF b m = 0
 h : 1 < mulF b m
 q : 0 < mulF (b * z) m / mulF b m ∧ ((Builtin.Int.intBits (mulF (b * z) m / mulF b m) : Int) + b - 1) / b = ws.length ∧ ws.length ≤ 40 ∧ mulF (b * z) m / mulF b m < 2 ^ (b.toNat * ws.length) ∧ digV b.toNat ws = mulF (b * z) m / mulF b m
 w : ∀ x ∈ ws, 0 ≤ x ∧ x < 2 ^ b.toNat
 k : ∀ k, k < m → IntMulOk (mulF (b * z) k) (2 ^ (b * z * (1 + (k : Int))).toNat - 1) ∧ IntMulOk (mulF b k) (2 ^ (b * (1 + (k : Int))).toNat - 1)
theorem nums_at (W : Int) {z : Int} (hz : z = 2 ∨ z = 3) : NumOk (3 + W % 3).toNat (10 + W % 30) z (wTab (3 + W % 3) z) := by
 have e : ∃ u : Nat, u < 30 ∧ 10 + W % 30 = 10 + (u : Int) ∧ (3 + W % 3).toNat = 3 + u % 3 ∧ 3 + W % 3 = ((3 + u % 3 : Nat) : Int) := by
  refine el_EA (modN W (k := 30) (by decide)) fun u hu eu => ?_
  have e3 : W % 3 = (u : Int) % 3 := (Int.emod_emod_of_dvd W (show (3 : Int) ∣ 30 by decide)).symm.trans (congrArg (· % (3 : Int)) eu)
  exact ⟨u, hu, congrArg ((10 : Int) + ·) eu, by rw [e3]; rfl, by rw [e3]; rfl⟩
 have e2 : ∃ q : Nat, q < 2 ∧ z = (q : Int) + 2 := hz.elim (fun e => ⟨0, by decide, e⟩) fun e => ⟨1, by decide, e⟩
 (refine el_EAAA e fun u => ?_; try clear e; intro hu e e3 e4)
 (refine el_EAr e2 fun q z09 => ?_; try clear e2; subst z09; intro hq)
 have h := nums u hu q hq
 rw [e3, e4, e]
 clear e e3 e4
 generalize 3 + u % 3 = m at *
 generalize (q : Int) + 2 = z at *
 generalize 10 + (u : Int) = b at *
 unfold numB at h
 simp only [Bool.and_eq_true, List.all_eq_true, List.mem_range] at h
 (refine el_AAAA h ?_; try clear h; intro h1 h2 h3 h4 h5)
 have h3 := of_decide_eq_true h3
 exact ⟨dv_of h1, dv_of h2, h3.1, h3.2.1, h3.2.2, fun x hx => of_decide_eq_true (h4 x hx), fun k hk => by
  refine el_AbAbAee (h5 k hk) fun x1 x2 x3 x4 => ?_
  exact ⟨IntMulOk.of_le (of_decide_eq_true x1) (of_decide_eq_true x3) (by decide), IntMulOk.of_le (of_decide_eq_true x2) (of_decide_eq_true x4) (by decide)⟩⟩
theorem minus_q {A D : Int} (h : 1 < D) (r : A % D = 0) : -((-(1 - A) - 1) / D) - 1 = -(A / D) ∧ D + (-((-(1 - A) - 1) % D) - 1) = 1 := by
 have e : -(1 - A) - 1 = (D - 2) + D * (A / D - 1) := by
  have := Int.mul_ediv_add_emod A D
  rw [Int.mul_sub, Int.mul_one]; lia
 rw [e, Int.add_mul_emod_self_left, Int.add_mul_ediv_left _ _ (by lia), Int.emod_eq_of_lt (by lia) (by lia), Int.ediv_eq_zero_of_lt (by lia) (by lia)]
 lia
theorem lawG {z W : Int} {cs1 cs2 : List (Addr × Obj)} {K : KF} (hz : z = 2 ∨ z = 3) (next : ∀ μ ν, ν[1]? = some (tb1 cs1) → ν[2]? = some (tb2 cs2) → K (.ret (.b true)) μ ν) :
  st d_law bl_lawG K [.u, .u, .i W, .u, .u, .u, .u, .u, .u, .u, .u, .u, .u, .i (3 + W % 3), .u, .u, .u, .u, .o 7, .u, .u, .u, .u, .u] [.junk, tb1 cs1, tb2 cs2, .junk, .junk, .cell (.i z), .junk, .ro (waysF (3 + W % 3) z)] := by
 have Nm := nums_at W hz
 refine el_AAAAA (rows_at W hz) fun _ _ _ h4 _ h6 => ?_
 rw [← h4] at Nm
 clear h4
 have hb : 10 ≤ 10 + W % 30 ∧ 10 + W % 30 < 40 := by grind only
 have hm : 3 ≤ 3 + W % 3 ∧ 3 + W % 3 ≤ 5 := by lia
 refine ⟨by decide, by lia, ?_⟩
 generalize 10 + W % 30 = b at *
 generalize 3 + W % 3 = m at *
 generalize waysF m z = ws at *
 have bz := Int.mul_le_mul (show b ≤ 40 by exact Int.le_of_lt (Int.lt_of_lt_of_le (And.right (by assumption)) (by decide))) (show z ≤ 3 by lia) (by lia) (by decide)
 have bz0 := Int.mul_nonneg (show 0 ≤ b by lia) (show 0 ≤ z by lia)
 refine for2 (fun (A D : Int) => [.u, .u, .i W, .u, .u, .u, .u, .u, .u, .u, .u, .u, .u, .i (m), .u, .u, .u, .u, .o 7, .i (b), .i A, .i D, .u, .u]) (fun _ _ => [.junk, tb1 cs1, tb2 cs2, .junk, .junk, .cell (.i z), .junk, .ro ws]) (fun n A D => A = mulF (b * z) n ∧ D = mulF b n) (in2 [false, false, true, false, false, false, false, false, false, false, false, false, false, true, false, false, false, false, true, true, true, true, false, false] [false, true, true, false, false, true, false, true] 1 1 rfl rfl rfl ⟨rfl, rfl⟩) (fun n A D hn p => ?_) fun A D p => ?_
 ·have hn : n < m.toNat := by have : n < (m + 1 - 1).toNat := hn; lia
  have hk := Nm.k n hn
  have k1 := Int.mul_le_mul (show b * z ≤ 120 by assumption) (show 1 + (n : Int) ≤ 5 by grind only) (by exact Int.natCast_nonneg _) (by decide)
  have k2 := Int.mul_nonneg bz0 (show 0 ≤ 1 + (n : Int) by exact Int.natCast_nonneg _)
  have k3 := Int.mul_le_mul (show b ≤ 40 by exact Int.le_of_lt (Int.lt_of_lt_of_le (And.right (by assumption)) (by decide))) (show 1 + (n : Int) ≤ 5 by lia) (by exact Int.natCast_nonneg _) (by decide)
  have k4 := Int.mul_nonneg (show 0 ≤ b by lia) (show 0 ≤ 1 + (n : Int) by exact Int.natCast_nonneg _)
  rw [← p.1, ← p.2] at hk
  exact ⟨IntMulOk.of_left (intBits_le_64 (by lia) (by exact Int.lt_of_lt_of_le (And.right (by assumption)) (by decide))), IntMulOk.of_right (intBits_le_64 (by exact Int.natCast_nonneg _) (by lia)), ⟨k2, by exact Int.le_trans (by assumption) (by decide), by decide⟩, hk.1, IntMulOk.of_left (intBits_le_64 (by lia) (by exact Int.lt_of_lt_of_le (And.right (by assumption)) (by decide))), ⟨k4, by exact Int.le_trans (by assumption) (by decide), by decide⟩, hk.2, in2 [false, false, true, false, false, false, false, false, false, false, false, false, false, true, false, false, false, false, true, true, true, true, false, false] [false, true, true, false, false, true, false, true] _ _ rfl rfl rfl ⟨by rw [p.1]; rfl, by rw [p.2]; rfl⟩⟩
 ·obtain ⟨rfl, rfl⟩ := p
  rw [show (m + 1 - 1).toNat = m.toNat by lia]
  refine el_AAAA (Nm.q) fun q1 q2 q3 q4 q5 => ?_
  have mq := minus_q Nm.h Nm.r
  have d := Nm.d
  have d2 : DvC (-(1 - mulF (b * z) m.toNat) - 1) (mulF b m.toNat) := by rw [show -(1 - mulF (b * z) m.toNat) - 1 = mulF (b * z) m.toNat - 2 by lia]; exact Nm.d2
  have r := Nm.r
  have w := Nm.w
  generalize mulF (b * z) m.toNat = A at *
  generalize mulF b m.toNat = D at *
  have hw : 1 ≤ ws.length := by exact Nat.zero_lt_of_lt (by assumption)
  refine Or.inl ⟨⟨⟨1, cs1, rfl⟩, ⟨2, cs2, rfl⟩, d⟩, _, _, rfl, fun _ => ⟨⟨1, cs1, rfl⟩, ws.length, ⟨q1, by lia, by exact Int.le_of_lt (Int.lt_of_lt_of_le (And.right (by assumption)) (by decide)), q2, hw, q3, q4⟩, fun ds l1 l2 l3 => ?_⟩, fun h => absurd (decide_eq_true r) h⟩
  obtain rfl := digV_inj b.toNat ds ws l1 l2 w (l3.trans q5.symm)
  refine ⟨fun h => absurd rfl h, fun _ => Or.inr ⟨⟨⟨1, cs1, rfl⟩, ⟨2, cs2, rfl⟩, d2⟩, ⟨2, cs2, rfl⟩, ⟨fun e => by rw [e] at hw; exact absurd hw (by decide), q3, by lia, by exact Int.le_of_lt (Int.lt_of_lt_of_le (And.right (by assumption)) (by decide)), w⟩, _, _, _, _, rfl, rfl, ?_⟩⟩
  show K (.ret (.b (decide (_ ∧ _)))) _ _
  rw [decide_eq_true (show _ ∧ _ from ⟨mq.1.trans (congrArg _ q5.symm), mq.2⟩)]
  exact next _ _ rfl rfl
end Mine
end
section
namespace Mine
open PySem PySem.W PySem.Calls PySem.Spec PyProof.Rows
noncomputable def extract {v : Program} {n : Str} {d : DefRec} {a : List (Str × Expr)} (_ : defOf v n = some (d, a)) : DefRec := d
noncomputable def lawD : DefRec := extract (v := Mine.pre.view_1_2) (n := Str.ofString "law") rfl
noncomputable abbrev lawEnv (L fa : Addr) (cd : Value) : Env := envOfC lawD.name lawD.scope L fa cd
end Mine
end
section
namespace Mine
open PySem PySem.W PySem.Calls PySem.Spec PyProof.Rows
theorem law_raw : B.raw d_law bl_lawA = lawD.body := by rfl
theorem parts_ok {ns : List Int} (hl : ns.length ≤ 63) : PsOk (2 + (ns.length : Int) % 2) (lawParts ns) := by
 have d := drawn_len ns
 refine ⟨by lia, fun x hx => ?_, ?_, fun e => ?_⟩
 ·refine el_EA (List.mem_flatMap.mp hx) fun y _ hy => ?_
  rw [List.eq_of_mem_replicate hy]; lia
 ·have := drawn_parts (drawnF ns) (drawnF ns).length
  rw [List.take_length] at this
  exact Nat.le_trans this (by lia)
 ·have e := List.flatMap_eq_nil_iff.mp e
  obtain ⟨x, hx⟩ := List.exists_mem_of_length_pos (show 0 < (drawnF ns).length by lia)
  have := congrArg List.length (e x hx)
  unfold partsOf at this
  rw [List.length_replicate, List.length_nil] at this
  lia
noncomputable def PLaw : SV → Nu → Prop := fun sv ν => sv = .b true ∧ ν[1]? = some (tb1 []) ∧ ν[2]? = some (tb2 [])
theorem law_st {ns : List Int} (hl : ns.length ≤ 63) : st d_law bl_lawA (retK PLaw) [.o 0, .u, .u, .u, .u, .u, .u, .u, .u, .u, .u, .u, .u, .u, .u, .u, .u, .u, .u, .u, .u, .u, .u, .u] [.ro ns, tb1 [], tb2 [], .cell .u, .cell .u, .cell .u] :=
 let P := parts_ok hl
 lawA hl (lawP (lawB P (lawC P (lawD' P (lawE P (lawF P.z (lawG P.z fun _ _ e1 e2 => ⟨rfl, e1, e2⟩)))))))
theorem law_gt : GtOk fn_law := GtOk.of fun _ => ⟨⟨rfl, rfl⟩, ⟨rfl, rfl⟩, ⟨rfl, rfl⟩, ⟨rfl, rfl⟩, ⟨rfl, rfl⟩, ⟨rfl, rfl⟩, ⟨rfl, rfl⟩, ⟨rfl, rfl⟩, ⟨rfl, rfl⟩, ⟨rfl, rfl⟩, ⟨rfl, rfl⟩, ⟨rfl, rfl⟩, ⟨rfl, rfl⟩, ⟨rfl, rfl⟩, ⟨rfl, rfl⟩, ⟨rfl, rfl⟩, trivial⟩
noncomputable abbrev lawS (w : World) (G0 : Heap) (L fa : Addr) (cd : Value) (fm : Str → Option Value) : Sit := Sit.of w (callerA.deeper (lawEnv L fa cd)) G0 L (lawEnv L fa cd) d_law fm
theorem law_ok {w : World} {G0 : Heap} {L fa : Addr} {cd : Value} {fm : Str → Option Value} (X : Rdy w G0) : Ok (lawS w G0 L fa cd fm) :=
 ⟨NmOk.of (F := fn_law) (by rfl) law_gt rfl rfl, (show fn_law.ns.Nodup by decide), rfl, (show 4 + 3 + 66 < cLine by decide), X, fun fm pin own q vs ν μ K args s ad k H hr => by
  cases e : Nat.beq 180 q with
  | true =>
   have e := Nat.eq_of_beq_eq_true e
   subst e
   exact rea_ok (env0 := lawEnv L fa cd) rfl rfl rfl X vs ν μ K args s ad k H hr
  | false =>
   have k : (match Nat.beq 180 q with | true => C_rea vs ν fun v ν => K v μ ν | false => lookC cl_law q vs ν fun v ν => K v μ ν) := k
   rw [e] at k
   exact CsOk.of (D := 301) (U := 4) (fr := some []) (gd := some []) (env := lawEnv L fa cd) rfl X good_cl q vs ν μ K args s ad k H hr,
  CompL.all (F := fn_law) rfl rfl rfl (show CompL fn_law (lawEnv L fa cd) [cd_law0, cd_law1, cd_law2, cd_law3, cd_law4] from ⟨⟨_, rfl, rfl, rfl, fun _ => trivial, trivial⟩, ⟨_, rfl, rfl, rfl, fun _ => trivial, trivial⟩, ⟨_, rfl, rfl, rfl, fun _ => trivial, ⟨⟨(.tail _ (.tail _ (.head _))), rfl⟩, trivial⟩⟩, ⟨_, rfl, rfl, rfl, fun _ => trivial, ⟨⟨(.tail _ (.head _)), rfl⟩, ⟨(.head _), rfl⟩, trivial⟩⟩, ⟨_, rfl, rfl, rfl, fun _ => trivial, trivial⟩, trivial⟩)⟩
theorem law_run {w : World} {G0 : Heap} {L fa ls : Addr} {cd : Value} {vs : List Value} {nl : Nat} {ns : List Int} {m : Str → Option Value} {ol od oz : Obj} {vl vd vz : Option Value} {s : Shared} {p : Program} {loose : List Str} {mean : ExcName → Option Value} {mg mb : Str → Option Value} {Q : Flow → Shared → Prop} {E : Value → Shared → Prop}
  (X : (H39 w).In G0) (T : Top p loose mean mg mb G0) (F : Fr G0 L s.heap m) (N : News G0 L s.heap [(L + 1 + 1 + 1, ol), (L + 1 + 1, od), (L + 1, oz), (68, tabObj #[]), (61, tabObj #[])]) (hm : m (Str.ofString "script") = some (.ref ls))
  (hol : ol.data = .cell vl) (hod : od.data = .cell vd) (hoz : oz.data = .cell vz) (hls : G0.get? ls = some (listOf vs.toArray nl)) (hI : IntsAre vs ns) (hl : ns.length ≤ 63) (lt : @LT.lt Nat _ 68 L ∧ @LT.lt Nat _ 61 L)
  (ret : ∀ h tk m', Fr G0 L h m' → GrownAt 68 h → GrownAt 61 h → Q (.ret (.bool true)) { s with heap := h, toks := tk }) :
  wpAny (model P0 w) (callerA.deeper (lawEnv L fa cd)) (execs lawD.body (lawEnv L fa cd)) Q E s := by
 have Rd : Rdy w G0 := ⟨X, p, loose, mean, mg, mb, T⟩
 have nd : ([((61 : Addr), tabObj #[]), (68, tabObj #[]), (L + 1 + 1 + 1, ol), (L + 1 + 1, od), (L + 1, oz)].map (·.1)).Nodup := by
  show ([61, 68, L + 1 + 1 + 1, L + 1 + 1, L + 1] : List Nat).Nodup
  have := lt.1
  have := lt.2
  simp only [List.nodup_cons, List.mem_cons, List.not_mem_nil, or_false, not_or, not_false_eq_true, List.nodup_nil, and_true]
  lia
 have H : Hd (lawS w G0 L fa cd m) s.heap [ls, 61, 68, L + 1 + 1 + 1, L + 1 + 1, L + 1] [.o 0, .u, .u, .u, .u, .u, .u, .u, .u, .u, .u, .u, .u, .u, .u, .u, .u, .u, .u, .u, .u, .u, .u, .u] [.ro ns, tb1 [], tb2 [], .cell .u, .cell .u, .cell .u] :=
  ⟨m, [(61, tabObj #[]), (68, tabObj #[]), (L + 1 + 1 + 1, ol), (L + 1 + 1, od), (L + 1, oz)], [], F, (fun q hq => by
    have hq : q ∈ [((61 : Addr), tabObj #[]), (68, tabObj #[]), (L + 1 + 1 + 1, ol), (L + 1 + 1, od), (L + 1, oz)] := by simpa [ledg] using hq
    rcases List.mem_cons.mp hq with rfl | hq
    ·exact N _ (.tail _ (.tail _ (.tail _ (.tail _ (.head _)))))
    rcases List.mem_cons.mp hq with rfl | hq
    ·exact N _ (.tail _ (.tail _ (.tail _ (.head _))))
    rcases List.mem_cons.mp hq with rfl | hq
    ·exact N _ (.head _)
    rcases List.mem_cons.mp hq with rfl | hq
    ·exact N _ (.tail _ (.head _))
    ·rw [List.mem_singleton.mp hq]; exact N _ (.tail _ (.tail _ (.head _)))), .inl ⟨rfl, rfl⟩,
   Rel.begin (S := lawS w G0 L fa cd m) ⟨.inr ⟨_, hm, ls, rfl, rfl⟩, .inl rfl, .inl rfl, .inl rfl, .inl rfl, .inl rfl, .inl rfl, .inl rfl, .inl rfl, .inl rfl, .inl rfl, .inl rfl, .inl rfl, .inl rfl, .inl rfl, .inl rfl, .inl rfl, .inl rfl, .inl rfl, .inl rfl, .inl rfl, .inl rfl, .inl rfl, .inl rfl, trivial⟩ (.fro rfl rfl (fun _ => ⟨_, ⟨vs, nl, rfl, hI⟩, hls⟩) (.own rfl ⟨rfl, .inl rfl⟩ (.own rfl ⟨rfl, .inl rfl⟩ (.own rfl ⟨_, hol⟩ (.own rfl ⟨_, hod⟩ (.own rfl ⟨_, hoz⟩ .nil)))))) nd rfl rfl (fun p hp => by
    rcases List.mem_cons.mp hp with rfl | hp
    ·exact ⟨_, rfl, rfl⟩
    rcases List.mem_cons.mp hp with rfl | hp
    ·exact ⟨_, rfl, rfl⟩
    ·rw [List.mem_singleton.mp hp]; exact ⟨_, rfl, rfl⟩)⟩
 have W := st_sound d_law bl_lawA (lawS w G0 L fa cd m) (law_ok Rd) rfl rfl m (retK PLaw) _ _ s _ (law_st hl) H
 rw [law_raw] at W
 refine wpAny_mono W ?_ fun _ _ x => x.elim
 intro fl _ q19; (refine el_EEEEEAbEEreAA q19 fun fm ad' sf μ' ν' h2 tk2 z09 => ?_; try clear q19; subst z09; intro H2 r2 k2)
 cases sf with
 | ret sv =>
  (refine el_ER r2 fun v z09 => ?_; try clear r2; subst z09; intro r2)
  (refine el_RA k2 fun z09 => ?_; try clear k2; subst z09; intro e1 e2)
  obtain rfl : v = .bool true := r2
  obtain ⟨m', nx, fz, F2, N2, l, R⟩ := H2
  have grown : ∀ {k : Nat} {P : Addr} {l c : Int} {q : Str} {cs : List (Addr × Obj)}, ν'[k]? = some (SO.tab P l c q cs) → GrownAt P h2 := fun hk => by
   (refine el_EEAAbRe (R.own hk rfl) fun a o z09 => ?_; subst z09; intro _ h h3)
   have n := (N2 _ (List.mem_append_left _ h3)).1
   rcases h with rfl | ⟨c', oc, vs, t, rfl, _⟩
   ·exact ⟨_, n⟩
   ·exact ⟨_, n⟩
  exact ret h2 tk2 _ F2 (grown e2) (grown e1)
 | _ => exact k2.elim
end Mine
end
section
namespace Mine
open PySem PySem.W PySem.Calls PySem.Spec PyProof.Rows
theorem well_list {P : Params} {h : Heap} {a : Addr} {xs : List WData} (w : Well P h (.ref a) (.list xs)) : ∃ us n, h.get? a = some (listOf us n) := by
 cases w with
 | list e _ => exact ⟨_, _, e⟩
theorem list_obj {h : Heap} {a : Addr} {tabs : List (Addr × Addr)} {vs : Array Value} {P : Params} {xs : List WData} (hT : TabsAt tabs h) (w : Well P h (.ref a) (.list xs)) (hL : h.IsList a vs) : ∃ n, (ghostOf h tabs).get? a = some (listOf vs n) := by
 refine el_EE (well_list w) fun us n e => ?_
 (refine el_EAAE hL fun o k => ?_; try clear hL; intro e1 _ e2)
 rw [e] at e1
 obtain rfl := Option.some.inj e1
 injection e2 with e2 e3
 subst e2
 exact ⟨n, ghost_get hT e fun q => by have := congrArg Obj.cls q; cases this⟩
theorem top.tw16885616592811714743 : True := trivial
theorem top.tw2464713573024523455 : True := trivial
theorem top.tw14823308797102314842 : True := trivial
theorem top.tw5667650583090716360 : True := trivial
theorem top.tw12413978512387470194 : True := trivial
theorem top.tw7008692893051332821 : True := trivial
theorem top.tw18034075008235765660 : True := trivial
theorem top.tw775762912060472103 : True := trivial
theorem top.tw8598144960395782539 : True := trivial
theorem top.tw6127594578889010139 : True := trivial
theorem top.tw10674252106467599216 : True := trivial
theorem top.tw11133666699803404755 : True := trivial
theorem top.tw11334350811105764591 : True := trivial
theorem top.tw5244899138074338376 : True := trivial
theorem top.tw1869187583165140508 : True := trivial
theorem top.tw3730354652608582461 : True := trivial
theorem top.tw908825868028484722 : True := trivial
theorem top.tw453181688931711583 : True := trivial
theorem top.tw13345470168829271861 : True := trivial
theorem top.tw6812286434817487243 : True := trivial
theorem top.tw16439428074185983240 : True := trivial
theorem top.tw11858546649754279707 : True := trivial
theorem top.tw1195175773429642966 : True := trivial
theorem top.tw5225153198818245361 : True := trivial
theorem top.tw390997316461189296 : True := trivial
theorem top.tw8735323631387419056 : True := trivial
theorem top.tw8645369167282567922 : True := trivial
theorem top.tw15121013196199955635 : True := trivial
theorem top.tw1284575025550258836 : True := trivial
theorem top.tw8689318265317240412 : True := trivial
theorem top.tw13272337422414781067 : True := trivial
theorem top.tw11364231302868200999 : True := trivial
theorem top.tw13359135706311490777 : True := trivial
theorem top.tw11762496359356365647 : True := trivial
theorem top.tw13370750898655102155 : True := trivial
theorem top.tw5088376156974544275 : True := trivial
theorem top.tw1149218181149386328 : True := trivial
theorem top.tw18064794426631996164 : True := trivial
theorem top.tw7847650389618582240 : True := trivial
theorem top.tw14901070454687303710 : True := trivial
theorem top.tw1275901062530889299 : True := trivial
theorem top.tw12342655685612074800 : True := trivial
theorem top.tw14826035006057030972 : True := trivial
theorem top.tw10936122117785486979 : True := trivial
theorem top.tw16759092144687519636 : True := trivial
theorem top.tw1676862907878916244 : True := trivial
theorem top.tw4390711018229674620 : True := trivial
theorem top.tw10172462246102229377 : True := trivial
theorem top.tw2126296398998916975 : True := trivial
theorem top.tw6919701780365589675 : True := trivial
theorem top.tw12819366960792805191 : True := trivial
theorem top.tw17810072253543177317 : True := trivial
theorem top.tw3623408313619004113 : True := trivial
theorem top.tw8402414725298328737 : True := trivial
theorem top.tw17323899518341599180 : True := trivial
theorem top.tw5058314954733539658 : True := trivial
theorem top.tw4713442408853163898 : True := trivial
theorem top.tw13402128926626087128 : True := trivial
theorem top.tw8265191368974092141 : True := trivial
theorem top.tw2822501910515967889 : True := trivial
theorem top.tw2731995056826638727 : True := trivial
theorem top.tw15058813355848621054 : True := trivial
theorem top.tw9063741608606530840 : True := trivial
theorem top.tw15503665604740900718 : True := trivial
theorem top.tw5581607755468803823 : True := trivial
theorem top.tw6664487174759623829 : True := trivial
theorem top.tw1212798325632107971 : True := trivial
theorem top.tw11613256710310857696 : True := trivial
theorem top.tw11459358961799972967 : True := trivial
theorem top.tw8184561461823581802 : True := trivial
theorem top.tw11423202765487971197 : True := trivial
theorem top.tw2462062305354472974 : True := trivial
theorem top.tw16352630495959832749 : True := trivial
theorem top.tw11960245374511038805 : True := trivial
theorem top.tw9059672392935016618 : True := trivial
theorem top.tw4655869559712951663 : True := trivial
theorem top.tw16155163154822807229 : True := trivial
theorem top.tw9601329371697537090 : True := trivial
theorem top.tw16782997733028217545 : True := trivial
theorem top.tw728428047077509346 : True := trivial
theorem top.tw72247145696351765 : True := trivial
theorem top.tw5118827330378232414 : True := trivial
theorem top.tw6520327441239513222 : True := trivial
theorem top.tw16900427199656544559 : True := trivial
theorem top.tw2057334267981633021 : True := trivial
theorem top.tw14459580976405569124 : True := trivial
theorem top.tw9614876229902214918 : True := trivial
theorem top.tw6286779285267259847 : True := trivial
theorem top.tw10404823597219466188 : True := trivial
theorem top.tw18008055252877512497 : True := trivial
theorem top.tw12392516345856041104 : True := trivial
theorem top.tw5105846836358774362 : True := trivial
theorem top.tw9800703332001039478 : True := trivial
theorem top.tw15985961358823992270 : True := trivial
theorem top.tw14917401599646851644 : True := trivial
theorem top.tw705360758644809490 : True := trivial
theorem top.tw5597187220613765494 : True := trivial
theorem top.tw11430207588045935325 : True := trivial
theorem top.tw2732273902793177162 : True := trivial
theorem top.tw4159251561096739476 : True := trivial
theorem top.tw10773188271377071773 : True := trivial
theorem top.tw4186445540838780016 : True := trivial
theorem top.tw18164388396756303480 : True := trivial
theorem top.tw2812155379371279736 : True := trivial
theorem top.tw5303079699428457377 : True := trivial
theorem top.tw1732150942055357024 : True := trivial
theorem top.tw16174758807025615021 : True := trivial
theorem top.tw6187478851450931391 : True := trivial
theorem top.tw15878805988109762761 : True := trivial
theorem top.tw18086089286151905521 : True := trivial
theorem top.tw6240723676877644813 : True := trivial
theorem top.tw13120753694373217308 : True := trivial
theorem top.tw5155950481276406077 : True := trivial
theorem top.tw9259421805112917234 : True := trivial
theorem top.tw16795567611416646642 : True := trivial
theorem top.tw2218668502564051296 : True := trivial
theorem top.tw16541100652227675460 : True := trivial
theorem top.tw8538268897159353584 : True := trivial
theorem top.tw11279390925490393535 : True := trivial
theorem top.tw17886615442053742456 : True := trivial
theorem top.tw2287823674025257028 : True := trivial
theorem top.tw3561193834555079511 : True := trivial
theorem top.tw11546936639936008217 : True := trivial
theorem top.tw1677888958687143801 : True := trivial
theorem top.tw105208000716104510 : True := trivial
theorem top.tw1492452104121835379 : True := trivial
theorem top.tw9378254376102152143 : True := trivial
theorem top.tw1736530178072539846 : True := trivial
theorem top.tw6859976401760118174 : True := trivial
theorem top.tw17470836177267949868 : True := trivial
theorem top.tw4498253355057717688 : True := trivial
theorem top.tw1139600151236580504 : True := trivial
theorem top.tw10703516329204539289 : True := trivial
theorem top.tw13303987763403120937 : True := trivial
theorem top.tw12622177474791663080 : True := trivial
theorem top.tw8892184565913893157 : True := trivial
theorem top.tw4656485037274611717 : True := trivial
theorem top.tw16273406610938067001 : True := trivial
theorem top.tw9759319705405543751 : True := trivial
theorem top.tw17315540178315561739 : True := trivial
theorem top.tw15059952678800108311 : True := trivial
theorem top.tw7652560490529028683 : True := trivial
theorem top.tw12535971307161669396 : True := trivial
theorem top.tw12643491718579748851 : True := trivial
theorem top.tw1047907039808853306 : True := trivial
theorem top.tw6898770573198911631 : True := trivial
theorem top.tw4299629679881509495 : True := trivial
theorem top.tw15860264024139754761 : True := trivial
theorem top.tw8813761850579938390 : True := trivial
theorem top.tw10567129059001840431 : True := trivial
theorem top.tw1245559373397905713 : True := trivial
theorem top.tw12376051458212225564 : True := trivial
theorem top.tw16420938139371093754 : True := trivial
theorem top.tw6883741973766446791 : True := trivial
theorem top.tw3768957769849046624 : True := trivial
theorem top.tw14851680436948445374 : True := trivial
theorem top.tw18186074749648716422 : True := trivial
theorem top.tw788273225186049534 : True := trivial
theorem top.tw12318557346453588183 : True := trivial
theorem top.tw2555065506035805374 : True := trivial
theorem top.tw16325430554902658873 : True := trivial
theorem top.tw14987219478266130788 : True := trivial
theorem top.tw10005945817407372193 : True := trivial
theorem top.tw2867133514656366558 : True := trivial
theorem top.tw4222834699490386671 : True := trivial
theorem top.tw15299407806266782574 : True := trivial
theorem top.tw5969682004907312646 : True := trivial
theorem top.tw14597223018079223185 : True := trivial
theorem top.tw2924597203103170677 : True := trivial
theorem top.tw9631074621892390191 : True := trivial
theorem top.tw342308947776675178 : True := trivial
theorem top.tw2617719716777270872 : True := trivial
theorem top.tw4205137553216949640 : True := trivial
theorem top.tw14282377253939248939 : True := trivial
theorem top.tw9059832203979395877 : True := trivial
theorem top.tw956942650209027819 : True := trivial
theorem top.tw15240379268576122478 : True := trivial
theorem top.tw8363718466572441477 : True := trivial
theorem top.tw15169761463676818070 : True := trivial
theorem top.tw12094960947251128927 : True := trivial
theorem top.tw6756868429301003459 : True := trivial
theorem top.tw9305691244287143441 : True := trivial
theorem top.tw17555251805378815213 : True := trivial
theorem top.tw8810280945414196856 : True := trivial
theorem top.tw10648311167861321448 : True := trivial
theorem top.tw1483126911874232274 : True := trivial
theorem top.tw370947364307004932 : True := trivial
theorem top.tw13264354339760550358 : True := trivial
theorem top.tw987869383939708018 : True := trivial
theorem top.tw15646934709686841381 : True := trivial
theorem top.tw12958502747184954254 : True := trivial
theorem top.tw9229161468869434483 : True := trivial
theorem top.tw795583310449317561 : True := trivial
theorem top.tw5889316905344633881 : True := trivial
theorem top.tw8443935842833279946 : True := trivial
theorem top.tw9503340733035011235 : True := trivial
theorem top.tw16204670001084760307 : True := trivial
theorem top.tw7414872774492366064 : True := trivial
theorem top.tw14390669486469195807 : True := trivial
theorem top.tw3195968871104189447 : True := trivial
theorem top.tw10448899703829047738 : True := trivial
theorem top.tw14611434983143301774 : True := trivial
theorem top.tw2514443458684651071 : True := trivial
theorem top.tw5523086135645875356 : True := trivial
theorem top.tw12385144161495827662 : True := trivial
theorem top.tw12012865196380796599 : True := trivial
theorem top.tw517144808224063464 : True := trivial
theorem top.tw13160728816969591200 : True := trivial
theorem top.tw16713831800681072344 : True := trivial
theorem top.tw575894324575664597 : True := trivial
theorem top.tw15362295582089109014 : True := trivial
theorem top.tw5868845118606482295 : True := trivial
theorem top.tw14861896470697024400 : True := trivial
theorem top.tw15177526630643400193 : True := trivial
theorem top.tw864819663365544661 : True := trivial
theorem top.tw3776753064480771068 : True := trivial
theorem top.tw81815255157605957 : True := trivial
theorem top.tw15569959144833144457 : True := trivial
theorem top.tw4321519831107876412 : True := trivial
theorem top.tw9108098604805947806 : True := trivial
theorem top.tw8640399195822439974 : True := trivial
theorem top.tw13091174067606910046 : True := trivial
theorem top.tw8345894832289464959 : True := trivial
theorem top.tw17486766287000646611 : True := trivial
theorem top.tw7673058066778466091 : True := trivial
theorem top.tw16244016724233402469 : True := trivial
set_option Elab.async true
theorem top : PySem.Challenge.rw_us0024_01.Holds := by
 w_on
 o_law
 k_head
 (case hw => w_witness2)
 show WalkO Mine.pre.view_1_2 _ (XL Mine.pre.view_1_2 _) (kmHook Mine.pre.heap_1_1 _ _ _).says _ _ _ _
 w_strict (
 k_go0
 rename Well _ _ _ _ => w1
 obtain ⟨n, ho⟩ := list_obj hT9 (show Well _ _ _ (WData.list _) from w1) (by assumption)
 refine law_run (by assumption) (by assumption) (by assumption) (by assumption) rfl (by assumption) (by assumption) (by assumption) ho (by assumption) (by lia) (by assumption) ?_
 intro h tk m F g1 g2
 dsimp only
 refine ⟨?_, g1, g2, trivial⟩
 kc_close)
end Mine
end
theorem PySem.Challenge.cw_us0024_01_holds : PySem.Challenge.rw_us0024_01.Holds :=
 Mine.top
