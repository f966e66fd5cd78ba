import PyProof.Rows.All
import Wide.All
import OpenK.AllK
import Wide.FinOn
import Lean
import PySem.Challenge.RW_oy0345_02
set_option Elab.async false
set_option maxRecDepth 100000
set_option genSizeOf false
set_option genInjectivity false
set_option compiler.extract_closed false
set_option maxHeartbeats 8000000
noncomputable section
open PySem PySem.W PySem.Calls PySem.Spec PyProof.Rows
set_option hygiene false in
local macro_rules | `(tactic| o_shape) => `(tactic| first | (refine letP ?_; intro QQ_) | skip)
namespace Mine
section
theorem el_A {P0 P1 p : Prop} (h : P0 /\ P1) (f : P0 -> P1 -> p) : p := f h.1 h.2
theorem el_E {α0 : Sort _} {P0 : α0 -> Prop} {p : Prop} (h : ∃ x0, P0 x0) (f : ∀ x0, P0 x0 -> p) : p := h.elim fun x0 h1 => f x0 h1
theorem el_AA {P0 P1 P2 p : Prop} (h : P0 /\ P1 /\ P2) (f : P0 -> P1 -> P2 -> p) : p := f h.1 h.2.1 h.2.2
theorem el_AE {α0 : Sort _} {P0 : Prop} {P1 : α0 -> Prop} {p : Prop} (h : P0 /\ ∃ x0, P1 x0) (f : P0 -> ∀ x0, P1 x0 -> p) : p := h.2.elim fun x0 h1 => f h.1 x0 h1
theorem el_EA {α0 : Sort _} {P0 P1 : α0 -> Prop} {p : Prop} (h : ∃ x0, P0 x0 /\ P1 x0) (f : ∀ x0, P0 x0 -> P1 x0 -> p) : p := h.elim fun x0 h1 => f x0 h1.1 h1.2
theorem el_EE {α0 α1 : Sort _} {P0 : α0 -> α1 -> Prop} {p : Prop} (h : ∃ x0 x1, P0 x0 x1) (f : ∀ x0 x1, P0 x0 x1 -> p) : p := h.elim fun x0 h1 => h1.elim fun x1 h2 => f x0 x1 h2
theorem el_AAA {P0 P1 P2 P3 p : Prop} (h : P0 /\ P1 /\ P2 /\ P3) (f : P0 -> P1 -> P2 -> P3 -> p) : p := f h.1 h.2.1 h.2.2.1 h.2.2.2
theorem el_AAE {α0 : Sort _} {P0 P1 : Prop} {P2 : α0 -> Prop} {p : Prop} (h : P0 /\ P1 /\ ∃ x0, P2 x0) (f : P0 -> P1 -> ∀ x0, P2 x0 -> p) : p := h.2.2.elim fun x0 h1 => f h.1 h.2.1 x0 h1
theorem el_AEA {α0 : Sort _} {P0 : Prop} {P1 P2 : α0 -> Prop} {p : Prop} (h : P0 /\ ∃ x0, P1 x0 /\ P2 x0) (f : P0 -> ∀ x0, P1 x0 -> P2 x0 -> p) : p := h.2.elim fun x0 h1 => f h.1 x0 h1.1 h1.2
theorem el_AEE {α0 α1 : Sort _} {P0 : Prop} {P1 : α0 -> α1 -> Prop} {p : Prop} (h : P0 /\ ∃ x0 x1, P1 x0 x1) (f : P0 -> ∀ x0 x1, P1 x0 x1 -> p) : p := h.2.elim fun x0 h1 => h1.elim fun x1 h2 => f h.1 x0 x1 h2
theorem el_EAA {α0 : Sort _} {P0 P1 P2 : α0 -> Prop} {p : Prop} (h : ∃ x0, P0 x0 /\ P1 x0 /\ P2 x0) (f : ∀ x0, P0 x0 -> P1 x0 -> P2 x0 -> p) : p := h.elim fun x0 h1 => f x0 h1.1 h1.2.1 h1.2.2
theorem el_EEA {α0 α1 : Sort _} {P0 P1 : α0 -> α1 -> Prop} {p : Prop} (h : ∃ x0 x1, P0 x0 x1 /\ P1 x0 x1) (f : ∀ x0 x1, P0 x0 x1 -> P1 x0 x1 -> p) : p := h.elim fun x0 h1 => h1.elim fun x1 h2 => f x0 x1 h2.1 h2.2
theorem el_EEE {α0 α1 α2 : Sort _} {P0 : α0 -> α1 -> α2 -> Prop} {p : Prop} (h : ∃ x0 x1 x2, P0 x0 x1 x2) (f : ∀ x0 x1 x2, P0 x0 x1 x2 -> p) : p := h.elim fun x0 h1 => h1.elim fun x1 h2 => h2.elim fun x2 h3 => f x0 x1 x2 h3
theorem el_AAAA {P0 P1 P2 P3 P4 p : Prop} (h : P0 /\ P1 /\ P2 /\ P3 /\ P4) (f : P0 -> P1 -> P2 -> P3 -> P4 -> p) : p := f h.1 h.2.1 h.2.2.1 h.2.2.2.1 h.2.2.2.2
theorem el_AAEA {α0 : Sort _} {P0 P1 : Prop} {P2 P3 : α0 -> Prop} {p : Prop} (h : P0 /\ P1 /\ ∃ x0, P2 x0 /\ P3 x0) (f : P0 -> P1 -> ∀ x0, P2 x0 -> P3 x0 -> p) : p := h.2.2.elim fun x0 h1 => f h.1 h.2.1 x0 h1.1 h1.2
theorem el_AEAA {α0 : Sort _} {P0 : Prop} {P1 P2 P3 : α0 -> Prop} {p : Prop} (h : P0 /\ ∃ x0, P1 x0 /\ P2 x0 /\ P3 x0) (f : P0 -> ∀ x0, P1 x0 -> P2 x0 -> P3 x0 -> p) : p := h.2.elim fun x0 h1 => f h.1 x0 h1.1 h1.2.1 h1.2.2
theorem el_EAAA {α0 : Sort _} {P0 P1 P2 P3 : α0 -> Prop} {p : Prop} (h : ∃ x0, P0 x0 /\ P1 x0 /\ P2 x0 /\ P3 x0) (f : ∀ x0, P0 x0 -> P1 x0 -> P2 x0 -> P3 x0 -> p) : p := h.elim fun x0 h1 => f x0 h1.1 h1.2.1 h1.2.2.1 h1.2.2.2
theorem el_EAAE {α0 α1 : Sort _} {P0 P1 : α0 -> Prop} {P2 : α0 -> α1 -> Prop} {p : Prop} (h : ∃ x0, P0 x0 /\ P1 x0 /\ ∃ x1, P2 x0 x1) (f : ∀ x0, P0 x0 -> P1 x0 -> ∀ x1, P2 x0 x1 -> p) : p := h.elim fun x0 h1 => h1.2.2.elim fun x1 h2 => f x0 h1.1 h1.2.1 x1 h2
theorem el_EAEA {α0 α1 : Sort _} {P0 : α0 -> Prop} {P1 P2 : α0 -> α1 -> Prop} {p : Prop} (h : ∃ x0, P0 x0 /\ ∃ x1, P1 x0 x1 /\ P2 x0 x1) (f : ∀ x0, P0 x0 -> ∀ x1, P1 x0 x1 -> P2 x0 x1 -> p) : p := h.elim fun x0 h1 => h1.2.elim fun x1 h2 => f x0 h1.1 x1 h2.1 h2.2
theorem el_EEAA {α0 α1 : Sort _} {P0 P1 P2 : α0 -> α1 -> Prop} {p : Prop} (h : ∃ x0 x1, P0 x0 x1 /\ P1 x0 x1 /\ P2 x0 x1) (f : ∀ x0 x1, P0 x0 x1 -> P1 x0 x1 -> P2 x0 x1 -> p) : p := h.elim fun x0 h1 => h1.elim fun x1 h2 => f x0 x1 h2.1 h2.2.1 h2.2.2
theorem el_EEEA {α0 α1 α2 : Sort _} {P0 P1 : α0 -> α1 -> α2 -> Prop} {p : Prop} (h : ∃ x0 x1 x2, P0 x0 x1 x2 /\ P1 x0 x1 x2) (f : ∀ x0 x1 x2, P0 x0 x1 x2 -> P1 x0 x1 x2 -> p) : p := h.elim fun x0 h1 => h1.elim fun x1 h2 => h2.elim fun x2 h3 => f x0 x1 x2 h3.1 h3.2
theorem el_EEEE {α0 α1 α2 α3 : Sort _} {P0 : α0 -> α1 -> α2 -> α3 -> Prop} {p : Prop} (h : ∃ x0 x1, ∃ x2 x3, P0 x0 x1 x2 x3) (f : ∀ x0 x1, ∀ x2 x3, P0 x0 x1 x2 x3 -> p) : p := h.elim fun x0 h1 => h1.elim fun x1 h2 => h2.elim fun x2 h3 => h3.elim fun x3 h4 => f x0 x1 x2 x3 h4
theorem el_AAAAA {P0 P1 P2 P3 P4 P5 p : Prop} (h : P0 /\ P1 /\ P2 /\ P3 /\ P4 /\ P5) (f : P0 -> P1 -> P2 -> P3 -> P4 -> P5 -> p) : p := f h.1 h.2.1 h.2.2.1 h.2.2.2.1 h.2.2.2.2.1 h.2.2.2.2.2
theorem el_EAAAA {α0 : Sort _} {P0 P1 P2 P3 P4 : α0 -> Prop} {p : Prop} (h : ∃ x0, P0 x0 /\ P1 x0 /\ P2 x0 /\ P3 x0 /\ P4 x0) (f : ∀ x0, P0 x0 -> P1 x0 -> P2 x0 -> P3 x0 -> P4 x0 -> p) : p := h.elim fun x0 h1 => f x0 h1.1 h1.2.1 h1.2.2.1 h1.2.2.2.1 h1.2.2.2.2
theorem el_EAEEA {α0 α1 α2 : Sort _} {P0 : α0 -> Prop} {P1 P2 : α0 -> α1 -> α2 -> Prop} {p : Prop} (h : ∃ x0, P0 x0 /\ ∃ x1 x2, P1 x0 x1 x2 /\ P2 x0 x1 x2) (f : ∀ x0, P0 x0 -> ∀ x1 x2, P1 x0 x1 x2 -> P2 x0 x1 x2 -> p) : p := h.elim fun x0 h1 => h1.2.elim fun x1 h2 => h2.elim fun x2 h3 => f x0 h1.1 x1 x2 h3.1 h3.2
theorem el_EAEEE {α0 α1 α2 α3 : Sort _} {P0 : α0 -> Prop} {P1 : α0 -> α1 -> α2 -> α3 -> Prop} {p : Prop} (h : ∃ x0, P0 x0 /\ ∃ x1 x2 x3, P1 x0 x1 x2 x3) (f : ∀ x0, P0 x0 -> ∀ x1 x2 x3, P1 x0 x1 x2 x3 -> p) : p := h.elim fun x0 h1 => h1.2.elim fun x1 h2 => h2.elim fun x2 h3 => h3.elim fun x3 h4 => f x0 h1.1 x1 x2 x3 h4
theorem el_EEAAA {α0 α1 : Sort _} {P0 P1 P2 P3 : α0 -> α1 -> Prop} {p : Prop} (h : ∃ x0 x1, P0 x0 x1 /\ P1 x0 x1 /\ P2 x0 x1 /\ P3 x0 x1) (f : ∀ x0 x1, P0 x0 x1 -> P1 x0 x1 -> P2 x0 x1 -> P3 x0 x1 -> p) : p := h.elim fun x0 h1 => h1.elim fun x1 h2 => f x0 x1 h2.1 h2.2.1 h2.2.2.1 h2.2.2.2
theorem el_EEEEA {α0 α1 α2 α3 : Sort _} {P0 P1 : α0 -> α1 -> α2 -> α3 -> Prop} {p : Prop} (h : ∃ x0 x1, ∃ x2 x3, P0 x0 x1 x2 x3 /\ P1 x0 x1 x2 x3) (f : ∀ x0 x1, ∀ x2 x3, P0 x0 x1 x2 x3 -> P1 x0 x1 x2 x3 -> p) : p := h.elim fun x0 h1 => h1.elim fun x1 h2 => h2.elim fun x2 h3 => h3.elim fun x3 h4 => f x0 x1 x2 x3 h4.1 h4.2
theorem el_AAAAAA {P0 P1 P2 P3 P4 P5 P6 p : Prop} (h : P0 /\ P1 /\ P2 /\ P3 /\ P4 /\ P5 /\ P6) (f : P0 -> P1 -> P2 -> P3 -> P4 -> P5 -> P6 -> p) : p := f h.1 h.2.1 h.2.2.1 h.2.2.2.1 h.2.2.2.2.1 h.2.2.2.2.2.1 h.2.2.2.2.2.2
theorem el_AAAAAE {α0 : Sort _} {P0 P1 P2 P3 P4 : Prop} {P5 : α0 -> Prop} {p : Prop} (h : P0 /\ P1 /\ P2 /\ P3 /\ P4 /\ ∃ x0, P5 x0) (f : P0 -> P1 -> P2 -> P3 -> P4 -> ∀ x0, P5 x0 -> p) : p := h.2.2.2.2.2.elim fun x0 h1 => f h.1 h.2.1 h.2.2.1 h.2.2.2.1 h.2.2.2.2.1 x0 h1
theorem el_AAAAEA {α0 : Sort _} {P0 P1 P2 P3 : Prop} {P4 P5 : α0 -> Prop} {p : Prop} (h : P0 /\ P1 /\ P2 /\ P3 /\ ∃ x0, P4 x0 /\ P5 x0) (f : P0 -> P1 -> P2 -> P3 -> ∀ x0, P4 x0 -> P5 x0 -> p) : p := h.2.2.2.2.elim fun x0 h1 => f h.1 h.2.1 h.2.2.1 h.2.2.2.1 x0 h1.1 h1.2
theorem el_AEEEAA {α0 α1 α2 : Sort _} {P0 : Prop} {P1 P2 P3 : α0 -> α1 -> α2 -> Prop} {p : Prop} (h : P0 /\ ∃ x0 x1 x2, P1 x0 x1 x2 /\ P2 x0 x1 x2 /\ P3 x0 x1 x2) (f : P0 -> ∀ x0 x1 x2, P1 x0 x1 x2 -> P2 x0 x1 x2 -> P3 x0 x1 x2 -> p) : p := h.2.elim fun x0 h1 => h1.elim fun x1 h2 => h2.elim fun x2 h3 => f h.1 x0 x1 x2 h3.1 h3.2.1 h3.2.2
theorem el_EAEEAA {α0 α1 α2 : Sort _} {P0 : α0 -> Prop} {P1 P2 P3 : α0 -> α1 -> α2 -> Prop} {p : Prop} (h : ∃ x0, P0 x0 /\ ∃ x1 x2, P1 x0 x1 x2 /\ P2 x0 x1 x2 /\ P3 x0 x1 x2) (f : ∀ x0, P0 x0 -> ∀ x1 x2, P1 x0 x1 x2 -> P2 x0 x1 x2 -> P3 x0 x1 x2 -> p) : p := h.elim fun x0 h1 => h1.2.elim fun x1 h2 => h2.elim fun x2 h3 => f x0 h1.1 x1 x2 h3.1 h3.2.1 h3.2.2
theorem el_EEAAAA {α0 α1 : Sort _} {P0 P1 P2 P3 P4 : α0 -> α1 -> Prop} {p : Prop} (h : ∃ x0 x1, P0 x0 x1 /\ P1 x0 x1 /\ P2 x0 x1 /\ P3 x0 x1 /\ P4 x0 x1) (f : ∀ x0 x1, P0 x0 x1 -> P1 x0 x1 -> P2 x0 x1 -> P3 x0 x1 -> P4 x0 x1 -> p) : p := h.elim fun x0 h1 => h1.elim fun x1 h2 => f x0 x1 h2.1 h2.2.1 h2.2.2.1 h2.2.2.2.1 h2.2.2.2.2
theorem el_EEEAAA {α0 α1 α2 : Sort _} {P0 P1 P2 P3 : α0 -> α1 -> α2 -> Prop} {p : Prop} (h : ∃ x0 x1 x2, P0 x0 x1 x2 /\ P1 x0 x1 x2 /\ P2 x0 x1 x2 /\ P3 x0 x1 x2) (f : ∀ x0 x1 x2, P0 x0 x1 x2 -> P1 x0 x1 x2 -> P2 x0 x1 x2 -> P3 x0 x1 x2 -> p) : p := h.elim fun x0 h1 => h1.elim fun x1 h2 => h2.elim fun x2 h3 => f x0 x1 x2 h3.1 h3.2.1 h3.2.2.1 h3.2.2.2
theorem el_EAEEAAA {α0 α1 α2 : Sort _} {P0 : α0 -> Prop} {P1 P2 P3 P4 : α0 -> α1 -> α2 -> Prop} {p : Prop} (h : ∃ x0, P0 x0 /\ ∃ x1 x2, P1 x0 x1 x2 /\ P2 x0 x1 x2 /\ P3 x0 x1 x2 /\ P4 x0 x1 x2) (f : ∀ x0, P0 x0 -> ∀ x1 x2, P1 x0 x1 x2 -> P2 x0 x1 x2 -> P3 x0 x1 x2 -> P4 x0 x1 x2 -> p) : p := h.elim fun x0 h1 => h1.2.elim fun x1 h2 => h2.elim fun x2 h3 => f x0 h1.1 x1 x2 h3.1 h3.2.1 h3.2.2.1 h3.2.2.2
theorem el_EEAAAAA {α0 α1 : Sort _} {P0 P1 P2 P3 P4 P5 : α0 -> α1 -> Prop} {p : Prop} (h : ∃ x0 x1, P0 x0 x1 /\ P1 x0 x1 /\ P2 x0 x1 /\ P3 x0 x1 /\ P4 x0 x1 /\ P5 x0 x1) (f : ∀ x0 x1, P0 x0 x1 -> P1 x0 x1 -> P2 x0 x1 -> P3 x0 x1 -> P4 x0 x1 -> P5 x0 x1 -> p) : p := h.elim fun x0 h1 => h1.elim fun x1 h2 => f x0 x1 h2.1 h2.2.1 h2.2.2.1 h2.2.2.2.1 h2.2.2.2.2.1 h2.2.2.2.2.2
theorem el_EEEAAAA {α0 α1 α2 : Sort _} {P0 P1 P2 P3 P4 : α0 -> α1 -> α2 -> Prop} {p : Prop} (h : ∃ x0 x1 x2, P0 x0 x1 x2 /\ P1 x0 x1 x2 /\ P2 x0 x1 x2 /\ P3 x0 x1 x2 /\ P4 x0 x1 x2) (f : ∀ x0 x1 x2, P0 x0 x1 x2 -> P1 x0 x1 x2 -> P2 x0 x1 x2 -> P3 x0 x1 x2 -> P4 x0 x1 x2 -> p) : p := h.elim fun x0 h1 => h1.elim fun x1 h2 => h2.elim fun x2 h3 => f x0 x1 x2 h3.1 h3.2.1 h3.2.2.1 h3.2.2.2.1 h3.2.2.2.2
theorem el_EEEEAAA {α0 α1 α2 α3 : Sort _} {P0 P1 P2 P3 : α0 -> α1 -> α2 -> α3 -> Prop} {p : Prop} (h : ∃ x0 x1, ∃ x2 x3, P0 x0 x1 x2 x3 /\ P1 x0 x1 x2 x3 /\ P2 x0 x1 x2 x3 /\ P3 x0 x1 x2 x3) (f : ∀ x0 x1, ∀ x2 x3, P0 x0 x1 x2 x3 -> P1 x0 x1 x2 x3 -> P2 x0 x1 x2 x3 -> P3 x0 x1 x2 x3 -> p) : p := h.elim fun x0 h1 => h1.elim fun x1 h2 => h2.elim fun x2 h3 => h3.elim fun x3 h4 => f x0 x1 x2 x3 h4.1 h4.2.1 h4.2.2.1 h4.2.2.2
theorem el_AEEEAAAA {α0 α1 α2 : Sort _} {P0 : Prop} {P1 P2 P3 P4 P5 : α0 -> α1 -> α2 -> Prop} {p : Prop} (h : P0 /\ ∃ x0 x1 x2, P1 x0 x1 x2 /\ P2 x0 x1 x2 /\ P3 x0 x1 x2 /\ P4 x0 x1 x2 /\ P5 x0 x1 x2) (f : P0 -> ∀ x0 x1 x2, P1 x0 x1 x2 -> P2 x0 x1 x2 -> P3 x0 x1 x2 -> P4 x0 x1 x2 -> P5 x0 x1 x2 -> p) : p := h.2.elim fun x0 h1 => h1.elim fun x1 h2 => h2.elim fun x2 h3 => f h.1 x0 x1 x2 h3.1 h3.2.1 h3.2.2.1 h3.2.2.2.1 h3.2.2.2.2
theorem el_EEAEAAAA {α0 α1 α2 : Sort _} {P0 : α0 -> α1 -> Prop} {P1 P2 P3 P4 P5 : α0 -> α1 -> α2 -> Prop} {p : Prop} (h : ∃ x0 x1, P0 x0 x1 /\ ∃ x2, P1 x0 x1 x2 /\ P2 x0 x1 x2 /\ P3 x0 x1 x2 /\ P4 x0 x1 x2 /\ P5 x0 x1 x2) (f : ∀ x0 x1, P0 x0 x1 -> ∀ x2, P1 x0 x1 x2 -> P2 x0 x1 x2 -> P3 x0 x1 x2 -> P4 x0 x1 x2 -> P5 x0 x1 x2 -> p) : p := h.elim fun x0 h1 => h1.elim fun x1 h2 => h2.2.elim fun x2 h3 => f x0 x1 h2.1 x2 h3.1 h3.2.1 h3.2.2.1 h3.2.2.2.1 h3.2.2.2.2
theorem el_AEEAAAAAA {α0 α1 : Sort _} {P0 : Prop} {P1 P2 P3 P4 P5 P6 P7 : α0 -> α1 -> Prop} {p : Prop} (h : P0 /\ ∃ x0 x1, P1 x0 x1 /\ P2 x0 x1 /\ P3 x0 x1 /\ P4 x0 x1 /\ P5 x0 x1 /\ P6 x0 x1 /\ P7 x0 x1) (f : P0 -> ∀ x0 x1, P1 x0 x1 -> P2 x0 x1 -> P3 x0 x1 -> P4 x0 x1 -> P5 x0 x1 -> P6 x0 x1 -> P7 x0 x1 -> p) : p := h.2.elim fun x0 h1 => h1.elim fun x1 h2 => f h.1 x0 x1 h2.1 h2.2.1 h2.2.2.1 h2.2.2.2.1 h2.2.2.2.2.1 h2.2.2.2.2.2.1 h2.2.2.2.2.2.2
theorem el_EAEEAAAAA {α0 α1 α2 : Sort _} {P0 : α0 -> Prop} {P1 P2 P3 P4 P5 P6 : α0 -> α1 -> α2 -> Prop} {p : Prop} (h : ∃ x0, P0 x0 /\ ∃ x1 x2, P1 x0 x1 x2 /\ P2 x0 x1 x2 /\ P3 x0 x1 x2 /\ P4 x0 x1 x2 /\ P5 x0 x1 x2 /\ P6 x0 x1 x2) (f : ∀ x0, P0 x0 -> ∀ x1 x2, P1 x0 x1 x2 -> P2 x0 x1 x2 -> P3 x0 x1 x2 -> P4 x0 x1 x2 -> P5 x0 x1 x2 -> P6 x0 x1 x2 -> p) : p := h.elim fun x0 h1 => h1.2.elim fun x1 h2 => h2.elim fun x2 h3 => f x0 h1.1 x1 x2 h3.1 h3.2.1 h3.2.2.1 h3.2.2.2.1 h3.2.2.2.2.1 h3.2.2.2.2.2
theorem el_EEEEAAAAA {α0 α1 α2 α3 : Sort _} {P0 P1 P2 P3 P4 P5 : α0 -> α1 -> α2 -> α3 -> Prop} {p : Prop} (h : ∃ x0 x1, ∃ x2 x3, P0 x0 x1 x2 x3 /\ P1 x0 x1 x2 x3 /\ P2 x0 x1 x2 x3 /\ P3 x0 x1 x2 x3 /\ P4 x0 x1 x2 x3 /\ P5 x0 x1 x2 x3) (f : ∀ x0 x1, ∀ x2 x3, P0 x0 x1 x2 x3 -> P1 x0 x1 x2 x3 -> P2 x0 x1 x2 x3 -> P3 x0 x1 x2 x3 -> P4 x0 x1 x2 x3 -> P5 x0 x1 x2 x3 -> p) : p := h.elim fun x0 h1 => h1.elim fun x1 h2 => h2.elim fun x2 h3 => h3.elim fun x3 h4 => f x0 x1 x2 x3 h4.1 h4.2.1 h4.2.2.1 h4.2.2.2.1 h4.2.2.2.2.1 h4.2.2.2.2.2
theorem el_EAAAAAAAAA {α0 : Sort _} {P0 P1 P2 P3 P4 P5 P6 P7 P8 P9 : α0 -> Prop} {p : Prop} (h : ∃ x0, P0 x0 /\ P1 x0 /\ P2 x0 /\ P3 x0 /\ P4 x0 /\ P5 x0 /\ P6 x0 /\ P7 x0 /\ P8 x0 /\ P9 x0) (f : ∀ x0, P0 x0 -> P1 x0 -> P2 x0 -> P3 x0 -> P4 x0 -> P5 x0 -> P6 x0 -> P7 x0 -> P8 x0 -> P9 x0 -> p) : p := h.elim fun x0 h1 => f x0 h1.1 h1.2.1 h1.2.2.1 h1.2.2.2.1 h1.2.2.2.2.1 h1.2.2.2.2.2.1 h1.2.2.2.2.2.2.1 h1.2.2.2.2.2.2.2.1 h1.2.2.2.2.2.2.2.2.1 h1.2.2.2.2.2.2.2.2.2
theorem el_EEEEAAAEAA {α0 α1 α2 α3 α4 : Sort _} {P0 P1 P2 : α0 -> α1 -> α2 -> α3 -> Prop} {P3 P4 P5 : α0 -> α1 -> α2 -> α3 -> α4 -> Prop} {p : Prop} (h : ∃ x0 x1, ∃ x2 x3, P0 x0 x1 x2 x3 /\ P1 x0 x1 x2 x3 /\ P2 x0 x1 x2 x3 /\ ∃ x4, P3 x0 x1 x2 x3 x4 /\ P4 x0 x1 x2 x3 x4 /\ P5 x0 x1 x2 x3 x4) (f : ∀ x0 x1, ∀ x2 x3, P0 x0 x1 x2 x3 -> P1 x0 x1 x2 x3 -> P2 x0 x1 x2 x3 -> ∀ x4, P3 x0 x1 x2 x3 x4 -> P4 x0 x1 x2 x3 x4 -> P5 x0 x1 x2 x3 x4 -> p) : p := h.elim fun x0 h1 => h1.elim fun x1 h2 => h2.elim fun x2 h3 => h3.elim fun x3 h4 => h4.2.2.2.elim fun x4 h5 => f x0 x1 x2 x3 h4.1 h4.2.1 h4.2.2.1 x4 h5.1 h5.2.1 h5.2.2
theorem el_AAEEEEEAAAAA {α0 α1 α2 α3 α4 : Sort _} {P0 P1 : Prop} {P2 P3 P4 P5 P6 P7 : α0 -> α1 -> α2 -> α3 -> α4 -> Prop} {p : Prop} (h : P0 /\ P1 /\ ∃ x0 x1, ∃ x2 x3 x4, P2 x0 x1 x2 x3 x4 /\ P3 x0 x1 x2 x3 x4 /\ P4 x0 x1 x2 x3 x4 /\ P5 x0 x1 x2 x3 x4 /\ P6 x0 x1 x2 x3 x4 /\ P7 x0 x1 x2 x3 x4) (f : P0 -> P1 -> ∀ x0 x1, ∀ x2 x3 x4, P2 x0 x1 x2 x3 x4 -> P3 x0 x1 x2 x3 x4 -> P4 x0 x1 x2 x3 x4 -> P5 x0 x1 x2 x3 x4 -> P6 x0 x1 x2 x3 x4 -> P7 x0 x1 x2 x3 x4 -> p) : p := h.2.2.elim fun x0 h1 => h1.elim fun x1 h2 => h2.elim fun x2 h3 => h3.elim fun x3 h4 => h4.elim fun x4 h5 => f h.1 h.2.1 x0 x1 x2 x3 x4 h5.1 h5.2.1 h5.2.2.1 h5.2.2.2.1 h5.2.2.2.2.1 h5.2.2.2.2.2
theorem el_EEEEEEEAAAAA {α0 α1 α2 α3 α4 α5 α6 : Sort _} {P0 P1 P2 P3 P4 P5 : α0 -> α1 -> α2 -> α3 -> α4 -> α5 -> α6 -> Prop} {p : Prop} (h : ∃ x0 x1, ∃ x2 x3, ∃ x4 x5 x6, P0 x0 x1 x2 x3 x4 x5 x6 /\ P1 x0 x1 x2 x3 x4 x5 x6 /\ P2 x0 x1 x2 x3 x4 x5 x6 /\ P3 x0 x1 x2 x3 x4 x5 x6 /\ P4 x0 x1 x2 x3 x4 x5 x6 /\ P5 x0 x1 x2 x3 x4 x5 x6) (f : ∀ x0 x1, ∀ x2 x3, ∀ x4 x5 x6, P0 x0 x1 x2 x3 x4 x5 x6 -> P1 x0 x1 x2 x3 x4 x5 x6 -> P2 x0 x1 x2 x3 x4 x5 x6 -> P3 x0 x1 x2 x3 x4 x5 x6 -> P4 x0 x1 x2 x3 x4 x5 x6 -> P5 x0 x1 x2 x3 x4 x5 x6 -> p) : p := h.elim fun x0 h1 => h1.elim fun x1 h2 => h2.elim fun x2 h3 => h3.elim fun x3 h4 => h4.elim fun x4 h5 => h5.elim fun x5 h6 => h6.elim fun x6 h7 => f x0 x1 x2 x3 x4 x5 x6 h7.1 h7.2.1 h7.2.2.1 h7.2.2.2.1 h7.2.2.2.2.1 h7.2.2.2.2.2
theorem el_AEEEEEEAAAAAAA {α0 α1 α2 α3 α4 α5 : Sort _} {P0 : Prop} {P1 P2 P3 P4 P5 P6 P7 P8 : α0 -> α1 -> α2 -> α3 -> α4 -> α5 -> Prop} {p : Prop} (h : P0 /\ ∃ x0 x1, ∃ x2 x3, ∃ x4 x5, P1 x0 x1 x2 x3 x4 x5 /\ P2 x0 x1 x2 x3 x4 x5 /\ P3 x0 x1 x2 x3 x4 x5 /\ P4 x0 x1 x2 x3 x4 x5 /\ P5 x0 x1 x2 x3 x4 x5 /\ P6 x0 x1 x2 x3 x4 x5 /\ P7 x0 x1 x2 x3 x4 x5 /\ P8 x0 x1 x2 x3 x4 x5) (f : P0 -> ∀ x0 x1, ∀ x2 x3, ∀ x4 x5, P1 x0 x1 x2 x3 x4 x5 -> P2 x0 x1 x2 x3 x4 x5 -> P3 x0 x1 x2 x3 x4 x5 -> P4 x0 x1 x2 x3 x4 x5 -> P5 x0 x1 x2 x3 x4 x5 -> P6 x0 x1 x2 x3 x4 x5 -> P7 x0 x1 x2 x3 x4 x5 -> P8 x0 x1 x2 x3 x4 x5 -> p) : p := h.2.elim fun x0 h1 => h1.elim fun x1 h2 => h2.elim fun x2 h3 => h3.elim fun x3 h4 => h4.elim fun x4 h5 => h5.elim fun x5 h6 => f h.1 x0 x1 x2 x3 x4 x5 h6.1 h6.2.1 h6.2.2.1 h6.2.2.2.1 h6.2.2.2.2.1 h6.2.2.2.2.2.1 h6.2.2.2.2.2.2.1 h6.2.2.2.2.2.2.2
theorem el_AAAEEEEEEAAAAAAA {α0 α1 α2 α3 α4 α5 : Sort _} {P0 P1 P2 : Prop} {P3 P4 P5 P6 P7 P8 P9 P10 : α0 -> α1 -> α2 -> α3 -> α4 -> α5 -> Prop} {p : Prop} (h : P0 /\ P1 /\ P2 /\ ∃ x0 x1, ∃ x2 x3, ∃ x4 x5, P3 x0 x1 x2 x3 x4 x5 /\ P4 x0 x1 x2 x3 x4 x5 /\ P5 x0 x1 x2 x3 x4 x5 /\ P6 x0 x1 x2 x3 x4 x5 /\ P7 x0 x1 x2 x3 x4 x5 /\ P8 x0 x1 x2 x3 x4 x5 /\ P9 x0 x1 x2 x3 x4 x5 /\ P10 x0 x1 x2 x3 x4 x5) (f : P0 -> P1 -> P2 -> ∀ x0 x1, ∀ x2 x3, ∀ x4 x5, P3 x0 x1 x2 x3 x4 x5 -> P4 x0 x1 x2 x3 x4 x5 -> P5 x0 x1 x2 x3 x4 x5 -> P6 x0 x1 x2 x3 x4 x5 -> P7 x0 x1 x2 x3 x4 x5 -> P8 x0 x1 x2 x3 x4 x5 -> P9 x0 x1 x2 x3 x4 x5 -> P10 x0 x1 x2 x3 x4 x5 -> p) : p := h.2.2.2.elim fun x0 h1 => h1.elim fun x1 h2 => h2.elim fun x2 h3 => h3.elim fun x3 h4 => h4.elim fun x4 h5 => h5.elim fun x5 h6 => f h.1 h.2.1 h.2.2.1 x0 x1 x2 x3 x4 x5 h6.1 h6.2.1 h6.2.2.1 h6.2.2.2.1 h6.2.2.2.2.1 h6.2.2.2.2.2.1 h6.2.2.2.2.2.2.1 h6.2.2.2.2.2.2.2
theorem el_EEEEEEEAAAAAAAAA {α0 α1 α2 α3 α4 α5 α6 : Sort _} {P0 P1 P2 P3 P4 P5 P6 P7 P8 P9 : α0 -> α1 -> α2 -> α3 -> α4 -> α5 -> α6 -> Prop} {p : Prop} (h : ∃ x0 x1, ∃ x2 x3, ∃ x4 x5 x6, P0 x0 x1 x2 x3 x4 x5 x6 /\ P1 x0 x1 x2 x3 x4 x5 x6 /\ P2 x0 x1 x2 x3 x4 x5 x6 /\ P3 x0 x1 x2 x3 x4 x5 x6 /\ P4 x0 x1 x2 x3 x4 x5 x6 /\ P5 x0 x1 x2 x3 x4 x5 x6 /\ P6 x0 x1 x2 x3 x4 x5 x6 /\ P7 x0 x1 x2 x3 x4 x5 x6 /\ P8 x0 x1 x2 x3 x4 x5 x6 /\ P9 x0 x1 x2 x3 x4 x5 x6) (f : ∀ x0 x1, ∀ x2 x3, ∀ x4 x5 x6, P0 x0 x1 x2 x3 x4 x5 x6 -> P1 x0 x1 x2 x3 x4 x5 x6 -> P2 x0 x1 x2 x3 x4 x5 x6 -> P3 x0 x1 x2 x3 x4 x5 x6 -> P4 x0 x1 x2 x3 x4 x5 x6 -> P5 x0 x1 x2 x3 x4 x5 x6 -> P6 x0 x1 x2 x3 x4 x5 x6 -> P7 x0 x1 x2 x3 x4 x5 x6 -> P8 x0 x1 x2 x3 x4 x5 x6 -> P9 x0 x1 x2 x3 x4 x5 x6 -> p) : p := h.elim fun x0 h1 => h1.elim fun x1 h2 => h2.elim fun x2 h3 => h3.elim fun x3 h4 => h4.elim fun x4 h5 => h5.elim fun x5 h6 => h6.elim fun x6 h7 => f x0 x1 x2 x3 x4 x5 x6 h7.1 h7.2.1 h7.2.2.1 h7.2.2.2.1 h7.2.2.2.2.1 h7.2.2.2.2.2.1 h7.2.2.2.2.2.2.1 h7.2.2.2.2.2.2.2.1 h7.2.2.2.2.2.2.2.2.1 h7.2.2.2.2.2.2.2.2.2
theorem el_EEEEEEEEEEEEEEEEEAAA {α0 α1 α2 α3 α4 α5 α6 α7 α8 α9 α10 α11 α12 α13 α14 α15 α16 : Sort _} {P0 P1 P2 P3 : α0 -> α1 -> α2 -> α3 -> α4 -> α5 -> α6 -> α7 -> α8 -> α9 -> α10 -> α11 -> α12 -> α13 -> α14 -> α15 -> α16 -> Prop} {p : Prop} (h : ∃ x0 x1, ∃ x2 x3, ∃ x4 x5, ∃ x6 x7, ∃ x8 x9, ∃ x10 x11, ∃ x12 x13, ∃ x14 x15 x16, P0 x0 x1 x2 x3 x4 x5 x6 x7 x8 x9 x10 x11 x12 x13 x14 x15 x16 /\ P1 x0 x1 x2 x3 x4 x5 x6 x7 x8 x9 x10 x11 x12 x13 x14 x15 x16 /\ P2 x0 x1 x2 x3 x4 x5 x6 x7 x8 x9 x10 x11 x12 x13 x14 x15 x16 /\ P3 x0 x1 x2 x3 x4 x5 x6 x7 x8 x9 x10 x11 x12 x13 x14 x15 x16) (f : ∀ x0 x1, ∀ x2 x3, ∀ x4 x5, ∀ x6 x7, ∀ x8 x9, ∀ x10 x11, ∀ x12 x13, ∀ x14 x15 x16, P0 x0 x1 x2 x3 x4 x5 x6 x7 x8 x9 x10 x11 x12 x13 x14 x15 x16 -> P1 x0 x1 x2 x3 x4 x5 x6 x7 x8 x9 x10 x11 x12 x13 x14 x15 x16 -> P2 x0 x1 x2 x3 x4 x5 x6 x7 x8 x9 x10 x11 x12 x13 x14 x15 x16 -> P3 x0 x1 x2 x3 x4 x5 x6 x7 x8 x9 x10 x11 x12 x13 x14 x15 x16 -> p) : p := h.elim fun x0 h1 => h1.elim fun x1 h2 => h2.elim fun x2 h3 => h3.elim fun x3 h4 => h4.elim fun x4 h5 => h5.elim fun x5 h6 => h6.elim fun x6 h7 => h7.elim fun x7 h8 => h8.elim fun x8 h9 => h9.elim fun x9 h10 => h10.elim fun x10 h11 => h11.elim fun x11 h12 => h12.elim fun x12 h13 => h13.elim fun x13 h14 => h14.elim fun x14 h15 => h15.elim fun x15 h16 => h16.elim fun x16 h17 => f x0 x1 x2 x3 x4 x5 x6 x7 x8 x9 x10 x11 x12 x13 x14 x15 x16 h17.1 h17.2.1 h17.2.2.1 h17.2.2.2
theorem om01 {a b c d n : Nat} (h : a + 4 * (n + 1) + 20 < c /\ b + 20 * (n + 1) + 100 < d) : a + 1 + 4 * n + 20 < c /\ b + 3 + 20 * n + 100 < d := by omega
theorem om04 {t n : Nat} (h : t ≤ n) : (max 0 (min (t : Int) n)).toNat = t := by
  rw [Int.min_eq_left (Int.ofNat_le.mpr h), Int.max_eq_right (Int.natCast_nonneg t), Int.toNat_natCast]
theorem om54 {n i k : Nat} (h : n - i = k + 1) : n = i + (k + 1) := by
  rw [← h]; exact (Nat.add_sub_cancel' (Nat.le_of_lt (Nat.lt_of_sub_pos (h ▸ Nat.succ_pos k)))).symm
theorem om51 {n i k : Nat} (h : n - i = k + 1) : n - k = i + 1 := Nat.sub_eq_of_eq_add ((om54 h).trans (Nat.add_right_comm i 1 k).symm)
theorem om52 {n i k : Nat} (h : n - i = k + 1) : n - (k + 1) = i := Nat.sub_eq_of_eq_add (om54 h)
theorem om53 {n i k : Nat} (h : n - i = k + 1) : k = n - (i + 1) := (Nat.sub_eq_of_eq_add ((om54 h).trans (congrArg Nat.succ (Nat.add_comm i k)))).symm
theorem om60 {a b : Nat} (h : a < b) (p : (b - a - 1) % 2 = 0) : a + 1 + 2 * ((b - a - 1) / 2) = b := by
  rw [Nat.mul_div_cancel' (Nat.dvd_of_mod_eq_zero p), Nat.sub_sub, Nat.add_sub_cancel' h]
theorem om02 {a b c d n : Nat} (h : a + 4 * (n + 1) + 20 < c /\ b + 20 * (n + 1) + 100 < d) : a + 1 + 4 * 0 + 20 < c /\ b + 3 + 20 * 0 + 100 < d := ⟨Nat.lt_of_le_of_lt (Nat.add_le_add_right (Nat.add_le_add_left (show 1 ≤ 4 * n + 4 from Nat.succ_le_succ (Nat.zero_le _)) a) 20) h.1, Nat.lt_of_le_of_lt (Nat.add_le_add_right (Nat.add_le_add_left (show 3 ≤ 20 * n + 20 from Nat.le_trans (by decide) (Nat.le_add_left 20 _)) b) 100) h.2⟩
theorem om03 {k i n : Nat} (h : k + i = n) (h' : i < n) : k - 1 + (i + 1) = n := by
  cases k with
  | zero => exact absurd h' (by rw [← h, Nat.zero_add]; exact Nat.lt_irrefl _)
  | succ k => rw [← h, Nat.succ_add]; rfl
theorem om06 {k i n : Nat} (h : k + i = n) (h' : i < n) : k - 1 < k := by
  cases k with
  | zero => exact absurd h' (by rw [← h, Nat.zero_add]; exact Nat.lt_irrefl _)
  | succ k => exact Nat.lt_succ_self k
theorem om07 {z : Int} {n : Nat} (h : 0 ≤ z) (h' : z < n) : z.toNat < n := (Int.toNat_lt h).mpr h'
theorem om08 {n : Nat} {a b : Int} (h : n < (a - b).toNat) : (n : Int) < a - b := Int.lt_toNat.mp h
theorem om12 {a b : Nat} (h : a < b) (h1 : ¬ a < b - 1) : a = b - 1 := Nat.le_antisymm (Nat.le_sub_one_of_lt h) (Nat.not_lt.mp h1)
theorem om18 {a b : Nat} (h : a < b) : a + (b + 1 - a) = b + 1 := Nat.add_sub_cancel' (Nat.le_succ_of_le (Nat.le_of_lt h))
theorem om19 (n : Nat) (z : Int) : (n : Int) + z - n = z := by rw [Int.add_comm, Int.add_sub_cancel]
theorem om20 {a b : Int} (h : a < b + 1) (h' : ¬ a = b) : a < b := Int.lt_iff_le_and_ne.mpr ⟨Int.le_of_lt_add_one h, h'⟩
theorem om22 {a b : Nat} (h' : (a : Int) < (b : Int) - 0) : a < b := Int.ofNat_lt.mp (Int.sub_zero (b : Int) ▸ h')
theorem om25 {a : Nat} (hb : a ≤ 10000) : (a : Int) < 2 ^ 62 := Int.lt_of_le_of_lt (Int.ofNat_le.mpr hb) (by decide)
theorem om26 {a : Nat} (hb : a ≤ 10000) : (a : Int) < 2 ^ 63 := Int.lt_of_le_of_lt (Int.ofNat_le.mpr hb) (by decide)
theorem om39 {z : Int} {n : Nat} (h : 0 ≤ z) : (n : Int) + z = n + (z.toNat : Int) := by rw [Int.toNat_of_nonneg h]
theorem om40 (z : Int) (n : Nat) : z = n + (z - n) := by rw [Int.add_comm, Int.sub_add_cancel]
theorem om41 {a b : Nat} (h : a < b) : b - a = b - a - 1 + 1 := (Nat.sub_add_cancel (Nat.sub_pos_of_lt h)).symm
theorem om42 {a b k : Nat} (h : b - a = k + 1) : b - (a + 1) = k := by rw [Nat.sub_add_eq, h]; rfl
theorem om45 {a b : Nat} (h : a + 1 ≤ b) : b - (a + 1) + 1 = b - a := by rw [Nat.sub_add_eq, Nat.sub_add_cancel (Nat.sub_pos_of_lt h)]
theorem om46 {a : Nat} (h : 1 ≤ a) : ((a : Int) - 1).toNat = a - 1 := Int.toNat_sub a 1
theorem om47 {a : Nat} (h : 2 ≤ a) : ((a : Int) - 1).toNat = a - 1 := Int.toNat_sub a 1
theorem om05 {k i n : Nat} (h : k + i = n) (h' : n ≤ i) : i = n := Nat.le_antisymm (h ▸ Nat.le_add_left ..) h'
theorem om09 {a b : Nat} (h : a + 4 * 0 + 20 < b) : a < b := Nat.lt_of_le_of_lt (Nat.le_add_right _ 20) h
theorem om10 {a b : Nat} (h : a + 20 * 0 + 100 < b) : a < b := Nat.lt_of_le_of_lt (Nat.le_add_right _ 100) h
theorem om11 {a b : Nat} (h : a < b + 1) (h' : ¬ a = b) : a < b := Nat.lt_of_le_of_ne (Nat.le_of_lt_succ h) h'
theorem om15 {a b : Nat} (h : a < b) : (a : Int) < b := Int.ofNat_lt.mpr h
theorem om16 : -(2 ^ 62 : Int) ≤ 0 := by decide
theorem om17 : (0 : Int) < 2 ^ 62 := by decide
theorem om23 {a b : Nat} (h : a ≤ b) (hb : b ≤ 10000) : a ≤ 16777216 := Nat.le_trans h (Nat.le_trans hb (by decide))
theorem om24 {a : Nat} (hb : a ≤ 10000) : a ≤ 16777216 := Nat.le_trans hb (by decide)
theorem om27 (a : Nat) : -(2 ^ 62 : Int) ≤ (a : Int) := Int.le_trans (by decide) (Int.natCast_nonneg a)
theorem om28 (a : Nat) : -(2 ^ 63 : Int) ≤ (a : Int) := Int.le_trans (by decide) (Int.natCast_nonneg a)
theorem om30 {a b c : Nat} (h : a < min b c) : a < b := Nat.lt_of_lt_of_le h (Nat.min_le_left ..)
theorem om31 {a b c : Nat} (h : a < min b c) : a < c := Nat.lt_of_lt_of_le h (Nat.min_le_right ..)
theorem om33 {a : Nat} (h : (a : Int) < 0) {p : Prop} : p := absurd h (Int.not_lt.mpr (Int.natCast_nonneg a))
theorem om34 {a : Nat} (h : a ≤ 100) : a < 4611686018427387904 := Nat.lt_of_le_of_lt h (by decide)
theorem om35 {a b : Nat} (h : a = b) : (a : Int) = b := congrArg _ h
theorem om36 {z : Int} (h : 0 ≤ z) (h' : z < 0) {p : Prop} : p := absurd h' (Int.not_lt.mpr h)
theorem om37 {a b c : Nat} (h : a ≤ c) (h' : b = a) : b ≤ c := h' ▸ h
theorem om44 {a b : Nat} (h : a ≤ b) : b + 1 - a = b - a + 1 := Nat.succ_sub h
theorem om48 {a b : Nat} (h : a ≤ b) (h' : b - a = 0) : b = a := Nat.le_antisymm (Nat.sub_eq_zero_iff_le.mp h') h
theorem om50 {a b : Nat} (h : a ≤ b) : a ≤ b + 1 := Nat.le_succ_of_le h
theorem sn {α : Type} {a : α} {p : Prop} (h : some a = none) : p := nomatch h
theorem ns {α : Type} {a : α} {p : Prop} (h : none = some a) : p := nomatch h
theorem tf {p : Prop} (h : true = false) : p := nomatch h
theorem ft {p : Prop} (h : false = true) : p := nomatch h
noncomputable def er : Value -> Value
  | .int i _ => .int i 0
  | .str s _ => .str s 0
  | .float b _ => .float b 0
  | .bytes b _ => .bytes b 0
  | v => v
theorem er_int {v : Value} {i : Int} (h : er v = .int i 0) : ∃ t, v = .int i t := by
  cases v <;> simp only [er, Value.int.injEq, reduceCtorEq, and_true] at h
  exact ⟨_, by rw [h]⟩
theorem er_str {v : Value} {x : Str} (h : er v = .str x 0) : ∃ t, v = .str x t := by
  cases v <;> simp only [er, Value.str.injEq, reduceCtorEq, and_true] at h
  exact ⟨_, by rw [h]⟩
theorem er_bool {v : Value} {b : Bool} (h : er v = .bool b) : v = .bool b := by
  cases v <;> simp only [er, reduceCtorEq] at h
  exact h
theorem er_none {v : Value} (h : er v = .none) : v = .none := by
  cases v <;> simp only [er, reduceCtorEq] at h
  rfl
theorem er_ref {v : Value} {a : Addr} (h : er v = .ref a) : v = .ref a := by
  cases v <;> simp only [er, reduceCtorEq] at h
  exact h
theorem er_builtin {v : Value} {a : String} (h : er v = .builtin a) : v = .builtin a := by
  cases v <;> simp only [er, reduceCtorEq] at h
  exact h
theorem er_type {v : Value} {a : String} (h : er v = .type a) : v = .type a := by
  cases v <;> simp only [er, reduceCtorEq] at h
  exact h
@[simp] theorem er_er (v : Value) : er (er v) = er v := by cases v <;> rfl
theorem letP {prog : Program} {w : World} {A : Around} {α : Type} {t : Sem α} {Q : α -> Shared -> Prop} {E : Value -> Shared -> Prop} {s : Shared} (h : let Q' : α -> Shared -> Prop := Q; wpAny (model prog w) A t Q' E s) : wpAny (model prog w) A t Q E s := h
set_option genInjectivity true in
inductive AO (N : Type) where
  | list (xs : List Value)
  | tup (xs : List Value)
  | dict (kvs : List (N × Value)) (ep : Nat)
  | set (S : N -> Bool) (n : Nat)
  | inst (C d : Addr)
  | ns (m : Str -> Option Value) (k : Nat)
  | slots (C d : Addr) (vs : List (Option Value))
  | raw (P : Obj -> Prop)
structure Gl (N : Type) [DecidableEq N] where
  prog : Program
  w : World
  knd : KeyKind prog w N
  K : Frag
  h₀ : Heap
  os : OsState
  mg : Str -> Option Value
  mb : Str -> Option Value
section
noncomputable def Is (g : Gl Int) (ob : Obj) : AO Int -> Prop
  | .list xs => ∃ arr n, ob = { cls := .type "list", data := .seq arr n } /\ arr.toList.map er = xs
  | .tup xs => ∃ arr n, ob = { cls := .type "tuple", data := .seq arr n } /\ arr.toList.map er = xs
  | .dict kvs ep => ∃ es ks, ob.ExactDict /\ ob.data = .dict es ep /\ KeysOf g.knd es /\ Pairs g.knd es.toList ks /\ (ks.map (·.1)).Nodup /\ ks.map (fun p => (p.1, er p.2)) = kvs
  | .set S n => ∃ es ep t, ob.ExactSet /\ ob.data = .set es ep t /\ ElemsOf g.knd es.toList /\ (∀ k, S k = true ↔ ∃ e ∈ es.toList, g.knd.is k e.2 = true) /\ es.size < scanBound /\ t.fits es.size = true /\ es.size = n
  | .inst C d => ob = { cls := .ref C, dict := some d, data := .plain }
  | .ns m k => ∃ es ep, ob = dictOf es ep /\ StrKeys es.toArray /\ (∀ x, (nsFind es.toArray x).map er = m x) /\ es.length ≤ k
  | .slots C d vs => ∃ sl, ob = { cls := .ref C, dict := some d, data := .plain, slots := sl } /\ sl.toList.map (·.map er) = vs
  | .raw P => P ob
structure Gl.Ok (g : Gl Int) : Prop where
  k : g.K.In g.h₀
  gl : g.h₀.Ns mainGlobals g.mg
  bl : g.h₀.Ns builtinsNs g.mb
  bi : ∀ x : Str, x ≠ "__name__" -> g.mb x = bootBuiltins x
  lim : g.h₀.NoLimit
  tr : ∃ p loose, TopRead p loose g.mg g.mb g.h₀
structure Ac where
  A : Around
  env : Env
  ext : Str -> Bool := fun _ => false
noncomputable def Ac.Own (c : Ac) (x : Str) : Prop := c.env.kindOf x = some .cell /\ c.ext x = false
noncomputable def Ac.Deep (c : Ac) (n : Nat) : Prop := c.A.depth + 4 * n + 20 < recursionLimit /\ c.A.units + 20 * n + 100 < cLine
structure Ac.Ok (c : Ac) : Prop where
  kind : c.env.scope.kind = .function
  gl : c.env.globals = mainGlobals
  bl : c.env.builtins = builtinsNs
  hd : c.A.handled = none
  deep : c.Deep 0
  cells : ∀ x, c.env.kindOf x = some .cell -> ∃ a, c.env.cells.lookup x = some a
  frees : ∀ x, c.env.kindOf x = some .free -> c.ext x = true /\ ∃ a, c.env.cells.lookup x = some a
structure Hid where
  objs : Addr -> Option Obj
  gens : List (Nat × GenState)
structure St (N : Type) where
  m : Str -> Option Value
  σ : Addr -> Option (AO N)
noncomputable def setv (m : Str -> Option Value) (x : Str) (v : Value) : Str -> Option Value := fun y => if y = x then some v else m y
noncomputable def upd (σ : Addr -> Option (AO Int)) (a : Addr) (o : AO Int) : Addr -> Option (AO Int) := fun b => if b = a then some o else σ b
structure Rel (g : Gl Int) (c : Ac) (H : Hid) (S : St Int) (s : Shared) : Prop where
  ok : g.Ok
  ac : c.Ok
  above : g.h₀.objs.size ≤ c.env.locals
  keep : ∀ b o, g.h₀.get? b = some o -> s.heap.get? b = some o
  os : s.os = g.os
  bare : AllBare s.gens
  gen : ∀ p ∈ H.gens, s.gens[p.1]? = some p.2
  hid : ∀ a o, H.objs a = some o -> s.heap.get? a = some o
  loc : ∃ m, s.heap.Ns c.env.locals m /\ ∀ x v, S.m x = some v -> c.env.kindOf x = some .local -> ∃ u, m x = some u /\ er u = v
  cel : ∀ x a, c.env.cells.lookup x = some a -> c.Own x -> ∃ u, s.heap.IsCell a u /\ ∀ v, S.m x = some v -> u.map er = some v
  inj : ∀ x y a, c.env.cells.lookup x = some a -> c.env.cells.lookup y = some a -> c.Own x -> c.Own y -> x = y
  fre : ∀ x a, c.env.cells.lookup x = some a -> c.ext x = true -> ∀ v, S.m x = some v -> ∃ ob u, H.objs a = some ob /\ ob.data = .cell (some u) /\ er u = v
  sto : ∀ a o, S.σ a = some o -> ∃ ob, s.heap.get? a = some ob /\ Is g ob o
  role : ∃ ρ : Addr -> Nat, (∀ b o, g.h₀.get? b = some o -> ρ b = 0) /\ ρ c.env.locals = 1 /\ (∀ x a, c.env.cells.lookup x = some a -> c.Own x -> ρ a = 2) /\
    (∀ a o, H.objs a = some o -> ρ a = 3) /\ ∀ a o, S.σ a = some o -> ρ a = 4
namespace Rel
variable {g : Gl Int} {c : Ac} {H : Hid} {S : St Int} {s : Shared}
theorem ne {a b : Addr} {ρ : Addr -> Nat} {i j : Nat} (ha : ρ a = i) (hb : ρ b = j) (h : i ≠ j := by decide) : a ≠ b := fun e => h (by rw [← ha, ← hb, e])
theorem grow (R : Rel g c H S s) {h' : Heap} {tk : Tok} (hk : ∀ b o, s.heap.get? b = some o -> h'.get? b = some o) : Rel g c H S { s with heap := h', toks := tk } where
  ok := R.ok
  ac := R.ac
  above := R.above
  keep b o e := hk b o (R.keep b o e)
  os := R.os
  bare := R.bare
  gen := R.gen
  hid a o e := hk _ _ (R.hid a o e)
  loc := let ⟨m, hn, hm⟩ := R.loc; ⟨m, hn.keeps hk, hm⟩
  cel x a h1 h2 := let ⟨u, hu, hv⟩ := R.cel x a h1 h2; ⟨u, hu.keeps hk, hv⟩
  inj := R.inj
  fre := R.fre
  sto a o e := let ⟨ob, h1, h2⟩ := R.sto a o e; ⟨ob, hk _ _ h1, h2⟩
  role := R.role
theorem toks (R : Rel g c H S s) {tk : Tok} : Rel g c H S { s with toks := tk } := R.grow (fun _ _ e => e)
theorem le (R : Rel g c H S s) {S' : St Int} (hm : ∀ x v, S'.m x = some v -> S.m x = some v) (hs : ∀ a o, S'.σ a = some o -> S.σ a = some o) : Rel g c H S' s where
  ok := R.ok
  ac := R.ac
  above := R.above
  keep := R.keep
  os := R.os
  bare := R.bare
  gen := R.gen
  hid := R.hid
  loc := let ⟨m, hn, h⟩ := R.loc; ⟨m, hn, fun x v e => h x v (hm x v e)⟩
  cel x a h1 h2 := let ⟨u, hu, hv⟩ := R.cel x a h1 h2; ⟨u, hu, fun v e => hv v (hm x v e)⟩
  inj := R.inj
  fre x a h1 h2 v e := R.fre x a h1 h2 v (hm x v e)
  sto a o e := R.sto a o (hs a o e)
  role := let ⟨ρ, r0, r1, r2, r3, r4⟩ := R.role; ⟨ρ, r0, r1, r2, r3, fun a o e => r4 a o (hs a o e)⟩
theorem add (R : Rel g c H S s) {h' : Heap} {tk : Tok} {a : Addr} {ob : Obj} {o : AO Int} (hk : Heap.ExtBut a s.heap h') (ha : s.heap.get? a = none) (hn : h'.get? a = some ob) (hi : Is g ob o) :
    S.σ a = none /\ Rel g c H ⟨S.m, upd S.σ a o⟩ { s with heap := h', toks := tk } := by
  have hk' : ∀ b o, s.heap.get? b = some o -> h'.get? b = some o := fun b o e => hk b o (by rintro rfl; rw [ha] at e; exact Mine.ns e) e
  have none : S.σ a = none := by
    cases q : S.σ a with
    | none => rfl
    | some o' => (refine el_EA (R.sto a o' q) ?_; intro ob' e _); rw [ha] at e; exact Mine.ns e
  have R' := R.grow (tk := tk) hk'
  refine ⟨none, { R' with sto := ?_, role := ?_ }⟩
  · intro b o' e
    unfold upd at e
    dsimp only at e
    split at e
    · rename_i hb; subst hb; (replace e := Option.some.inj e; subst e); exact ⟨ob, hn, hi⟩
    exact R'.sto b o' e
  refine el_EAAAA R.role ?_; intro ρ r0 r1 r2 r3 r4
  have nz : ∀ b o, s.heap.get? b = some o -> b ≠ a := fun b o e q => by rw [q, ha] at e; exact Mine.ns e
  refine ⟨fun b => if b = a then 4 else ρ b, fun b o e => ?_, ?_, fun x b h1 h2 => ?_, fun b o e => ?_, fun b o' e => ?_⟩
  · dsimp only; rw [if_neg (nz b o (R.keep b o e))]; exact r0 b o e
  · dsimp only; (refine el_EA R.loc ?_; intro m hm _)
    refine el_EEEA hm ?_; (try clear hm); intro oL _ _ hL _
    rw [if_neg (nz _ _ hL)]; exact r1
  · (refine el_EA (R.cel x b h1 h2) ?_; intro u nn_84 _; obtain ⟨oc, hc, _⟩ := nn_84)
    dsimp only; rw [if_neg (nz _ _ hc)]; exact r2 x b h1 h2
  · dsimp only; rw [if_neg (nz _ _ (R.hid b o e))]; exact r3 b o e
  by_cases hb : b = a
  · dsimp only; rw [if_pos hb]
  dsimp only; rw [if_neg hb]
  refine r4 b o' ?_
  unfold upd at e
  dsimp only at e
  rwa [if_neg hb] at e
theorem put (R : Rel g c H S s) {h' : Heap} {tk : Tok} {a : Addr} {ob : Obj} {o₀ o : AO Int} (hk : Heap.ExtBut a s.heap h') (ha : S.σ a = some o₀) (hn : h'.get? a = some ob) (hi : Is g ob o) :
    Rel g c H ⟨S.m, upd S.σ a o⟩ { s with heap := h', toks := tk } := by
  refine el_EAAAA R.role ?_; intro ρ r0 r1 r2 r3 r4
  have ra := r4 a _ ha
  refine { ok := R.ok, ac := R.ac, above := R.above, os := R.os, bare := R.bare, gen := R.gen, inj := R.inj, keep := ?_, hid := ?_, loc := ?_, cel := ?_, fre := R.fre, sto := ?_, role := ?_ }
  · exact fun b o e => hk b o (ne (r0 b o e) ra) (R.keep b o e)
  · exact fun b o e => hk _ _ (ne (r3 b o e) ra) (R.hid b o e)
  · (refine el_EA R.loc ?_; intro m hm hv)
    exact ⟨m, hm.extBut hk (ne r1 ra), hv⟩
  · intro x b h1 h2
    refine el_EA (R.cel x b h1 h2) ?_; intro u nn_83 hv; obtain ⟨oc, hc, hd⟩ := nn_83
    exact ⟨u, ⟨oc, hk _ _ (ne (r2 x b h1 h2) ra) hc, hd⟩, hv⟩
  · intro b o' e
    unfold upd at e
    dsimp only at e
    split at e
    · rename_i hb; subst hb; (replace e := Option.some.inj e; subst e); exact ⟨ob, hn, hi⟩
    rename_i hb
    refine el_EA (R.sto b o' e) ?_; intro ob' h1 h2
    exact ⟨ob', hk _ _ hb h1, h2⟩
  refine ⟨ρ, r0, r1, r2, r3, fun b o' e => ?_⟩
  unfold upd at e
  dsimp only at e
  split at e
  · rename_i hb; subst hb; exact ra
  exact r4 b o' e
theorem setLoc (R : Rel g c H S s) {h' : Heap} {tk : Tok} {x : Str} {v : Value} {m : Str -> Option Value}
    (hv : ∀ x v, S.m x = some v -> c.env.kindOf x = some .local -> ∃ u, m x = some u /\ er u = v) (hx : c.env.kindOf x = some .local) (hxe : c.ext x = false)
    (hn : h'.Ns c.env.locals (fun y => if y = x then some v else m y)) (hk : Heap.SameBut c.env.locals s.heap h') :
    Rel g c H ⟨setv S.m x (er v), S.σ⟩ { s with heap := h', toks := tk } := by
  refine el_EAAAA R.role ?_; intro ρ r0 r1 r2 r3 r4
  have hk := hk.extBut
  refine { ok := R.ok, ac := R.ac, above := R.above, os := R.os, bare := R.bare, gen := R.gen, inj := R.inj, keep := ?_, hid := ?_, loc := ?_, cel := ?_, fre := ?_, sto := ?_, role := ⟨ρ, r0, r1, r2, r3, r4⟩ }
  · exact fun b o e => hk b o (ne (r0 b o e) r1) (R.keep b o e)
  · exact fun b o e => hk _ _ (ne (r3 b o e) r1) (R.hid b o e)
  · refine ⟨_, hn, fun y u e hy => ?_⟩
    unfold setv at e
    dsimp only at e ⊢
    split at e
    · rename_i hyx; subst hyx; (replace e := Option.some.inj e; subst e); exact ⟨v, by rw [if_pos rfl], rfl⟩
    rename_i hyx; rw [if_neg hyx]; exact hv y u e hy
  · intro y b h1 h2
    refine el_EA (R.cel y b h1 h2) ?_; intro u nn_82 hu; obtain ⟨oc, hc, hd⟩ := nn_82
    refine ⟨u, ⟨oc, hk _ _ (ne (r2 y b h1 h2) r1) hc, hd⟩, fun w e => hu w ?_⟩
    unfold setv at e
    dsimp only at e
    rwa [if_neg (by rintro rfl; have := h2.1; rw [hx] at this; exact (nomatch this))] at e
  · intro y b h1 h2 w e
    refine R.fre y b h1 h2 w ?_
    unfold setv at e
    dsimp only at e
    rwa [if_neg (by rintro rfl; rw [hxe] at h2; exact Mine.ft h2)] at e
  intro b o e
  refine el_EA (R.sto b o e) ?_; intro ob h1 h2
  exact ⟨ob, hk _ _ (ne (r4 b o e) r1) h1, h2⟩
theorem setCell (R : Rel g c H S s) {h' : Heap} {tk : Tok} {x : Str} {a : Addr} {v : Value} (hx : c.Own x) (ha : c.env.cells.lookup x = some a)
    (hn : h'.IsCell a (some v)) (hk : Heap.SameBut a s.heap h') : Rel g c H ⟨setv S.m x (er v), S.σ⟩ { s with heap := h', toks := tk } := by
  refine el_EAAAA R.role ?_; intro ρ r0 r1 r2 r3 r4
  have hk := hk.extBut
  have ra := r2 x a ha hx
  refine { ok := R.ok, ac := R.ac, above := R.above, os := R.os, bare := R.bare, gen := R.gen, inj := R.inj, keep := ?_, hid := ?_, loc := ?_, cel := ?_, fre := ?_, sto := ?_, role := ⟨ρ, r0, r1, r2, r3, r4⟩ }
  · exact fun b o e => hk b o (ne (r0 b o e) ra) (R.keep b o e)
  · exact fun b o e => hk _ _ (ne (r3 b o e) ra) (R.hid b o e)
  · (refine el_EA R.loc ?_; intro m hm hv)
    refine ⟨m, hm.extBut hk (ne r1 ra), fun y u e hy => hv y u ?_ hy⟩
    unfold setv at e
    dsimp only at e
    rwa [if_neg (by rintro rfl; rw [hx.1] at hy; exact (nomatch hy))] at e
  · intro y b h1 h2
    by_cases hy : y = x
    · subst hy
      obtain rfl : a = b := Option.some.inj (ha.symm.trans h1)
      refine ⟨some v, hn, fun w e => ?_⟩
      unfold setv at e
      dsimp only at e
      rw [if_pos rfl] at e
      exact e
    refine el_EA (R.cel y b h1 h2) ?_; intro u nn_81 hu; obtain ⟨oc, hc, hd⟩ := nn_81
    refine ⟨u, ⟨oc, hk _ _ (fun q => hy (R.inj y x a (q ▸ h1) ha h2 hx)) hc, hd⟩, fun w e => hu w ?_⟩
    unfold setv at e
    dsimp only at e
    rwa [if_neg hy] at e
  · intro y b h1 h2 w e
    refine R.fre y b h1 h2 w ?_
    unfold setv at e
    dsimp only at e
    rwa [if_neg (by rintro rfl; rw [hx.2] at h2; exact Mine.ft h2)] at e
  intro b o e
  refine el_EA (R.sto b o e) ?_; intro ob h1 h2
  exact ⟨ob, hk _ _ (ne (r4 b o e) ra) h1, h2⟩
theorem hide (R : Rel g c H S s) {h' : Heap} {tk : Tok} {a : Addr} {ob : Obj} (hk : Heap.ExtBut a s.heap h') (ha : s.heap.get? a = none) (hn : h'.get? a = some ob) :
    Rel g c ⟨fun b => if b = a then some ob else H.objs b, H.gens⟩ S { s with heap := h', toks := tk } := by
  have hk' : ∀ b o, s.heap.get? b = some o -> h'.get? b = some o := fun b o e => hk b o (by rintro rfl; rw [ha] at e; exact Mine.ns e) e
  have R' := R.grow (tk := tk) hk'
  have nz : ∀ b o, s.heap.get? b = some o -> b ≠ a := fun b o e q => by rw [q, ha] at e; exact Mine.ns e
  refine { ok := R.ok, ac := R.ac, above := R.above, os := R.os, bare := R.bare, gen := R.gen, inj := R.inj, keep := R'.keep, hid := ?_, loc := R'.loc, cel := R'.cel, fre := ?_, sto := R'.sto, role := ?_ }
  · intro b o e
    dsimp only at e
    split at e
    · rename_i hb; subst hb; (replace e := Option.some.inj e; subst e); exact hn
    exact R'.hid b o e
  · intro x b h1 h2 v e
    refine el_EEA (R.fre x b h1 h2 v e) ?_; intro ob' u h3 r
    refine ⟨ob', u, ?_, r⟩
    dsimp only
    rw [if_neg (nz _ _ (R.hid _ _ h3))]; exact h3
  refine el_EAAAA R.role ?_; intro ρ r0 r1 r2 r3 r4
  refine ⟨fun b => if b = a then 3 else ρ b, fun b o e => ?_, ?_, fun x b h1 h2 => ?_, fun b o e => ?_, fun b o' e => ?_⟩
  · dsimp only; rw [if_neg (nz b o (R.keep b o e))]; exact r0 b o e
  · dsimp only; (refine el_EA R.loc ?_; intro m hm _)
    refine el_EEEA hm ?_; (try clear hm); intro oL _ _ hL _
    rw [if_neg (nz _ _ hL)]; exact r1
  · (refine el_EA (R.cel x b h1 h2) ?_; intro u nn_80 _; obtain ⟨oc, hc, _⟩ := nn_80)
    dsimp only; rw [if_neg (nz _ _ hc)]; exact r2 x b h1 h2
  · dsimp only at e ⊢
    split at e
    · rename_i hb; rw [if_pos hb]
    rename_i hb; rw [if_neg hb]; exact r3 b o e
  refine el_EA (R.sto b o' e) ?_; intro ob' h1 _
  dsimp only; rw [if_neg (nz _ _ h1)]; exact r4 b o' e
theorem turn {a : Addr} {ob ob' : Obj} (R : Rel g c H S s) (ha : H.objs a = some ob) {h' : Heap} {tk : Tok} (hk : Heap.ExtBut a s.heap h') (hn : h'.get? a = some ob')
    (hc : ∀ u, ob.data = .cell u -> False) : Rel g c ⟨fun b => if b = a then some ob' else H.objs b, H.gens⟩ S { s with heap := h', toks := tk } := by
  refine el_EAAAA R.role ?_; intro ρ r0 r1 r2 r3 r4
  have ra := r3 _ _ ha
  refine { ok := R.ok, ac := R.ac, above := R.above, os := R.os, bare := R.bare, gen := R.gen, inj := R.inj, keep := ?_, hid := ?_, loc := ?_, cel := ?_, fre := ?_, sto := ?_, role := ⟨ρ, r0, r1, r2, fun b o e => ?_, r4⟩ }
  · exact fun b o e => hk b o (ne (r0 b o e) ra) (R.keep b o e)
  · intro b o e
    dsimp only at e
    split at e
    · rename_i hb; subst hb; (replace e := Option.some.inj e; subst e); exact hn
    rename_i hb; exact hk _ _ hb (R.hid b o e)
  · (refine el_EA R.loc ?_; intro m hm hv)
    exact ⟨m, hm.extBut hk (ne r1 ra), hv⟩
  · intro y b h1 h2
    refine el_EA (R.cel y b h1 h2) ?_; intro u nn_79 hu; obtain ⟨oc, hc, hd⟩ := nn_79
    exact ⟨u, ⟨oc, hk _ _ (ne (r2 y b h1 h2) ra) hc, hd⟩, hu⟩
  · intro y b h1 h2 w e
    refine el_EEAA (R.fre y b h1 h2 w e) ?_; intro ob₁ u h3 h4 h5
    refine ⟨ob₁, u, ?_, h4, h5⟩
    dsimp only
    rw [if_neg (by rintro rfl; rw [ha] at h3; (replace h3 := Option.some.inj h3; subst h3); exact hc _ h4)]; exact h3
  · intro b o e
    refine el_EA (R.sto b o e) ?_; intro ob h1 h2
    exact ⟨ob, hk _ _ (ne (r4 b o e) ra) h1, h2⟩
  dsimp only at e
  split at e
  · rename_i hb; subst hb; exact ra
  exact r3 b o e
theorem drop {H' : Hid} (R : Rel g c H S s) (h : ∀ a o, H'.objs a = some o -> H.objs a = some o) (hg : ∀ p ∈ H'.gens, p ∈ H.gens) (hc : ∀ a ob u, H.objs a = some ob -> ob.data = .cell u -> H'.objs a = some ob) : Rel g c H' S s where
  ok := R.ok
  ac := R.ac
  above := R.above
  keep := R.keep
  os := R.os
  bare := R.bare
  gen p hp := R.gen p (hg p hp)
  hid a o e := R.hid a o (h a o e)
  loc := R.loc
  cel := R.cel
  inj := R.inj
  fre x a h1 h2 v e := by
    refine el_EEAA (R.fre x a h1 h2 v e) ?_; intro ob u h3 h4 h5
    exact ⟨ob, u, hc _ _ _ h3 h4, h4, h5⟩
  sto := R.sto
  role := let ⟨ρ, r0, r1, r2, r3, r4⟩ := R.role; ⟨ρ, r0, r1, r2, fun a o e => r3 a o (h a o e), r4⟩
theorem in_K (R : Rel g c H S s) : g.K.In s.heap := fun a o e => R.keep a o (R.ok.k a o e)
theorem nolimit (R : Rel g c H S s) : s.heap.NoLimit := R.ok.lim.keeps R.keep
theorem room (R : Rel g c H S s) : c.A.depth < recursionLimit := by have := R.ac.deep.1; exact om09 ‹_›
theorem units (R : Rel g c H S s) : c.A.units < cLine := by have := R.ac.deep.2; exact om10 ‹_›
end Rel
end
end
section
noncomputable def erF : Flow -> Flow
  | .ret v => .ret (er v)
  | f => f
section
theorem goK {g : Gl Int} {c : Ac} {H : Hid} {A : Around} {α : Type} {t : Sem α} {Q : α -> St Int -> Prop} {P : α -> Shared -> Prop} {E : Value -> Shared -> Prop} {s : Shared} (h : wpAny (model g.prog g.w) A t (fun u s₁ => ∃ S₁, Rel g c H S₁ s₁ /\ Q u S₁) (fun _ _ => False) s) (k : ∀ u s₁ S₁, Rel g c H S₁ s₁ -> Q u S₁ -> P u s₁) : wpAny (model g.prog g.w) A t P E s :=
  wpAny_mono h (fun u s₁ q => q.elim fun S₁ q => k u s₁ S₁ q.1 q.2) fun _ _ x => x.elim
noncomputable def WM (g : Gl Int) (c : Ac) {α : Type} (t : Sem α) (S : St Int) (Q : α -> St Int -> Prop) : Prop :=
  ∀ H s, Rel g c H S s -> wpAny (model g.prog g.w) c.A t (fun a s' => ∃ S', Rel g c H S' s' /\ Q a S') (fun _ _ => False) s
noncomputable def WE (g : Gl Int) (c : Ac) (e : Expr) (S : St Int) (Q : Value -> St Int -> Prop) : Prop := WM g c (eval e c.env) S fun v S' => Q (er v) S'
noncomputable def WT (g : Gl Int) (c : Ac) (e : Expr) (S : St Int) (Q : Bool -> St Int -> Prop) : Prop := WM g c (isTrue e c.env (eval e c.env)) S Q
noncomputable def WX (g : Gl Int) (c : Ac) (st : Stmt) (S : St Int) (Q : Flow -> St Int -> Prop) : Prop := WM g c (exec st c.env) S fun f S' => Q (erF f) S'
noncomputable def WXs (g : Gl Int) (c : Ac) (ss : List Stmt) (S : St Int) (Q : Flow -> St Int -> Prop) : Prop := WM g c (execs ss c.env) S fun f S' => Q (erF f) S'
noncomputable def WV1 (g : Gl Int) (c : Ac) (t : Value -> Sem Value) (a : Value) (S : St Int) (Q : Value -> St Int -> Prop) : Prop :=
  ∀ u, er u = a -> WM g c (t u) S fun v S' => Q (er v) S'
noncomputable def WV2 (g : Gl Int) (c : Ac) (t : Value -> Value -> Sem Value) (a b : Value) (S : St Int) (Q : Value -> St Int -> Prop) : Prop :=
  ∀ u v, er u = a -> er v = b -> WM g c (t u v) S fun v S' => Q (er v) S'
noncomputable def WBin (g : Gl Int) (c : Ac) (op : Operator) (a b : Value) (S : St Int) (Q : Value -> St Int -> Prop) : Prop := WV2 g c (binaryOp op) a b S Q
noncomputable def WIn (g : Gl Int) (c : Ac) (op : Operator) (a b : Value) (S : St Int) (Q : Value -> St Int -> Prop) : Prop := WV2 g c (inplaceOp op) a b S Q
noncomputable def WCmp (g : Gl Int) (c : Ac) (op : CmpOp) (a b : Value) (S : St Int) (Q : Value -> St Int -> Prop) : Prop := WV2 g c (compareOp op) a b S Q
noncomputable def WUn (g : Gl Int) (c : Ac) (op : UnaryOp) (a : Value) (S : St Int) (Q : Value -> St Int -> Prop) : Prop := WV1 g c (unaryOp op) a S Q
noncomputable def WTr (g : Gl Int) (c : Ac) (a : Value) (S : St Int) (Q : Bool -> St Int -> Prop) : Prop := ∀ u, er u = a -> WM g c (truthy u) S Q
noncomputable def WItem (g : Gl Int) (c : Ac) (a b : Value) (S : St Int) (Q : Value -> St Int -> Prop) : Prop := WV2 g c getItem a b S Q
noncomputable def WStore (g : Gl Int) (c : Ac) (x : Str) (a : Value) (S : St Int) (Q : St Int -> Prop) : Prop := ∀ u, er u = a -> WM g c (storeName c.env x u) S fun _ S' => Q S'
noncomputable def WAsg (g : Gl Int) (c : Ac) (t : Expr) (a : Value) (S : St Int) (Q : St Int -> Prop) : Prop := ∀ u, er u = a -> WM g c (assign t c.env u) S fun _ S' => Q S'
noncomputable def WSetItem (g : Gl Int) (c : Ac) (o i v : Value) (S : St Int) (Q : St Int -> Prop) : Prop := ∀ u j w, er u = o -> er j = i -> er w = v -> WM g c (setItem u j w) S fun _ S' => Q S'
noncomputable def WGet (g : Gl Int) (c : Ac) (o : Value) (x : Str) (S : St Int) (Q : Value -> St Int -> Prop) : Prop := ∀ u b, er u = o -> WM g c (getAttr u x b) S fun v S' => Q (er v) S'
noncomputable def WSet (g : Gl Int) (c : Ac) (o : Value) (x : Str) (v : Value) (S : St Int) (Q : St Int -> Prop) : Prop := ∀ u w, er u = o -> er w = v -> WM g c (setAttr u x w) S fun _ S' => Q S'
noncomputable def WC (g : Gl Int) (c : Ac) (f : Value) (as : List Value) (S : St Int) (Q : Value -> St Int -> Prop) : Prop :=
  ∀ us, us.map er = as -> WM g c (call f us) S fun v S' => Q (er v) S'
variable {g : Gl Int} {c : Ac} {S S' : St Int}
theorem WM.mono {α : Type} {t : Sem α} {Q Q' : α -> St Int -> Prop} (h : WM g c t S Q) (hQ : ∀ a S', Q a S' -> Q' a S') : WM g c t S Q' :=
  fun H s R => goK (h H s R) (fun _ _ S' R' q => ⟨S', R', hQ _ _ q⟩)
theorem WM.le {α : Type} {t : Sem α} {Q : α -> St Int -> Prop} (h : WM g c t S' Q) (hm : ∀ x v, S'.m x = some v -> S.m x = some v) (hs : ∀ a o, S'.σ a = some o -> S.σ a = some o) : WM g c t S Q :=
  fun H s R => h H s (R.le hm hs)
structure Le (S' S : St Int) : Prop where
  m : ∀ x v, S'.m x = some v -> S.m x = some v
  s : ∀ a o, S'.σ a = some o -> S.σ a = some o
theorem Le.refl (S : St Int) : Le S S := ⟨fun _ _ e => e, fun _ _ e => e⟩
theorem WXs.le {ss : List Stmt} {Q : Flow -> St Int -> Prop} (h : WXs g c ss S' Q) (l : Le S' S) : WXs g c ss S Q := WM.le h l.m l.s
theorem WX.le {ss : Stmt} {Q : Flow -> St Int -> Prop} (h : WX g c ss S' Q) (l : Le S' S) : WX g c ss S Q := WM.le h l.m l.s
theorem WX.mono {ss : Stmt} {Q Q' : Flow -> St Int -> Prop} (h : WX g c ss S Q) (hQ : ∀ a S', Q a S' -> Q' a S') : WX g c ss S Q' := WM.mono h fun a S' q => hQ (erF a) S' q
theorem WE.mono {e : Expr} {Q Q' : Value -> St Int -> Prop} (h : WE g c e S Q) (hQ : ∀ a S', Q a S' -> Q' a S') : WE g c e S Q' := WM.mono h fun a S' q => hQ (er a) S' q
theorem Rel.name {H : Hid} {s : Shared} (R : Rel g c H S s) {x : Str} {v : Value} {E P : Value -> Shared -> Prop} (hv : S.m x = some v)
    (hk : c.env.kindOf x = some .local ∨ c.env.kindOf x = some .cell ∨ c.env.kindOf x = some .free) (hn : (x == ("__classdict__" : Str)) = false) (h : ∀ u, er u = v -> P u s) :
    wpAny (model g.prog g.w) c.A (loadName c.env x) P E s := by
  rcases hk with hk | hk | hk
  · (refine el_EA R.loc ?_; intro m hm hl)
    refine el_EA (hl x v hv hk) ?_; intro u hu he
    exact wpAny_loadName_local R.ac.kind hk hm hu (h u he)
  · (refine el_E (R.ac.cells x hk) ?_; intro a ha)
    cases hx : c.ext x with
    | false =>
      refine el_EA (R.cel x a ha ⟨hk, hx⟩) ?_; intro u hu he
      have := he v hv
      cases u with
      | none => exact Mine.ns this
      | some u => exact wpAny_loadName_cell R.ac.kind hk ha hu (h u (Option.some.inj this))
    | true =>
      refine el_EEAA (R.fre x a ha hx v hv) ?_; intro ob u hm hd he
      exact wpAny_loadName_cell R.ac.kind hk ha ⟨ob, R.hid _ _ hm, hd⟩ (h u he)
  refine el_AE (R.ac.frees x hk) ?_; intro hx a ha
  refine el_EEAA (R.fre x a ha hx v hv) ?_; intro ob u hm hd he
  exact wpAny_loadName_free R.ac.kind hk ha ⟨ob, R.hid _ _ hm, hd⟩ (h u he) hn
noncomputable def isVar (sc : Scope) (x : Str) : Bool := (match sc.names.lookup x with | some .local => true | some .cell => true | some .free => true | _ => false) && !(x == ("__debug__" : Str)) && !(x == ("__classdict__" : Str))
noncomputable def isOwn (sc : Scope) (x : Str) : Bool := match sc.names.lookup x with | some .local => true | some .cell => true | _ => false
noncomputable def isGlob (sc : Scope) (x : Str) : Bool := (match sc.names.lookup x with | some .globalImplicit => true | _ => false) && !(x == ("__debug__" : Str))
theorem isVar_kind {sc : Scope} {x : Str} (h : isVar sc x = true) : (sc.names.lookup x = some .local ∨ sc.names.lookup x = some .cell ∨ sc.names.lookup x = some .free) /\ (x == ("__debug__" : Str)) = false /\ (x == ("__classdict__" : Str)) = false := by
  unfold isVar at h
  simp only [Bool.and_eq_true, Bool.not_eq_true'] at h
  refine ⟨?_, h.1.2, h.2⟩
  have := h.1.1
  split at this <;> simp_all
theorem WE_Name {x : Str} {pos : Pos} {v : Value} {Q : Value -> St Int -> Prop} (hk : isVar c.env.scope x = true) (hv : S.m x = some v) (h : Q v S) : WE g c (.Name x pos) S Q := by
  intro H s R
  o_shape
  refine el_AA (isVar_kind hk) ?_; intro k h1 h2
  exact wpAny_Name (R.name hv k h2 fun u hu => ⟨S, R, by show Q (er u) S; rw [hu]; exact h⟩) h1
theorem W_load {x : Str} {v : Value} {Q : Value -> St Int -> Prop} (hk : isVar c.env.scope x = true) (hv : S.m x = some v) (h : Q v S) : WM g c (loadName c.env x) S fun v S' => Q (er v) S' := by
  intro H s R
  o_shape
  refine el_AA (isVar_kind hk) ?_; intro k h1 h2
  exact R.name hv k h2 fun u hu => ⟨S, R, by show Q (er u) S; rw [hu]; exact h⟩
theorem isGlob_kind {sc : Scope} {x : Str} (h : isGlob sc x = true) : sc.names.lookup x = some .globalImplicit /\ (x == ("__debug__" : Str)) = false := by
  unfold isGlob at h
  simp only [Bool.and_eq_true, Bool.not_eq_true'] at h
  refine ⟨?_, h.2⟩
  have := h.1
  split at this <;> simp_all
theorem WE_Glob {x : Str} {pos : Pos} {v : Value} {Q : Value -> St Int -> Prop} (hk : isGlob c.env.scope x = true) (hv : nsIn g.K mainGlobals x = some (some v)) (h : Q (er v) S) : WE g c (.Name x pos) S Q := by
  intro H s R
  o_shape
  refine el_A (isGlob_kind hk) ?_; intro k h1
  refine Name_function_global R.ac.kind k (loadGlobal_global (by rw [R.ac.gl]; exact R.ok.gl.keeps R.keep) (mg_of R.ok.k R.ok.gl hv) ⟨S, R, h⟩) h1
theorem WE_Built {x : Str} {pos : Pos} {v : Value} {Q : Value -> St Int -> Prop} (hk : isGlob c.env.scope x = true) (hv : nsIn g.K mainGlobals x = some none) (hb : bootBuiltins x = some v) (hx : x ≠ "__name__") (h : Q (er v) S) : WE g c (.Name x pos) S Q := by
  intro H s R
  o_shape
  refine el_A (isGlob_kind hk) ?_; intro k h1
  refine Name_function_global R.ac.kind k (loadGlobal_builtin (by rw [R.ac.gl]; exact R.ok.gl.keeps R.keep) (mg_none_of R.ok.k R.ok.gl hv) (by rw [R.ac.bl]; exact R.ok.bl.keeps R.keep) ((R.ok.bi x hx).trans hb) ⟨S, R, h⟩) h1
theorem isOwn_kind {sc : Scope} {x : Str} (h : isOwn sc x = true) : sc.names.lookup x = some .local ∨ sc.names.lookup x = some .cell := by
  unfold isOwn at h
  split at h <;> simp_all
theorem W_Store {x : Str} {v : Value} {Q : St Int -> Prop} (hk : isOwn c.env.scope x = true) (hx : c.ext x = false) (h : Q ⟨setv S.m x v, S.σ⟩) : WStore g c x v S Q := by
  intro u hu H s R
  o_shape
  rcases isOwn_kind hk with k | k
  · (refine el_EA R.loc ?_; intro m hm hl)
    refine wpAny_storeName_local k hm (fun h' hn hs => ?_) (by show (c.env.scope.kind == .class || (c.env.scope.kind == .module && c.env.locals != c.env.globals)) = false; rw [R.ac.kind]; rfl)
    refine ⟨⟨setv S.m x v, S.σ⟩, ?_, h⟩
    have := R.setLoc (tk := s.toks + 1) hl k hx hn hs
    rwa [hu] at this
  refine el_E (R.ac.cells x k) ?_; intro a ha
  refine el_EA (R.cel x a ha ⟨k, hx⟩) ?_; intro u₀ hu₀ _
  refine wpAny_storeName_cell R.ac.kind k ha hu₀ fun h' hn hs => ?_
  refine ⟨⟨setv S.m x v, S.σ⟩, ?_, h⟩
  have := R.setCell (tk := s.toks) ⟨k, hx⟩ ha hn hs
  rwa [hu] at this
theorem WE_int {i : Int} {k : Nat} {pos : Pos} {Q : Value -> St Int -> Prop} (h : Q (.int i 0) S) : WE g c (.Constant (.int i) k pos) S Q := fun _ _ R => wpAny_Constant_int ⟨S, R.toks, h⟩
theorem WE_str {x : Str} {k : Nat} {pos : Pos} {Q : Value -> St Int -> Prop} (h : Q (.str x 0) S) : WE g c (.Constant (.str x) k pos) S Q := fun _ _ R => wpAny_Constant_str ⟨S, R.toks, h⟩
theorem WE_none {k : Nat} {pos : Pos} {Q : Value -> St Int -> Prop} (h : Q .none S) : WE g c (.Constant .none k pos) S Q := fun _ _ R => wpAny_Constant_none ⟨S, R, h⟩
theorem WE_bool {b : Bool} {k : Nat} {pos : Pos} {Q : Value -> St Int -> Prop} (h : Q (.bool b) S) : WE g c (.Constant (.bool b) k pos) S Q := fun _ _ R => wpAny_Constant_bool ⟨S, R, h⟩
theorem WE_BinOp {l r : Expr} {op : Operator} {pos : Pos} {Q : Value -> St Int -> Prop} (h : WE g c l S fun a S₁ => WE g c r S₁ fun b S₂ => WBin g c op a b S₂ Q) : WE g c (.BinOp l op r pos) S Q :=
  fun H _ R => wpAny_BinOp (goK (h H _ R) (fun _ _ _ R₁ h₁ => goK (h₁ H _ R₁) (fun _ _ _ R₂ h₂ => h₂ _ _ rfl rfl H _ R₂)))
theorem WE_UnaryOp {x : Expr} {op : UnaryOp} {pos : Pos} {Q : Value -> St Int -> Prop} (h : WE g c x S fun a S₁ => WUn g c op a S₁ Q) : WE g c (.UnaryOp op x pos) S Q :=
  fun H _ R => wpAny_UnaryOp (goK (h H _ R) (fun _ _ _ R₁ h₁ => h₁ _ rfl H _ R₁))
theorem WE_Compare {l r : Expr} {op : CmpOp} {pos : Pos} {Q : Value -> St Int -> Prop} (hm : behindInMarks op r = false) (h : WE g c l S fun a S₁ => WE g c r S₁ fun b S₂ => WCmp g c op a b S₂ Q) : WE g c (.Compare l [op] [r] pos) S Q :=
  fun H _ R => wpAny_Compare1 (goK (h H _ R) (fun _ _ _ R₁ h₁ => goK (h₁ H _ R₁) (fun _ _ _ R₂ h₂ => h₂ _ _ rfl rfl H _ R₂))) hm
theorem WT_Compare {l r : Expr} {op : CmpOp} {pos : Pos} {Q : Bool -> St Int -> Prop} (hm : behindInMarks op r = false) (h : WE g c l S fun a S₁ => WE g c r S₁ fun b S₂ => WCmp g c op a b S₂ fun v S₃ => WTr g c v S₃ Q) : WT g c (.Compare l [op] [r] pos) S Q :=
  fun H _ R => wpAny_isTrue_Compare1 (goK (h H _ R) (fun _ _ _ R₁ h₁ => goK (h₁ H _ R₁) (fun _ _ _ R₂ h₂ => goK (h₂ _ _ rfl rfl H _ R₂) (fun _ _ _ R₃ h₃ => h₃ _ rfl H _ R₃)))) hm
theorem WT_value {e : Expr} {Q : Bool -> St Int -> Prop} (he : ∀ env whole, isTrue e env whole = (do let v ← whole; standAt e.pos; holding [v] (truthy v))) (h : WE g c e S fun a S₁ => WTr g c a S₁ Q) : WT g c e S Q :=
  fun H _ R => wpAny_isTrue_value (goK (h H _ R) (fun _ _ _ R₁ h₁ => h₁ _ rfl H _ R₁)) (he _ _)
theorem WT_Not {x : Expr} {pos : Pos} {Q : Bool -> St Int -> Prop} (h : WT g c x S fun b S₁ => Q (!b) S₁) : WT g c (.UnaryOp .Not x pos) S Q :=
  fun H _ R => wpAny_isTrue_Not (h H _ R)
theorem WTr_bool {b : Bool} {Q : Bool -> St Int -> Prop} (h : Q b S) : WTr g c (.bool b) S Q := by
  intro u hu H s R
  o_shape
  rw [er_bool hu]
  exact wpAny_truthy_bool ⟨S, R, h⟩
theorem WE_IfExp {t b o : Expr} {pos : Pos} {Q : Value -> St Int -> Prop} (h : WT g c t S fun x S₁ => if x = true then WE g c b S₁ Q else WE g c o S₁ Q) : WE g c (.IfExp t b o pos) S Q := by
  intro H s R
  o_shape
  refine wpAny_IfExp (goK (h H _ R) (fun x s₁ S₁ R₁ h₁ => ?_))
  cases x
  · exact h₁ H _ R₁
  exact h₁ H _ R₁
theorem WXs_nil {Q : Flow -> St Int -> Prop} (h : Q .next S) : WXs g c [] S Q := fun _ _ R => wpAny_execs_nil ⟨S, R, h⟩
noncomputable abbrev SeqQ (g : Gl Int) (c : Ac) (ss : List Stmt) (Q : Flow -> St Int -> Prop) (f : Flow) (S₁ : St Int) : Prop := match f with | .next => WXs g c ss S₁ Q | f => Q f S₁
theorem WXs_cons {st : Stmt} {ss : List Stmt} {Q : Flow -> St Int -> Prop} (h : WX g c st S (SeqQ g c ss Q)) : WXs g c (st :: ss) S Q := by
  intro H s R
  o_shape
  refine wpAny_execs_cons (goK (h H _ R) (fun f s₁ S₁ R₁ h₁ => ?_))
  cases f with
  | next => exact h₁ H _ R₁
  | brk => exact ⟨S₁, R₁, h₁⟩
  | cont => exact ⟨S₁, R₁, h₁⟩
  | ret v => exact ⟨S₁, R₁, h₁⟩
theorem WX_If {t : Expr} {b o : List Stmt} {pos : Pos} {Q : Flow -> St Int -> Prop} (h : WT g c t S fun x S₁ => if x = true then WXs g c b S₁ Q else WXs g c o S₁ Q) : WX g c (.If t b o pos) S Q := by
  intro H s R
  o_shape
  refine wpAny_If (goK (h H _ R) (fun x s₁ S₁ R₁ h₁ => ?_))
  cases x
  · exact h₁ H _ R₁
  exact h₁ H _ R₁
theorem WX_Return {e : Expr} {pos : Pos} {Q : Flow -> St Int -> Prop} (h : WE g c e S fun v S₁ => Q (.ret v) S₁) : WX g c (.Return (some e) pos) S Q := fun H _ R => wpAny_Return_some (h H _ R)
theorem WX_Continue {pos : Pos} {Q : Flow -> St Int -> Prop} (h : Q .cont S) : WX g c (.Continue pos) S Q := fun _ _ R => wpAny_Continue ⟨S, R, h⟩
theorem WX_Break {pos : Pos} {Q : Flow -> St Int -> Prop} (h : Q .brk S) : WX g c (.Break pos) S Q := fun _ _ R => wpAny_Break ⟨S, R, h⟩
theorem WX_AssignName {x : Str} {p pos : Pos} {e : Expr} {Q : Flow -> St Int -> Prop} (hs : ∀ env, swapsWith e (some (.Name x p)) pos.line env = pure false) (h : WE g c e S fun v S₁ => WStore g c x v S₁ (Q .next)) : WX g c (.Assign [.Name x p] e pos) S Q :=
  fun H _ R => wpAny_Assign_Name (goK (h H _ R) (fun _ _ _ R₁ h₁ => h₁ _ rfl H _ R₁)) (hs _)
theorem WX_AssignSub {o i e : Expr} {p pos : Pos} {Q : Flow -> St Int -> Prop} (hs : ∀ env, swapsWith e (some (.Subscript o i p)) pos.line env = pure false)
    (h : WE g c e S fun v S₁ => WE g c o S₁ fun ov S₂ => WE g c i S₂ fun iv S₃ => WSetItem g c ov iv v S₃ (Q .next)) : WX g c (.Assign [.Subscript o i p] e pos) S Q :=
  fun H _ R => wpAny_Assign_Subscript (goK (h H _ R) (fun _ _ _ R₁ h₁ => goK (h₁ H _ R₁) (fun _ _ _ R₂ h₂ => goK (h₂ H _ R₂) (fun _ _ _ R₃ h₃ => h₃ _ _ _ rfl rfl rfl H _ R₃)))) (hs _)
theorem WX_AugName {x : Str} {p pos : Pos} {op : Operator} {e : Expr} {a : Value} {Q : Flow -> St Int -> Prop} (hk : isVar c.env.scope x = true) (hv : S.m x = some a)
    (h : WE g c e S fun b S₂ => WIn g c op a b S₂ fun r S₃ => WStore g c x r S₃ (Q .next)) : WX g c (.AugAssign (.Name x p) op e pos) S Q := by
  intro H s R
  o_shape
  refine wpAny_AugAssign_Name (goK (W_load (Q := fun v S₁ => v = a /\ S₁ = S) hk hv ⟨rfl, rfl⟩ H _ R) (fun u s₁ S₁ R₁ q_ => ?_))
  refine el_A q_ ?_; clear q_; intro hu e₁
  subst e₁
  exact goK (h H _ R₁) (fun _ _ _ R₂ h₂ => goK (h₂ _ _ hu rfl H _ R₂) (fun _ _ _ R₃ h₃ => h₃ _ rfl H _ R₃))
theorem WX_AugAttr {o e : Expr} {x : Str} {p pos : Pos} {op : Operator} {Q : Flow -> St Int -> Prop}
    (h : WE g c o S fun ov S₁ => WGet g c ov x S₁ fun old S₂ => WE g c e S₂ fun b S₃ => WIn g c op old b S₃ fun r S₄ => WSet g c ov x r S₄ (Q .next)) : WX g c (.AugAssign (.Attribute o x p) op e pos) S Q :=
  fun H _ R => wpAny_AugAssign_AttributeAny (wpAny_mono (h H _ R) (fun _ _ ⟨_, R₁, h₁⟩ => wpAny_mono (h₁ _ _ rfl H _ R₁) (fun _ _ ⟨_, R₂, h₂⟩ => wpAny_mono (h₂ H _ R₂) (fun _ _ ⟨_, R₃, h₃⟩ =>
    goK (h₃ _ _ rfl rfl H _ R₃) (fun _ _ _ R₄ h₄ => h₄ _ _ rfl rfl H _ R₄)) fun _ _ x => x) fun _ _ x => x) fun _ _ x => x)
theorem WE_NamedExpr {x : Str} {p pos : Pos} {e : Expr} {Q : Value -> St Int -> Prop} (h : WE g c e S fun v S₁ => WStore g c x v S₁ fun S₂ => Q v S₂) : WE g c (.NamedExpr (.Name x p) e pos) S Q :=
  fun H _ R => wpAny_NamedExpr (goK (h H _ R) (fun _ _ _ R₁ h₁ => wpAny_assign_Name (h₁ _ rfl H _ R₁)))
theorem WAsg_Name {x : Str} {p : Pos} {v : Value} {Q : St Int -> Prop} (h : WStore g c x v S Q) : WAsg g c (.Name x p) v S Q :=
  fun u hu H _ R => wpAny_assign_Name (h u hu H _ R)
section
variable {i j : Int} {Q : Value -> St Int -> Prop}
theorem WBin_of {op : Operator} {r : Int} (hr : ∀ (t u : Tok) (s : Shared) (P : Value -> Shared -> Prop) (E : Value -> Shared -> Prop), P (.int r s.toks) { s with toks := s.toks + 1 } -> wpAny (model g.prog g.w) c.A (binaryOp op (.int i t) (.int j u)) P E s)
    (h : Q (.int r 0) S) : WBin g c op (.int i 0) (.int j 0) S Q := by
  intro u v hu hv H s R
  o_shape
  refine el_E (er_int hu) ?_; intro t rfl_134; subst rfl_134
  refine el_E (er_int hv) ?_; intro t' rfl_133; subst rfl_133
  exact hr _ _ _ _ _ ⟨S, R.toks, h⟩
theorem WBin_add (h : Q (.int (i + j) 0) S) : WBin g c .Add (.int i 0) (.int j 0) S Q := WBin_of (fun _ _ _ _ _ h => add_int h) h
theorem WBin_sub (h : Q (.int (i - j) 0) S) : WBin g c .Sub (.int i 0) (.int j 0) S Q := WBin_of (fun _ _ _ _ _ h => sub_int h) h
theorem WBin_mul (hm : IntMulOk i j) (h : Q (.int (i * j) 0) S) : WBin g c .Mult (.int i 0) (.int j 0) S Q := WBin_of (fun _ _ _ _ _ h => mul_int h hm) h
theorem WBin_mod (hj : j ≠ 0) (h : Q (.int (i.fmod j) 0) S) : WBin g c .Mod (.int i 0) (.int j 0) S Q := WBin_of (fun _ _ _ _ _ h => mod_int hj h) h
theorem WBin_and (h : Q (.int (Builtin.bitAnd i j) 0) S) : WBin g c .BitAnd (.int i 0) (.int j 0) S Q := WBin_of (fun _ _ _ _ _ h => and_int h) h
theorem WIn_add (h : Q (.int (i + j) 0) S) : WIn g c .Add (.int i 0) (.int j 0) S Q := by
  intro u v hu hv H s R
  o_shape
  refine el_E (er_int hu) ?_; intro t rfl_132; subst rfl_132
  refine el_E (er_int hv) ?_; intro t' rfl_131; subst rfl_131
  exact iadd_int ⟨S, R.toks, h⟩
theorem WCmp_of {op : CmpOp} {b : Bool} (hr : ∀ (t u : Tok) (s : Shared) (P : Value -> Shared -> Prop) (E : Value -> Shared -> Prop), P (.bool b) s -> wpAny (model g.prog g.w) c.A (compareOp op (.int i t) (.int j u)) P E s)
    (h : Q (.bool b) S) : WCmp g c op (.int i 0) (.int j 0) S Q := by
  intro u v hu hv H s R
  o_shape
  refine el_E (er_int hu) ?_; intro t rfl_130; subst rfl_130
  refine el_E (er_int hv) ?_; intro t' rfl_129; subst rfl_129
  exact hr _ _ _ _ _ ⟨S, R, h⟩
theorem WCmp_lt (h : Q (.bool (decide (i < j))) S) : WCmp g c .Lt (.int i 0) (.int j 0) S Q := WCmp_of (fun _ _ _ _ _ h => lt_int h) h
theorem WCmp_ge (h : Q (.bool (decide (j ≤ i))) S) : WCmp g c .GtE (.int i 0) (.int j 0) S Q := WCmp_of (fun _ _ _ _ _ h => ge_int h) h
theorem WCmp_eq (h : Q (.bool (i == j)) S) : WCmp g c .Eq (.int i 0) (.int j 0) S Q := WCmp_of (fun _ _ _ _ _ h => eq_int h) h
theorem WCmp_ne (h : Q (.bool (i != j)) S) : WCmp g c .NotEq (.int i 0) (.int j 0) S Q := WCmp_of (fun _ _ _ _ _ h => ne_int h) h
theorem WUn_neg (h : Q (.int (-i) 0) S) : WUn g c .USub (.int i 0) S Q := by
  intro u hu H s R
  o_shape
  refine el_E (er_int hu) ?_; intro t rfl_128; subst rfl_128
  exact neg_int ⟨S, R.toks, h⟩
end
theorem WUn_not {a : Value} {Q : Value -> St Int -> Prop} (h : WTr g c a S fun b S₁ => Q (.bool (!b)) S₁) : WUn g c .Not a S Q :=
  fun u hu H _ R => not_of (goK (h u hu H _ R) (fun _ _ S₁ R₁ q => ⟨S₁, R₁, q⟩))
section
variable {x y : Str} {Q : Value -> St Int -> Prop}
theorem WCmp_eqs (h : Q (.bool (x == y)) S) : WCmp g c .Eq (.str x 0) (.str y 0) S Q := by
  intro u v hu hv H s R
  o_shape
  refine el_E (er_str hu) ?_; intro t rfl_127; subst rfl_127
  refine el_E (er_str hv) ?_; intro t' rfl_126; subst rfl_126
  exact eq_str ⟨S, R, h⟩
theorem WBin_adds (hsz : x.length + y.length ≤ sizeLine) (h : Q (.str (x ++ y) 0) S) : WBin g c .Add (.str x 0) (.str y 0) S Q := by
  intro u v hu hv H s R
  o_shape
  refine el_E (er_str hu) ?_; intro t rfl_123; subst rfl_123
  refine el_E (er_str hv) ?_; intro t' rfl_122; subst rfl_122
  exact add_str (fun _ _ => ⟨S, R.toks, h⟩) hsz
end
end
end
section
noncomputable def allobjs (h₀ h : Heap) (L : Addr) : List (Addr × Obj) := (List.range h.objs.size).filterMap fun a => if a = L ∨ (h₀.get? a).isSome = true then none else (h.get? a).map fun o => (a, o)
theorem mem_allobjs {h₀ h : Heap} {L : Addr} {p : Addr × Obj} : p ∈ allobjs h₀ h L ↔ (p.1 ≠ L /\ h₀.get? p.1 = none) /\ h.get? p.1 = some p.2 := by
  unfold allobjs
  rw [List.mem_filterMap]
  constructor
  · intro q_
    refine el_EA q_ ?_; clear q_; intro a _ e
    split at e
    · exact Mine.ns e
    rename_i q
    refine el_EA (Option.map_eq_some_iff.mp e) ?_; intro o ho rfl_179; subst rfl_179
    refine ⟨⟨fun e => q (.inl e), ?_⟩, ho⟩
    show h₀.get? a = none
    cases z : h₀.get? a with
    | none => rfl
    | some o' => exact absurd (.inr (by rw [z]; rfl)) q
  intro q_
  refine el_A q_ ?_; clear q_; intro nn_178 h2; obtain ⟨h1, h3⟩ := nn_178
  refine ⟨p.1, List.mem_range.mpr (Heap.lt_size h2), ?_⟩
  rw [if_neg (by rw [h3]; rintro (e | e); exact h1 e; exact Mine.ft e), h2]; rfl
theorem nodup_filterMap_keys {f : Nat -> Option (Nat × Obj)} (hf : ∀ a p, f a = some p -> p.1 = a) : ∀ l : List Nat, l.Nodup -> ((l.filterMap f).map (·.1)).Nodup
  | [], _ => List.nodup_nil
  | a :: l, h => by
    refine el_A (List.nodup_cons.mp h) ?_; intro h1 h2
    have ih := nodup_filterMap_keys hf l h2
    rw [List.filterMap_cons]
    cases q : f a with
    | none => exact ih
    | some p =>
      refine List.nodup_cons.mpr ⟨fun hm => ?_, ih⟩
      refine el_EA (List.mem_map.mp hm) ?_; intro p' hp' e
      refine el_EA (List.mem_filterMap.mp hp') ?_; intro b hb hq
      have := hf b p' hq
      have := hf a p q
      have e' : p'.1 = p.1 := e
      exact h1 (by rw [← hf a p q, ← e', hf b p' hq]; exact hb)
theorem nodup_allobjs (h₀ h : Heap) (L : Addr) : ((allobjs h₀ h L).map (·.1)).Nodup := by
  refine nodup_filterMap_keys (fun a p e => ?_) _ List.nodup_range
  split at e
  · exact Mine.ns e
  (refine el_EA (Option.map_eq_some_iff.mp e) ?_; intro o ho rfl_177; subst rfl_177); rfl
theorem upd_exists {a : Addr} {ob ob' : Obj} : ∀ {l : List (Addr × Obj)}, (l.map (·.1)).Nodup -> (a, ob) ∈ l -> ∃ l', Upd a ob ob' l l' /\ (a, ob') ∈ l' /\ ∀ p ∈ l, p.1 ≠ a -> p ∈ l'
  | [], _, h => by cases h
  | p :: l, nd, h => by
    refine el_A (List.nodup_cons.mp nd) ?_; intro h1 h2
    by_cases hp : p.1 = a
    · have : p = (a, ob) := by
        rcases List.mem_cons.mp h with q | q
        · exact q.symm
        exact absurd (List.mem_map.mpr ⟨_, q, hp.symm⟩) h1
      subst this
      refine ⟨(a, ob') :: l, .head fun q hq e => h1 (List.mem_map.mpr ⟨q, hq, e⟩), .head _, fun q hq hn => ?_⟩
      rcases List.mem_cons.mp hq with rfl | hq
      · exact absurd rfl hn
      exact .tail _ hq
    have hm : (a, ob) ∈ l := by
      rcases List.mem_cons.mp h with q | q
      · exact absurd (by rw [← q]) hp
      exact q
    obtain ⟨l', u, m1, m2⟩ := upd_exists h2 hm
    refine ⟨p :: l', .tail hp u, .tail _ m1, fun q hq hn => ?_⟩
    rcases List.mem_cons.mp hq with rfl | hq
    · exact .head _
    exact .tail _ (m2 q hq hn)
section
variable {g : Gl Int} {c : Ac} {S S' : St Int}
namespace Rel
variable {H : Hid} {s : Shared}
theorem led (R : Rel g c H S s) : ∃ m, Fr g.h₀ c.env.locals s.heap m /\ News g.h₀ c.env.locals s.heap (allobjs g.h₀ s.heap c.env.locals) /\
    ∀ x v, S.m x = some v -> c.env.kindOf x = some .local -> ∃ u, m x = some u /\ er u = v := by
  refine el_EA R.loc ?_; intro m hm hv
  refine ⟨m, ⟨hm, R.keep, R.above⟩, fun p hp => ?_, hv⟩
  refine el_A (mem_allobjs.mp hp) ?_; intro nn_176 h2; obtain ⟨h1, h3⟩ := nn_176
  exact ⟨h2, h1, h3⟩
theorem backBut (R : Rel g c H S s) {m : Str -> Option Value} (hv : ∀ x v, S.m x = some v -> c.env.kindOf x = some .local -> ∃ u, m x = some u /\ er u = v)
    {h' : Heap} {tk : Tok} (F : Fr g.h₀ c.env.locals h' m) (hk : ∀ p ∈ allobjs g.h₀ s.heap c.env.locals, h'.get? p.1 = some p.2) : Rel g c H S { s with heap := h', toks := tk } := by
  refine el_EAAAA R.role ?_; intro ρ r0 r1 r2 r3 r4
  have k : ∀ b o, b ≠ c.env.locals -> s.heap.get? b = some o -> h'.get? b = some o := fun b o hb e => by
    cases z : g.h₀.get? b with
    | none => exact hk (b, o) (mem_allobjs.mpr ⟨⟨hb, z⟩, e⟩)
    | some o' => rw [F.keep b o' z, ← e, R.keep b o' z]
  refine { ok := R.ok, ac := R.ac, above := R.above, os := R.os, bare := R.bare, gen := R.gen, inj := R.inj, fre := R.fre, role := ⟨ρ, r0, r1, r2, r3, r4⟩, loc := ⟨m, F.ns, hv⟩, keep := ?_, hid := ?_, cel := ?_, sto := ?_ }
  · exact fun b o e => k b o (ne (r0 b o e) r1) (R.keep b o e)
  · exact fun b o e => k _ _ (ne (r3 b o e) r1) (R.hid b o e)
  · intro x b h1 h2
    refine el_EA (R.cel x b h1 h2) ?_; intro u nn_175 hu; obtain ⟨oc, hc, hd⟩ := nn_175
    exact ⟨u, ⟨oc, k _ _ (ne (r2 x b h1 h2) r1) hc, hd⟩, hu⟩
  intro b o e
  refine el_EA (R.sto b o e) ?_; intro ob h1 h2
  exact ⟨ob, k _ _ (ne (r4 b o e) r1) h1, h2⟩
theorem back (R : Rel g c H S s) {m : Str -> Option Value} (hv : ∀ x v, S.m x = some v -> c.env.kindOf x = some .local -> ∃ u, m x = some u /\ er u = v)
    {h' : Heap} {tk : Tok} (F : Fr g.h₀ c.env.locals h' m) (N' : News g.h₀ c.env.locals h' (allobjs g.h₀ s.heap c.env.locals)) : Rel g c H S { s with heap := h', toks := tk } :=
  R.backBut hv F fun p hp => (N' p hp).1
theorem backNew (R : Rel g c H S s) {m : Str -> Option Value} (hv : ∀ x v, S.m x = some v -> c.env.kindOf x = some .local -> ∃ u, m x = some u /\ er u = v)
    {h' : Heap} {tk : Tok} {a : Addr} {ob : Obj} {o : AO Int} (F : Fr g.h₀ c.env.locals h' m) (N' : News g.h₀ c.env.locals h' ((a, ob) :: allobjs g.h₀ s.heap c.env.locals)) (ha : s.heap.get? a = none) (hi : Is g ob o) :
    S.σ a = none /\ Rel g c H ⟨S.m, upd S.σ a o⟩ { s with heap := h', toks := tk } := by
  have R' := R.backBut (tk := tk) hv F fun p hp => (N' p (.tail _ hp)).1
  have hn := (N' _ (.head _)).1
  have hl := (N' _ (.head _)).2.1
  have none : S.σ a = none := by
    cases q : S.σ a with
    | none => rfl
    | some o' => (refine el_EA (R.sto a o' q) ?_; intro ob' e _); rw [ha] at e; exact Mine.ns e
  have nz : ∀ b o, s.heap.get? b = some o -> b ≠ a := fun b o e q => by rw [q, ha] at e; exact Mine.ns e
  refine ⟨none, { R' with sto := ?_, role := ?_ }⟩
  · intro b o' e
    unfold upd at e
    dsimp only at e
    split at e
    · rename_i hb; subst hb; (replace e := Option.some.inj e; subst e); exact ⟨ob, hn, hi⟩
    exact R'.sto b o' e
  refine el_EAAAA R.role ?_; intro ρ r0 r1 r2 r3 r4
  refine ⟨fun b => if b = a then 4 else ρ b, fun b o e => ?_, ?_, fun x b h1 h2 => ?_, fun b o e => ?_, fun b o' e => ?_⟩
  · dsimp only; rw [if_neg (nz b o (R.keep b o e))]; exact r0 b o e
  · dsimp only; rw [if_neg (Ne.symm hl)]; exact r1
  · (refine el_EA (R.cel x b h1 h2) ?_; intro u nn_174 _; obtain ⟨oc, hc, _⟩ := nn_174)
    dsimp only; rw [if_neg (nz _ _ hc)]; exact r2 x b h1 h2
  · dsimp only; rw [if_neg (nz _ _ (R.hid b o e))]; exact r3 b o e
  by_cases hb : b = a
  · dsimp only; rw [if_pos hb]
  dsimp only; rw [if_neg hb]
  refine r4 b o' ?_
  unfold upd at e
  dsimp only at e
  rwa [if_neg hb] at e
theorem sto_ne (R : Rel g c H S s) {a : Addr} {o : AO Int} (h : S.σ a = some o) : a ≠ c.env.locals := by
  refine el_EAAAA R.role ?_; intro ρ r0 r1 r2 r3 r4
  exact ne (r4 a o h) r1
theorem sto_new (R : Rel g c H S s) {a : Addr} {o : AO Int} (h : S.σ a = some o) : g.h₀.get? a = none := by
  refine el_EAAAA R.role ?_; intro ρ r0 r1 r2 r3 r4
  cases z : g.h₀.get? a with
  | none => rfl
  | some o' => have := r0 a o' z; rw [r4 a o h] at this; cases this
theorem backUpd (R : Rel g c H S s) {m : Str -> Option Value} (hv : ∀ x v, S.m x = some v -> c.env.kindOf x = some .local -> ∃ u, m x = some u /\ er u = v)
    {h' : Heap} {tk : Tok} {a : Addr} {ob' : Obj} {o₀ o : AO Int} (ha : S.σ a = some o₀) (F : Fr g.h₀ c.env.locals h' m) (hk : ∀ p ∈ allobjs g.h₀ s.heap c.env.locals, p.1 ≠ a -> h'.get? p.1 = some p.2) (hn : h'.get? a = some ob') (hi : Is g ob' o) :
    Rel g c H ⟨S.m, upd S.σ a o⟩ { s with heap := h', toks := tk } := by
  refine el_EAAAA R.role ?_; intro ρ r0 r1 r2 r3 r4
  have ra := r4 a _ ha
  have k : ∀ b o, b ≠ c.env.locals -> b ≠ a -> s.heap.get? b = some o -> h'.get? b = some o := fun b o hb hb' e => by
    cases z : g.h₀.get? b with
    | none => exact hk (b, o) (mem_allobjs.mpr ⟨⟨hb, z⟩, e⟩) hb'
    | some o' => rw [F.keep b o' z, ← e, R.keep b o' z]
  refine { ok := R.ok, ac := R.ac, above := R.above, os := R.os, bare := R.bare, gen := R.gen, inj := R.inj, fre := R.fre, role := ?_, loc := ⟨m, F.ns, hv⟩, keep := ?_, hid := ?_, cel := ?_, sto := ?_ }
  · exact fun b o e => k b o (ne (r0 b o e) r1) (ne (r0 b o e) ra) (R.keep b o e)
  · exact fun b o e => k _ _ (ne (r3 b o e) r1) (ne (r3 b o e) ra) (R.hid b o e)
  · intro x b h1 h2
    refine el_EA (R.cel x b h1 h2) ?_; intro u nn_173 hu; obtain ⟨oc, hc, hd⟩ := nn_173
    exact ⟨u, ⟨oc, k _ _ (ne (r2 x b h1 h2) r1) (ne (r2 x b h1 h2) ra) hc, hd⟩, hu⟩
  · intro b o' e
    unfold upd at e
    dsimp only at e
    split at e
    · rename_i hb; subst hb; (replace e := Option.some.inj e; subst e); exact ⟨ob', hn, hi⟩
    rename_i hb
    refine el_EA (R.sto b o' e) ?_; intro ob h1 h2
    exact ⟨ob, k _ _ (ne (r4 b o' e) r1) hb h1, h2⟩
  refine ⟨ρ, r0, r1, r2, r3, fun b o' e => ?_⟩
  unfold upd at e
  dsimp only at e
  split at e
  · rename_i hb; subst hb; exact ra
  exact r4 b o' e
theorem updLed (R : Rel g c H S s) {a : Addr} {ob : Obj} (hg : s.heap.get? a = some ob) {o₀ : AO Int} (ha : S.σ a = some o₀) (ob' : Obj) : ∃ news', Upd a ob ob' (allobjs g.h₀ s.heap c.env.locals) news' /\
    ∀ {m : Str -> Option Value}, (∀ x v, S.m x = some v -> c.env.kindOf x = some .local -> ∃ u, m x = some u /\ er u = v) ->
      ∀ {h' : Heap} {tk : Tok} {o : AO Int}, Fr g.h₀ c.env.locals h' m -> News g.h₀ c.env.locals h' news' -> Is g ob' o -> Rel g c H ⟨S.m, upd S.σ a o⟩ { s with heap := h', toks := tk } := by
  refine el_EAA (upd_exists (ob' := ob') (nodup_allobjs g.h₀ s.heap c.env.locals) (mem_allobjs.mpr ⟨⟨R.sto_ne ha, R.sto_new ha⟩, hg⟩ : (a, ob) ∈ _)) ?_; intro l' u m1 m2
  refine ⟨l', u, ?_⟩
  intro m hv h' tk o F' N' hi
  exact R.backUpd (ob' := ob') hv ha F' (fun p hp hne => (N' p (m2 p hp hne)).1) (N' _ m1).1 hi
end Rel
section
variable {a b : Addr} {xs ys : List Value} {x : Value} {Q : Value -> St Int -> Prop}
theorem Is.list {arr : Array Value} {n : Nat} (h : arr.toList.map er = xs) : Is g (listOf arr n) (.list xs) := ⟨arr, n, rfl, h⟩
theorem Is.tup {arr : Array Value} {n : Nat} (h : arr.toList.map er = xs) : Is g { cls := .type "tuple", data := .seq arr n } (.tup xs) := ⟨arr, n, rfl, h⟩
theorem Rel.list {H : Hid} {s : Shared} (R : Rel g c H S s) (ha : S.σ a = some (.list xs)) : ∃ arr n, s.heap.get? a = some (listOf arr n) /\ s.heap.IsList a arr /\ arr.toList.map er = xs /\ arr.size = xs.length := by
  refine el_EAEEA (R.sto a _ ha) ?_; intro ob h1 arr n rfl_172 h2; subst rfl_172
  exact ⟨arr, n, h1, ⟨_, h1, rfl, n, rfl⟩, h2, by rw [← h2, List.length_map, Array.length_toList]⟩
theorem Rel.tup {H : Hid} {s : Shared} (R : Rel g c H S s) (ha : S.σ a = some (.tup xs)) : ∃ arr n, s.heap.get? a = some { cls := .type "tuple", data := .seq arr n } /\ s.heap.IsTuple a arr /\ arr.toList.map er = xs /\ arr.size = xs.length := by
  refine el_EAEEA (R.sto a _ ha) ?_; intro ob h1 arr n rfl_171 h2; subst rfl_171
  exact ⟨arr, n, h1, ⟨_, h1, rfl, n, rfl⟩, h2, by rw [← h2, List.length_map, Array.length_toList]⟩
theorem map_cons {u : List Value} {x : Value} {l : List Value} (h : u.map er = x :: l) : ∃ p r, u = p :: r /\ er p = x /\ r.map er = l :=
  match u, h with
  | [], h => nomatch h
  | p :: r, h => ⟨p, r, rfl, (List.cons.inj h).1, (List.cons.inj h).2⟩
theorem map0 {u : List Value} (h : u.map er = []) : u = [] := List.map_eq_nil_iff.mp h
theorem map1 {u : List Value} {x : Value} (h : u.map er = [x]) : ∃ p, u = [p] /\ er p = x :=
  el_EEAA (map_cons h) fun p r e hp hr => ⟨p, (map0 hr ▸ e : u = [p]), hp⟩
theorem map2 {u : List Value} {x y : Value} (h : u.map er = [x, y]) : ∃ p q, u = [p, q] /\ er p = x /\ er q = y :=
  el_EEAA (map_cons h) fun p r e hp hr => el_EA (map1 hr) fun q e' hq => ⟨p, q, (e' ▸ e : u = [p, q]), hp, hq⟩
theorem map3 {u : List Value} {x y z : Value} (h : u.map er = [x, y, z]) : ∃ p q r, u = [p, q, r] /\ er p = x /\ er q = y /\ er r = z :=
  el_EEAA (map_cons h) fun p r e hp hr => el_EEAA (map2 hr) fun q r' e' hq hr' => ⟨p, q, r', (e' ▸ e : u = [p, q, r']), hp, hq, hr'⟩
theorem WC_append (ha : S.σ a = some (.list xs)) (hz : xs.length ≤ sizeLine) (h : Q .none ⟨S.m, upd S.σ a (.list (xs ++ [x]))⟩) : WC g c (.builtin "list.append") [.ref a, x] S Q := by
  intro us hu H s R
  o_shape
  refine el_EEAA (map2 hu) ?_; intro u v rfl_170 hu1 hv; subst rfl_170
  obtain rfl := er_ref hu1
  refine el_EEAAA (R.list ha) ?_; intro arr n h1 h2 h3 h4
  refine el_EAA R.led ?_; intro m F N' hl
  refine el_EA (R.updLed h1 ha (listOf (arr.push v) (n + 1))) ?_; intro news' U back
  exact append_K F N' U (fun h' F' N' => ⟨_, back hl F' N' (Is.list (xs := xs ++ [x]) (by rw [Array.toList_push, List.map_append, h3, List.map_cons, List.map_nil, hv])), h⟩) (by exact om37 ‹_› ‹_›)
theorem kl_last_eq : ∀ (l : List Value) (y : Value), kl_last (l ++ [y]) = some (l, y)
  | [], _ => rfl
  | x :: l, y => by
    have ih := kl_last_eq l y
    cases l with
    | nil => rfl
    | cons z l => simp only [List.cons_append] at ih ⊢; unfold kl_last; rw [ih]
theorem WC_pop (ha : S.σ a = some (.list (xs ++ [x]))) (hz : xs.length + 1 ≤ sizeLine) (h : Q x ⟨S.m, upd S.σ a (.list xs)⟩) : WC g c (.builtin "list.pop") [.ref a] S Q := by
  intro us hu H s R
  o_shape
  refine el_EA (map1 hu) ?_; intro u rfl_169 hu1; subst rfl_169
  obtain rfl := er_ref hu1
  refine el_EEAAA (R.list ha) ?_; intro arr n h1 h2 h3 h4
  refine el_EAA R.led ?_; intro m F N' hl
  obtain ⟨ys, y, e1, e2, e3⟩ : ∃ ys y, arr.toList = ys ++ [y] /\ ys.map er = xs /\ er y = x := by
    refine el_EEAA (List.map_eq_append_iff.mp h3) ?_; intro ys l e1 e2 e3
    refine el_EA (map1 e3) ?_; intro y rfl_168 e4; subst rfl_168
    exact ⟨ys, y, e1, e2, e4⟩
  refine el_EA (R.updLed h1 ha (listOf ys.toArray (n + 1))) ?_; intro news' U back
  exact kl_pop F N' (by rw [e1]; exact kl_last_eq ys y) U (by rw [e1]; simpa [← e2] using hz) (fun h' F' N' => ⟨⟨S.m, upd S.σ a (.list xs)⟩, back hl F' N' (Is.list (by simpa using e2)), by subst e3; exact h⟩)
theorem WC_len (ha : S.σ a = some (.list xs)) (hz : (xs.length : Int) < 2 ^ 63) (h : Q (.int xs.length 0) S) : WC g c (.builtin "len") [.ref a] S Q := by
  intro us hu H s R
  o_shape
  refine el_EA (map1 hu) ?_; intro u rfl_166 hu1; subst rfl_166
  obtain rfl := er_ref hu1
  refine el_EEAAA (R.list ha) ?_; intro arr n h1 h2 h3 h4
  exact len_list h2 (by rw [h4]; exact hz) ⟨S, R.toks, by rw [h4]; exact h⟩
theorem WC_lenT (ha : S.σ a = some (.tup xs)) (hz : (xs.length : Int) < 2 ^ 63) (h : Q (.int xs.length 0) S) : WC g c (.builtin "len") [.ref a] S Q := by
  intro us hu H s R
  o_shape
  refine el_EA (map1 hu) ?_; intro u rfl_165 hu1; subst rfl_165
  obtain rfl := er_ref hu1
  refine el_EEAAA (R.tup ha) ?_; intro arr n h1 h2 h3 h4
  exact PyProof.Rows.len_tuple h2 (by rw [h4]; exact hz) ⟨S, R.toks, by rw [h4]; exact h⟩
theorem fin {x y : Value} {Q : Value -> St Int -> Prop} (h : Q x S) (e : er y = x) : Q (er y) S := e ▸ h
theorem get_er {arr : Array Value} {i : Nat} {x : Value} (h : (arr.toList.map er)[i]? = some x) : ∃ y, arr[i]? = some y /\ er y = x := by
  rw [List.getElem?_map, Option.map_eq_some_iff] at h
  refine el_EA h ?_; (try clear h); intro y h1 h2
  exact ⟨y, by simpa using h1, h2⟩
theorem WItem_list {i : Int} (ha : S.σ a = some (.list xs)) (h0 : 0 ≤ i) (hf : i < 2 ^ 63) (hx : xs[i.toNat]? = some x) (h : Q x S) : WItem g c (.ref a) (.int i 0) S Q := by
  intro u v hu hv H s R
  o_shape
  obtain rfl := er_ref hu
  refine el_E (er_int hv) ?_; intro t rfl_164; subst rfl_164
  refine el_EEAAA (R.list ha) ?_; intro arr n h1 h2 h3 h4
  refine el_EA (get_er (arr := arr) (by rw [h3]; exact hx)) ?_; intro y e1 e2
  exact wpAny_getItem_list h2 h0 hf e1 ⟨S, R, fin h e2⟩
theorem WItem_listNeg {i : Int} (ha : S.σ a = some (.list xs)) (h0 : i < 0) (h1 : -(xs.length : Int) ≤ i) (hf : -(2 ^ 63) ≤ i) (hx : xs[(i + xs.length).toNat]? = some x) (h : Q x S) : WItem g c (.ref a) (.int i 0) S Q := by
  intro u v hu hv H s R
  o_shape
  obtain rfl := er_ref hu
  refine el_E (er_int hv) ?_; intro t rfl_163; subst rfl_163
  refine el_EEAAA (R.list ha) ?_; intro arr n h1 h2 h3 h4
  refine el_EA (get_er (arr := arr) (by rw [h3]; exact hx)) ?_; intro y e1 e2
  exact wpAny_getItem_list_neg h2 h0 (by rw [h4]; assumption) hf (by rw [h4]; exact e1) ⟨S, R, fin h e2⟩
theorem WTr_list (ha : S.σ a = some (.list xs)) (hz : (xs.length : Int) < 2 ^ 63) {Q : Bool -> St Int -> Prop} (h : Q (!xs.isEmpty) S) : WTr g c (.ref a) S Q := by
  intro u hu H s R
  o_shape
  obtain rfl := er_ref hu
  refine el_EEAAA (R.list ha) ?_; intro arr n h1 h2 h3 h4
  refine wpAny_truthy_list h2 (by rw [h4]; exact hz) ⟨S, R.toks, ?_⟩
  have : arr.isEmpty = xs.isEmpty := by rw [← h3]; cases arr with | mk l => cases l <;> rfl
  rw [this]; exact h
end
end
end
section
noncomputable def notStar : Expr -> Bool
  | .Starred .. => false
  | _ => true
theorem starEach_notStar {e : Expr} (h : notStar e = true) (rest : List Expr) (env : Env) : starEach (e :: rest) env = (false, eval e env) :: starEach rest env := by
  cases e <;> first | rfl | exact Mine.ft h
theorem starEach_plain {pos : Pos} {env : Env} : ∀ {es : List Expr}, es.all notStar = true -> (backTo pos (starEach es env)).any (·.1) = false
  | [], _ => rfl
  | e :: r, h => by
    refine el_A (Bool.and_eq_true_iff.mp (by simpa using h : (notStar e && r.all notStar) = true)) ?_; intro h1 h2
    rw [starEach_notStar h1]
    show (false || (backTo pos (starEach r env)).any (·.1)) = false
    rw [starEach_plain h2]; rfl
theorem size_none (h : Heap) : h.get? h.objs.size = none := by
  cases q : h.get? h.objs.size with
  | none => rfl
  | some o => exact absurd (Heap.lt_size q) (Nat.lt_irrefl _)
section
noncomputable def WEs (g : Gl Int) (c : Ac) (es : List Expr) (S : St Int) (Q : List Value -> St Int -> Prop) : Prop := ∀ pos, WM g c (spliced (backTo pos (starEach es c.env))) S fun vs S' => Q (vs.map er) S'
noncomputable def WCW (g : Gl Int) (c : Ac) (f : Value) (first : List Value) (args : List Expr) (S : St Int) (Q : Value -> St Int -> Prop) : Prop :=
  ∀ pos u us, er u = f -> us.map er = first -> WM g c (callWith pos u us (backTo pos (starEach args c.env)) []) S fun v S' => Q (er v) S'
noncomputable def WGM (g : Gl Int) (c : Ac) (o : Value) (name : Str) (S : St Int) (Q : Value -> List Value -> St Int -> Prop) : Prop :=
  ∀ u pl, er u = o -> WM g c (getMethod u name pl) S fun fx S' => Q (er fx.1) (fx.2.map er) S'
variable {g : Gl Int} {c : Ac} {S S' : St Int}
theorem WEs_nil {Q : List Value -> St Int -> Prop} (h : Q [] S) : WEs g c [] S Q := fun _ _ _ R => spliced_none ⟨S, R, h⟩
theorem WEs_cons {e : Expr} {es : List Expr} {Q : List Value -> St Int -> Prop} (hs : notStar e = true) (h : WE g c e S fun v S₁ => WEs g c es S₁ fun vs S₂ => Q (v :: vs) S₂) : WEs g c (e :: es) S Q :=
  fun pos H _ R => spliced_more (goK (h H _ R) (fun _ _ _ R₁ h₁ => goK (h₁ pos H _ R₁) (fun _ _ S₂ R₂ h₂ => ⟨S₂, R₂, h₂⟩))) (starEach_notStar hs _ _)
noncomputable def Keeps (K : Frag) (f : Value) : Bool := match f with
  | .builtin _ => true
  | .type _ => true
  | .ref a => keepIn K (.ref a)
  | _ => false
theorem keeps_er {K : Frag} {f : Value} (hk : Keeps K f = true) (u : Value) (h : er u = f) : u = f := by
  cases f with
  | builtin i => exact er_builtin h
  | type i => exact er_type h
  | ref i => exact er_ref h
  | _ => exact Mine.ft hk
theorem keeps_cw {K : Frag} {f : Value} (hk : Keeps K f = true) {M : Model} {A : Around} {s : Shared} {E : Value -> Shared -> Prop} {pos : Pos} {first : List Value} {args : List (Bool × Sem Value)} {Q : Value -> Shared -> Prop}
    (hp : args.any (·.1) = false) (h : wpAny M A (evalArgs f true args []) (fun a s₁ => K.In s₁.heap /\ wpAny M A (call f (first ++ a.pos) a.kw) Q E s₁) E s) : wpAny M A (callWith pos f first args []) Q E s := by
  cases f with
  | builtin i => exact callWith_builtin hp (wpAny_mono h (fun _ _ q => q.2) fun _ _ x => x)
  | type T => exact PyProof.Rows.callWith_type hp (wpAny_mono h (fun _ _ q => q.2) fun _ _ x => x)
  | ref a => exact callWith_of (P := fun h => K.In h) (by rw [hp]; rfl) (keeps_K hk) h
  | _ => exact Mine.ft hk
theorem W_CW0 {f : Value} {first : List Value} {Q : Value -> St Int -> Prop} (hk : Keeps g.K f = true) (h : WC g c f first S Q) : WCW g c f first [] S Q := by
  intro pos u us hu hus H s R
  o_shape
  obtain rfl := keeps_er hk u hu
  exact keeps_cw hk rfl (evalArgs_nil3 ⟨R.in_K, by rw [List.append_nil]; exact h us hus H s R⟩)
theorem W_CW {f : Value} {first : List Value} {e : Expr} {rest : List Expr} {Q : Value -> St Int -> Prop} (hk : Keeps g.K f = true) (hs : (e :: rest).all notStar = true)
    (h : WEs g c (e :: rest) S fun vs S₁ => WC g c f (first ++ vs) S₁ Q) : WCW g c f first (e :: rest) S Q := by
  intro pos u us hu hus H s R
  o_shape
  obtain rfl := keeps_er hk u hu
  refine el_A (Bool.and_eq_true_iff.mp (by simpa using hs : (notStar e && rest.all notStar) = true)) ?_; intro h1 h2
  have hp := starEach_plain (pos := pos) (env := c.env) hs
  have := h pos H s R
  rw [starEach_notStar h1] at this hp ⊢
  exact keeps_cw hk hp (evalArgs_plain (goK this (fun vs s₁ S₁ R₁ q => ⟨R₁.in_K, q (us ++ vs) (by rw [List.map_append, hus]) H _ R₁⟩)))
theorem WE_Call {f : Str} {p pos : Pos} {args : List Expr} {Q : Value -> St Int -> Prop} (h : WE g c (.Name f p) S fun fv S₁ => WCW g c fv [] args S₁ Q) : WE g c (.Call (.Name f p) args [] pos) S Q :=
  fun H _ R => wpAny_Call_NameR (goK (h H _ R) (fun _ _ _ R₁ h₁ => h₁ _ _ [] rfl rfl H _ R₁))
theorem WE_Meth {o : Expr} {name : Str} {apos pos : Pos} {args : List Expr} {pl : Env -> Sem Bool} {Q : Value -> St Int -> Prop}
    (he : ∀ env, eval (.Call (.Attribute o name apos) args [] pos) env = (do
      let ov ← eval o env
      standAt apos.atName
      let (f, first) ← holding [ov] (getMethod ov name (pl env))
      callWith pos f first (backTo pos (starEach args env)) []))
    (h : WE g c o S fun ov S₁ => WGM g c ov name S₁ fun f first S₂ => WCW g c f first args S₂ Q) : WE g c (.Call (.Attribute o name apos) args [] pos) S Q :=
  fun H _ R => MethodCall_ (pl := pl c.env) (goK (h H _ R) (fun _ _ _ R₁ h₁ => goK (h₁ _ _ rfl H _ R₁) (fun _ _ _ R₂ h₂ => h₂ _ _ _ rfl rfl H _ R₂))) (he _)
theorem WE_List {es : List Expr} {pos : Pos} {Q : Value -> St Int -> Prop} (h : WEs g c es S fun vs S₁ => vs.length ≤ sizeLine /\ ∀ a, S₁.σ a = none -> Q (.ref a) ⟨S₁.m, upd S₁.σ a (.list vs)⟩) : WE g c (.List es pos) S Q := by
  intro H s R
  o_shape
  refine wpAny_List_spliced (wpAny_mono (h pos H s R) (fun vs s₁ ⟨S₁, R₁, hz, q⟩ => ⟨by simpa using hz, ?_⟩) fun _ _ x => x)
  refine el_A (R₁.add (tk := s₁.toks) (h' := s₁.heap.push (listOf vs.toArray 0)) (Heap.ExtBut.push (Heap.ExtBut.refl _ _) _) (size_none _) (Heap.get?_push_size _ rfl) (Is.list (by simp : _ = vs.map er))) ?_; intro hn R₂
  exact ⟨_, R₂, q _ hn⟩
theorem WE_Tuple {es : List Expr} {k : Nat} {pos : Pos} {Q : Value -> St Int -> Prop} (h : WEs g c es S fun vs S₁ => vs.length ≤ sizeLine /\ ∀ a, S₁.σ a = none -> Q (.ref a) ⟨S₁.m, upd S₁.σ a (.tup vs)⟩) : WE g c (.Tuple es k pos) S Q := by
  intro H s R
  o_shape
  refine wpAny_Tuple_spliced (wpAny_mono (h pos H s R) (fun vs s₁ ⟨S₁, R₁, hz, q⟩ => ⟨by simpa using hz, ?_⟩) fun _ _ x => x)
  refine el_A (R₁.add (tk := s₁.toks) (h' := s₁.heap.push { cls := .type "tuple", data := .seq vs.toArray }) (Heap.ExtBut.push (Heap.ExtBut.refl _ _) _) (size_none _) (Heap.get?_push_size _ rfl) (Is.tup (by simp : _ = vs.map er))) ?_; intro hn R₂
  exact ⟨_, R₂, q _ hn⟩
theorem WE_Sub {o i : Expr} {pos : Pos} {Q : Value -> St Int -> Prop} (h : WE g c o S fun ov S₁ => WE g c i S₁ fun iv S₂ => WV2 g c (subscriptTail o i) ov iv S₂ Q) : WE g c (.Subscript o i pos) S Q :=
  fun H _ R => Subscript_ (goK (h H _ R) (fun _ _ _ R₁ h₁ => goK (h₁ H _ R₁) (fun _ _ _ R₂ h₂ => h₂ _ _ rfl rfl H _ R₂)))
end
end
section
theorem nsFind_list (es : List DictEntry) (x : Str) : nsFind es.toArray x = (es.find? fun e => e.key.isStr x).map (·.val) := by
  unfold nsFind findBy; simp
theorem strKeys_putL {name : Str} {hsh : Int} {t : Tok} {v : Value} : ∀ {es : List DictEntry}, StrKeys es.toArray -> StrKeys (putL name hsh (.str name t) v es).toArray
  | [], _ => by
    intro e he
    simp only [putL, List.mem_toArray, List.mem_singleton] at he
    subst he; exact ⟨_, _, rfl⟩
  | e :: r, h => by
    have hr : StrKeys r.toArray := fun e' he' => h e' (by simp only [List.mem_toArray] at he' ⊢; exact .tail _ he')
    have he : ∃ n t, e.key = .str n t := h e (by simp)
    unfold putL
    intro e' he'
    split at he'
    · simp only [List.mem_toArray, List.mem_cons] at he'
      rcases he' with rfl | he'
      · exact he
      exact hr e' (by simpa using he')
    simp only [List.mem_toArray, List.mem_cons] at he'
    rcases he' with rfl | he'
    · exact he
    exact strKeys_putL hr e' (by simpa using he')
theorem find_putL {name : Str} {hsh : Int} {t : Tok} {v : Value} (x : Str) : ∀ {es : List DictEntry}, (((putL name hsh (.str name t) v es).find? fun e => e.key.isStr x).map (·.val)) = if x = name then some v else (es.find? fun e => e.key.isStr x).map (·.val)
  | [] => by
    by_cases h : x = name
    · subst h; simp [putL, Value.isStr]
    have : (name == x) = false := by simpa using fun e => h e.symm
    simp [putL, Value.isStr, h, this]
  | e :: r => by
    unfold putL
    by_cases he : e.key.isStr name = true
    · rw [if_pos he]
      by_cases h : x = name
      · subst h; simp [he]
      have : e.key.isStr x = false := by
        cases q : e.key.isStr x with
        | false => rfl
        | true => exact absurd (Value.isStr_inj _ _ _ q he) h
      simp [this, h]
    rw [if_neg he]
    by_cases hx : e.key.isStr x = true
    · have : x ≠ name := by rintro rfl; exact he hx
      simp [hx, this]
    have := find_putL (name := name) (hsh := hsh) (t := t) (v := v) x (es := r)
    simp only [List.find?_cons, hx] at this ⊢
    exact this
theorem length_putL {name : Str} {hsh : Int} {t : Tok} {v : Value} : ∀ {es : List DictEntry}, (putL name hsh (.str name t) v es).length ≤ es.length + 1 /\ ((es.find? fun e => e.key.isStr name).isSome = true -> (putL name hsh (.str name t) v es).length = es.length)
  | [] => by simp [putL]
  | e :: r => by
    unfold putL
    by_cases he : e.key.isStr name = true
    · rw [if_pos he]; simp
    rw [if_neg he]
    refine el_A (length_putL (name := name) (hsh := hsh) (t := t) (v := v) (es := r)) ?_; intro h1 h2
    refine ⟨by simpa using h1, fun q => ?_⟩
    simp only [List.find?_cons, he] at q
    simpa using h2 q
theorem getL_of {es : List DictEntry} (hs : StrKeys es.toArray) (x : Str) : getL x es = some (nsFind es.toArray x) := by
  rw [nsFind_list]
  unfold getL
  cases q : es.find? fun e => e.key.isStr x with
  | some e => rfl
  | none =>
    have : es.any (·.refKey) = false := by
      rw [List.any_eq_false]
      intro e he
      refine el_EE (hs e (by simpa using he)) ?_; intro n t h
      simp [DictEntry.refKey, h]
    simp [this]
theorem handedIn_er {v : Value} : handedIn (er v) = handedIn v := by cases v <;> rfl
section
variable {g : Gl Int} {c : Ac} {S S' : St Int} {Q : Value -> St Int -> Prop}
theorem WSub_of {o i : Expr} {ov iv : Value} {T id : String} (hl : typeLookup (.type T) "__getitem__" = pure (some (.builtin id))) (hT : ∀ H s u, Rel g c H S s -> er u = ov -> s.TypeIs u T)
    (hs : ∃ ops : Value -> Value -> List Value, ∀ o' i', subscripted i false o' i' = operate (ops o' i') (getItem o' i')) (h : WItem g c ov iv S Q) : WV2 g c (subscriptTail o i) ov iv S Q := by
  intro u v hu hv H s R
  o_shape
  refine el_E hs ?_; (try clear hs); intro ops hs
  exact tail_any (hT H s u R hu) hl (h u v hu hv H s R) (hs _ _)
section
variable {a : Addr} {xs : List Value} {o i : Expr} {iv : Value}
theorem WSub_list (ha : S.σ a = some (.list xs)) (hs : ∃ ops : Value -> Value -> List Value, ∀ o' i', subscripted i false o' i' = operate (ops o' i') (getItem o' i')) (h : WItem g c (.ref a) iv S Q) : WV2 g c (subscriptTail o i) (.ref a) iv S Q :=
  WSub_of PySem.slot_list_getitem.lookup (fun H s u R hu => by
    obtain rfl := er_ref hu
    refine el_EEAAA (R.list ha) ?_; intro arr n h1 h2 h3 h4
    exact h2.typeIs) hs h
theorem WSub_str {x : Str} (hs : ∃ ops : Value -> Value -> List Value, ∀ o' i', subscripted i false o' i' = operate (ops o' i') (getItem o' i')) (h : WItem g c (.str x 0) iv S Q) : WV2 g c (subscriptTail o i) (.str x 0) iv S Q :=
  WSub_of PyProof.Rows.slot_str_getitem.lookup (fun H s u R hu => by
    refine el_E (er_str hu) ?_; intro t rfl_222; subst rfl_222
    exact typeIs_str s x t) hs h
theorem WItem_str {x : Str} {i : Int} {k : Nat} (hr : (decide (i < -(2 ^ 63 : Int)) || decide (i ≥ 2 ^ 63)) = false) (hc : (seqIndex? i x.length).bind (x.cps[·]?) = some k) (h : Q (.str ⟨#[k]⟩ 0) S) : WItem g c (.str x 0) (.int i 0) S Q := by
  intro u v hu hv H s R
  o_shape
  refine el_E (er_str hu) ?_; intro t rfl_221; subst rfl_221
  refine el_E (er_int hv) ?_; intro t' rfl_220; subst rfl_220
  exact PyProof.Rows.getItem_str hr hc ⟨S, R.toks, h⟩
end
theorem WGM_list {a : Addr} {xs : List Value} {name : Str} {id : String} (slot : Slot "list" name id) (hty : typeOf (.builtin id) = pure (.type "method_descriptor")) (ha : S.σ a = some (.list xs)) {Q : Value -> List Value -> St Int -> Prop}
    (h : Q (.builtin id) [.ref a] S) : WGM g c (.ref a) name S Q := by
  intro u pl hu H s R
  o_shape
  obtain rfl := er_ref hu
  refine el_EEAAA (R.list ha) ?_; intro arr n h1 h2 h3 h4
  refine el_EAA R.led ?_; intro m F N' hl
  exact kl_method N' (mem_allobjs.mpr ⟨⟨R.sto_ne ha, R.sto_new ha⟩, h1⟩ : (a, listOf arr n) ∈ _) slot hty ⟨S, R, h⟩
theorem Rel.inst {H : Hid} {s : Shared} (R : Rel g c H S s) {a C d : Addr} {m : Str -> Option Value} {k : Nat} (ha : S.σ a = some (.inst C d)) (hd : S.σ d = some (.ns m k)) :
    ∃ es n, InstAt s.heap a ⟨.ref C, some d, .plain, #[]⟩ C (some (dictOf es n)) /\ s.heap.get? d = some (dictOf es n) /\ StrKeys es.toArray /\ (∀ x, (nsFind es.toArray x).map er = m x) /\ es.length ≤ k := by
  refine el_EA (R.sto a _ ha) ?_; intro ob h1 rfl_219; subst rfl_219
  refine el_EAEEAAA (R.sto d _ hd) ?_; intro ob' h2 es n rfl_218 h3 h4 h5; subst rfl_218
  exact ⟨es, n, ⟨h1, rfl, rfl, h2⟩, h2, h3, h4, h5⟩
theorem er_some {o : Option Value} {v : Value} (h : o.map er = some v) : ∃ u, o = some u /\ er u = v := by
  cases o with
  | none => exact Mine.ns h
  | some u => exact ⟨u, rfl, Option.some.inj h⟩
noncomputable def ownAttr (K : Frag) (C : Addr) (x : Str) : Bool := plainGet K C x && hasDictIn K C && (match findIn K (.ref C) x with | some attr => noGet K attr | none => false)
theorem WGet_own {a C d : Addr} {m : Str -> Option Value} {k : Nat} {x : Str} {v : Value} (hk : ownAttr g.K C x = true) (ha : S.σ a = some (.inst C d)) (hd : S.σ d = some (.ns m k)) (hx : m x = some v) (hv : handedIn v = true) (h : Q v S) : WGet g c (.ref a) x S Q := by
  intro u b hu H s R
  o_shape
  obtain rfl := er_ref hu
  refine el_EEAAAA (R.inst ha hd) ?_; intro es n I h1 h2 h3 h4
  refine el_EAA R.led ?_; intro m' F N' hl
  unfold ownAttr at hk
  simp only [Bool.and_eq_true] at hk
  refine el_A hk ?_; (try clear hk); intro nn_217 k3; obtain ⟨k1, k2⟩ := nn_217
  split at k3
  · rename_i attr q
    refine el_EA (er_some ((h3 x).trans hx)) ?_; intro y hy e
    exact get_value R.in_K I (plainGet_of k1).1 (findObj_own k2 q k3 (by rw [lookIn_dict, getL_of h2, hy])) (by rw [← handedIn_er, e]; exact hv) ⟨S, R.toks, fin h e⟩
  exact Mine.ft k3
noncomputable def setsAttr (K : Frag) (C : Addr) (x : Str) : Bool := findIn K (.ref C) "__setattr__" == some (some (.builtin "object.__setattr__")) && plainOver K C && takerIn K C x == some none && hasDictIn K C
theorem WSet_own {a C d : Addr} {m : Str -> Option Value} {k k' : Nat} {x : Str} {v : Value} {Q : St Int -> Prop} (hk : setsAttr g.K C x = true) (ha : S.σ a = some (.inst C d)) (hd : S.σ d = some (.ns m k)) (hz : k' ≤ 1000) (hkk : k' = k + 1 ∨ (k' = k /\ (m x).isSome = true))
    (h : Q ⟨S.m, upd S.σ d (.ns (setv m x v) k')⟩) : WSet g c (.ref a) x v S Q := by
  intro u w hu hw H s R
  o_shape
  obtain rfl := er_ref hu
  refine el_EEAAAA (R.inst ha hd) ?_; intro es n I h1 h2 h3 h4
  refine el_EAA R.led ?_; intro m' F N' hl
  unfold setsAttr at hk
  simp only [Bool.and_eq_true, beq_iff_eq] at hk
  refine el_A hk ?_; (try clear hk); intro nn_216 k4; obtain ⟨⟨k1, k2⟩, k3⟩ := nn_216
  refine el_EA (R.updLed h1 hd (dictOf (putL x (PyData.keyHash g.w.params x) (.str x (s.toks + 1)) w es) (putN x es n))) ?_; intro news' U back
  have len : (putL x (PyData.keyHash g.w.params x) (.str x (s.toks + 1)) w es).length ≤ k' := by
    refine el_A (length_putL (name := x) (hsh := PyData.keyHash g.w.params x) (t := s.toks + 1) (v := w) (es := es)) ?_; intro l1 l2
    rcases hkk with rfl | ⟨rfl, q⟩
    · lia
    rw [l2]; exact h4
    have := h3 x
    rw [nsFind_list] at this
    cases z : es.find? fun e => e.key.isStr x with
    | some e => rfl
    | none => rw [z] at this; rw [← this] at q; exact Mine.ft q
  refine set_dict F R.ok.k N' I rfl k1 k2 k3 k4 (by rw [getL_of h2]; rfl) rfl U (Nat.le_trans len hz) fun h' F' N' => ⟨⟨S.m, upd S.σ d (.ns (setv m x v) k')⟩, back hl F' N' ?_, h⟩
  refine ⟨_, _, rfl, strKeys_putL h2, fun y => ?_, len⟩
  rw [nsFind_list, find_putL]
  unfold setv
  by_cases hy : y = x
  · rw [if_pos hy, if_pos hy, ← hw]; rfl
  rw [if_neg hy, if_neg hy, ← h3 y, nsFind_list]
end
end
section
noncomputable def bindM : List (Str × Value) -> (Str -> Option Value) -> Str -> Option Value
  | [], m => m
  | (x, v) :: r, m => bindM r (setv m x v)
theorem bindM_ok {kindOf : Str -> Option NameKind} : ∀ (bs : List (Str × Value)) (m m₁ m₂ : Str -> Option Value),
    (∀ x v, m x = some v -> (kindOf x = some .local -> ∃ u, m₁ x = some u /\ er u = v) /\ (kindOf x = some .cell -> ∃ u, m₂ x = some u /\ er u = v)) ->
    ∀ x v, bindM (bs.map fun p => (p.1, er p.2)) m x = some v -> (kindOf x = some .local -> ∃ u, bindL kindOf bs m₁ x = some u /\ er u = v) /\ (kindOf x = some .cell -> ∃ u, bindC kindOf bs m₂ x = some u /\ er u = v)
  | [], m, m₁, m₂, h, x, v, e => h x v e
  | (y, u) :: bs, m, m₁, m₂, h, x, v, e => by
    rw [List.map_cons] at e
    unfold bindM at e
    unfold bindL bindC
    refine bindM_ok bs _ _ _ (fun x v e => ?_) x v e
    unfold setv at e
    dsimp only at e
    by_cases hx : x = y
    · subst hx
      rw [if_pos rfl] at e
      (replace e := Option.some.inj e; subst e)
      refine ⟨fun hk => ⟨u, by rw [if_pos hk]; exact if_pos rfl, rfl⟩, fun hk => ⟨u, ?_, rfl⟩⟩
      rw [if_neg (by rw [hk]; decide)]; exact if_pos rfl
    rw [if_neg hx] at e
    refine el_A (h x v e) ?_; intro h1 h2
    constructor
    · intro hk
      refine el_EA (h1 hk) ?_; intro w e1 e2
      refine ⟨w, ?_, e2⟩
      by_cases hy : kindOf y = some .local
      · rw [if_pos hy]; show (if x = y then _ else _) = _; rw [if_neg hx]; exact e1
      rw [if_neg hy]; exact e1
    intro hk
    refine el_EA (h2 hk) ?_; intro w e1 e2
    refine ⟨w, ?_, e2⟩
    by_cases hy : kindOf y = some .local
    · rw [if_pos hy]; exact e1
    rw [if_neg hy]; show (if x = y then _ else _) = _; rw [if_neg hx]; exact e1
noncomputable def retV : Flow -> Value
  | .ret v => v
  | _ => .none
section
variable {g : Gl Int} {c : Ac} {S S' : St Int} {Q : Value -> St Int -> Prop}
structure FnIs (K : Frag) (f : Addr) (body : List Stmt) (scope : Scope) (fd : FuncData) : Prop where
  at_ : ∃ oc od osl, K.lookup f = some ⟨oc, od, .func fd, osl⟩
  cd : codeIn K fd.code fd.qualname = true
  body : fd.body = .stmts body
  scope : fd.scope = scope
  gl : fd.globals = mainGlobals
  clo : fd.closure = []
  bl : fd.builtins = builtinsNs
noncomputable def scopeOk (scope : Scope) : Bool := scope.kind == .function && !scope.isCoroutine && !scope.isGenerator && scope.names.all (fun x => x.2 != .free)
theorem no_free {scope : Scope} (h : scope.names.all (fun x => x.2 != .free) = true) (x : Str) : scope.names.lookup x ≠ some .free := fun e => by
  have := List.all_eq_true.mp h (x, .free) (mem_of_lookup e)
  simp at this
theorem Ac.Deep.less {c : Ac} {n m : Nat} (h : c.Deep n) (hm : m ≤ n) : c.Deep m := by
  unfold Ac.Deep at *; lia
theorem enter {H : Hid} {s : Shared} (R : Rel g c H S s) {n : Nat} (hd : c.Deep (n + 1)) {f : Addr} {scope : Scope} {fd : FuncData} (hsc : scopeOk scope = true) (hfs : fd.scope = scope) (hgl : fd.globals = mainGlobals) (hbl : fd.builtins = builtinsNs)
    {bs : List (Str × Value)} {s₁ : Shared}
    (x : InCallC s (callEnvC fd s.heap.objs.size f).locals (bindL (callEnvC fd s.heap.objs.size f).kindOf bs fun _ => none) (callEnvC fd s.heap.objs.size f).cells (bindC (callEnvC fd s.heap.objs.size f).kindOf bs fun _ => none) s₁) :
    ∃ H', Rel g ⟨c.A.deeper (callEnvC fd s.heap.objs.size f), callEnvC fd s.heap.objs.size f, fun _ => false⟩ H' ⟨bindM (bs.map fun p => (p.1, er p.2)) fun _ => none, S.σ⟩ s₁ /\
      ∀ S' s', Rel g ⟨c.A.deeper (callEnvC fd s.heap.objs.size f), callEnvC fd s.heap.objs.size f, fun _ => false⟩ H' S' s' -> Rel g c H ⟨S.m, S'.σ⟩ s' := by
  refine el_EAAAA R.role ?_; intro ρ r0 r1 r2 r3 r4
  refine el_EEA x.done ?_; intro h₁ tk rfl_227 hk; subst rfl_227
  subst hfs
  simp only [scopeOk, Bool.and_eq_true, beq_iff_eq, Bool.not_eq_true'] at hsc
  refine el_A hsc ?_; (try clear hsc); intro nn_226 k4; obtain ⟨⟨k1, k2⟩, k3⟩ := nn_226
  refine el_EA R.loc ?_; intro m hm hv
  have hlt : ∀ b o, s.heap.get? b = some o -> b < s.heap.objs.size := fun b o e => Heap.lt_size e
  have cellLt : ∀ y a, (callEnvC fd s.heap.objs.size f).cells.lookup y = some a -> s.heap.objs.size < a := fun y a e => x.above y a (mem_of_lookup e)
  refine ⟨⟨fun b => if ρ b = 1 ∨ ρ b = 2 then s.heap.get? b else H.objs b, H.gens⟩, ?_, ?_⟩
  · refine { ok := R.ok, ac := ?_, above := ?_, os := R.os, bare := R.bare, gen := R.gen, keep := fun b o e => hk b o (R.keep b o e), hid := ?_, loc := ?_, cel := ?_, inj := ?_, fre := ?_, sto := ?_, role := ?_ }
    · refine { kind := k1, gl := hgl, bl := hbl, hd := R.ac.hd, deep := ?_, cells := fun y hy => ?_, frees := fun y hy => absurd hy (no_free k4 y) }
      · unfold Ac.Deep at hd ⊢
        simp only [Around.deeper]
        exact om02 ‹_›
      exact Option.isSome_iff_exists.mp (cellsFrom_some _ _ _ (.inl hy))
    · exact Nat.le_trans R.above (Nat.le_of_lt hm.lt)
    · intro b o e
      dsimp only at e
      split at e
      · exact hk b o e
      exact hk b o (R.hid b o e)
    · exact ⟨_, x.toInCall.ns, fun y v e hy => (bindM_ok (kindOf := (callEnvC fd s.heap.objs.size f).kindOf) bs _ (fun _ => none) (fun _ => none) (fun _ _ e => by exact Mine.ns e) y v e).1 hy⟩
    · intro y a ha hy
      refine ⟨_, x.cell y a ha, fun v e => ?_⟩
      refine el_EA ((bindM_ok (kindOf := (callEnvC fd s.heap.objs.size f).kindOf) bs _ (fun _ => none) (fun _ => none) (fun _ _ e => by cases e) y v e).2 hy.1) ?_; intro u e1 e2
      rw [e1]; exact congrArg some e2
    · intro y z a h1 h2 _ _
      exact name_of_addr x.apart (mem_of_lookup h1) (mem_of_lookup h2)
    · intro y a h1 h2
      exact Mine.ft h2
    · intro a o e
      refine el_EA (R.sto a o e) ?_; intro ob h1 h2
      exact ⟨ob, hk _ _ h1, h2⟩
    refine ⟨fun b => if b = s.heap.objs.size then 1 else if s.heap.objs.size ≤ b then 2 else if ρ b = 0 then 0 else if ρ b = 4 then 4 else 3, fun b o e => ?_, if_pos rfl, fun y a h1 h2 => ?_, fun b o e => ?_, fun b o e => ?_⟩
    · have := hlt b o (R.keep b o e)
      dsimp only
      rw [if_neg (Nat.ne_of_lt this), if_neg (Nat.not_le.mpr this), if_pos (r0 b o e)]
    · have := cellLt y a h1
      dsimp only
      rw [if_neg (Nat.ne_of_gt this), if_pos (Nat.le_of_lt this)]
    · have hz : b < s.heap.objs.size /\ ρ b ≠ 0 /\ ρ b ≠ 4 := by
        dsimp only at e
        split at e
        · rename_i q
          refine ⟨hlt b o e, ?_, ?_⟩ <;> rcases q with q | q <;> rw [q] <;> decide
        refine ⟨hlt b o (R.hid b o e), ?_, ?_⟩ <;> rw [r3 b o e] <;> decide
      dsimp only
      rw [if_neg (Nat.ne_of_lt hz.1), if_neg (Nat.not_le.mpr hz.1), if_neg hz.2.1, if_neg hz.2.2]
    refine el_EA (R.sto b o e) ?_; intro ob h1 _
    have := hlt _ _ h1
    dsimp only
    rw [if_neg (Nat.ne_of_lt this), if_neg (Nat.not_le.mpr this), if_neg (by rw [r4 b o e]; decide), if_pos (r4 b o e)]
  intro S' s' R'
  refine el_EAAAA R'.role ?_; intro ρ' q0 q1 q2 q3 q4
  have hid' : ∀ b o, (ρ b = 1 ∨ ρ b = 2) -> s.heap.get? b = some o -> s'.heap.get? b = some o := fun b o hb e => R'.hid b o (by dsimp only; rw [if_pos hb]; exact e)
  refine el_EEEAAA hm ?_; (try clear hm); intro oL es ep hL hLd hLk hLf
  refine { ok := R.ok, ac := R.ac, above := R.above, os := R'.os, bare := R'.bare, gen := R'.gen, keep := R'.keep, hid := ?_, loc := ?_, cel := ?_, inj := R.inj, fre := R.fre, sto := R'.sto, role := ?_ }
  · intro b o e
    refine R'.hid b o ?_
    dsimp only
    rw [if_neg (by rw [r3 b o e]; decide)]; exact e
  · exact ⟨m, ⟨oL, es, ep, hid' _ _ (.inl r1) hL, hLd, hLk, hLf⟩, hv⟩
  · intro y a h1 h2
    refine el_EA (R.cel y a h1 h2) ?_; intro u nn_225 hu; obtain ⟨oc, hc, hcd⟩ := nn_225
    exact ⟨u, ⟨oc, hid' _ _ (.inr (r2 y a h1 h2)) hc, hcd⟩, hu⟩
  refine ⟨fun b => if (ρ b = 1 ∨ ρ b = 2) /\ (s.heap.get? b).isSome = true then ρ b else ρ' b, fun b o e => ?_, ?_, fun y a h1 h2 => ?_, fun b o e => ?_, fun b o e => ?_⟩
  · dsimp only
    rw [if_neg (by rw [r0 b o e]; rintro ⟨q | q, _⟩ <;> cases q)]; exact q0 b o e
  · dsimp only
    rw [if_pos ⟨.inl r1, by rw [hL]; rfl⟩]; exact r1
  · (refine el_EA (R.cel y a h1 h2) ?_; intro u nn_224 hu; obtain ⟨oc, hc, hcd⟩ := nn_224)
    have := r2 y a h1 h2
    dsimp only
    rw [if_pos ⟨.inr this, by rw [hc]; rfl⟩]; exact this
  · dsimp only
    rw [if_neg (by rw [r3 b o e]; rintro ⟨q | q, _⟩ <;> cases q)]
    refine q3 b o ?_
    dsimp only
    rw [if_neg (by rw [r3 b o e]; decide)]; exact e
  dsimp only
  rw [if_neg ?_]
  · exact q4 b o e
  intro q_
  refine el_A q_ ?_; clear q_; intro hb hs
  refine el_E (Option.isSome_iff_exists.mp hs) ?_; intro o' ho'
  have := q3 b o' (by dsimp only; rw [if_pos hb]; exact ho')
  rw [q4 b o e] at this; cases this
theorem WC_def {f : Addr} {as : List Value} {B : List (Str × Value)} {body : List Stmt} {scope : Scope} {fd : FuncData} {n : Nat} (hd : c.Deep (n + 1)) (F : FnIs g.K f body scope fd) (hsc : scopeOk scope = true)
    (hbind : ∀ us, us.map er = as -> ∃ bs, bindArgs fd ⟨us, []⟩ = pure bs /\ bs.map (fun p => (p.1, er p.2)) = B)
    (hkind : (B.all fun y => scope.names.lookup y.1 == some .local || scope.names.lookup y.1 == some .cell) = true)
    (h : ∀ c' : Ac, c'.env.scope = scope -> c'.ext = (fun _ => false) -> c'.Deep n -> WXs g c' body ⟨bindM B fun _ => none, S.σ⟩ fun fl S' => Q (retV fl) ⟨S.m, S'.σ⟩) : WC g c (.ref f) as S Q := by
  intro us hus H s R
  o_shape
  refine el_EA (hbind us hus) ?_; intro bs hb rfl_223; subst rfl_223
  refine el_EEE F.at_ ?_; intro oc od osl ho
  obtain ⟨k1, k2, k3⟩ : scope.kind = .function /\ scope.isCoroutine = false /\ scope.isGenerator = false := by
    simp only [scopeOk, Bool.and_eq_true, beq_iff_eq, Bool.not_eq_true'] at hsc
    exact ⟨hsc.1.1.1, hsc.1.1.2, hsc.1.2⟩
  have hfs := F.scope
  refine wpAny_call (codeAny_call_cells R.room (R.in_K _ _ ho) rfl R.nolimit (codeRec_of R.in_K F.cd) F.body hb F.clo (fun y hy => ?_) (fun s₁ x => ?_) (by rw [hfs]; exact k2) (by rw [hfs]; exact k3) (by rw [hfs]; exact k1))
  · rw [hfs]
    have := List.all_eq_true.mp hkind (y.1, er y.2) (List.mem_map.mpr ⟨y, hy, rfl⟩)
    rcases Bool.or_eq_true_iff.mp this with q | q
    · exact .inl (by simpa using q)
    have q' : scope.names.lookup y.1 = some .cell := by simpa using q
    exact .inr ⟨q', cellsFrom_some _ _ _ (.inl q')⟩
  refine el_EA (enter R hd hsc hfs F.gl F.bl x) ?_; intro H' R' back
  refine goK (h ⟨c.A.deeper (callEnvC fd s.heap.objs.size f), callEnvC fd s.heap.objs.size f, fun _ => false⟩ hfs rfl ?_ H' s₁ R') (fun fl s' S' R₂ q => ?_)
  · unfold Ac.Deep at hd ⊢
    simp only [Around.deeper]
    exact om01 ‹_›
  refine ⟨⟨S.m, S'.σ⟩, back S' s' R₂, ?_⟩
  cases fl <;> exact q
end
end
section
noncomputable def Hid.put (H : Hid) (a : Addr) (ob : Obj) : Hid := ⟨fun b => if b = a then some ob else H.objs b, H.gens⟩
noncomputable def Hid.cut (H : Hid) (a : Addr) : Hid := ⟨fun b => if b = a then none else H.objs b, H.gens⟩
theorem Hid.put_self (H : Hid) (a : Addr) (ob : Obj) : (H.put a ob).objs a = some ob := if_pos rfl
theorem Hid.put_put (H : Hid) (a : Addr) (ob ob' : Obj) : (H.put a ob).put a ob' = H.put a ob' := by
  unfold Hid.put
  congr 1
  funext b
  dsimp only
  split <;> rfl
theorem Hid.put_same (H : Hid) {a : Addr} {ob : Obj} (h : H.objs a = some ob) : H.put a ob = H := by
  cases H with
  | mk o gs =>
    unfold Hid.put
    congr 1
    funext b
    dsimp only
    split
    · rename_i q; subst q; exact h.symm
    rfl
theorem Hid.put_cut (H : Hid) (a : Addr) (ob : Obj) (h : H.objs a = none) : (H.put a ob).cut a = H := by
  cases H with
  | mk o gs =>
    unfold Hid.put Hid.cut
    congr 1
    funext b
    dsimp only
    split
    · rename_i q; subst q; exact h.symm
    rfl
section
variable {g : Gl Int} {c : Ac} {S S' : St Int}
theorem Rel.free_hid {H : Hid} {s : Shared} (R : Rel g c H S s) {a : Addr} (h : s.heap.get? a = none) : H.objs a = none := by
  cases q : H.objs a with
  | none => rfl
  | some o => have := R.hid a o q; rw [h] at this; exact Mine.ns this
theorem Rel.lose {H : Hid} {s : Shared} (R : Rel g c H S s) {a : Addr} {ob : Obj} (ha : H.objs a = some ob) (hc : ∀ u, ob.data = .cell u -> False) {h' : Heap} {tk : Tok} (hk : Heap.ExtBut a s.heap h') : Rel g c (H.cut a) S { s with heap := h', toks := tk } := by
  refine el_EAAAA R.role ?_; intro ρ r0 r1 r2 r3 r4
  have ra := r3 _ _ ha
  refine { ok := R.ok, ac := R.ac, above := R.above, os := R.os, bare := R.bare, gen := R.gen, inj := R.inj, keep := ?_, hid := ?_, loc := ?_, cel := ?_, fre := ?_, sto := ?_, role := ⟨ρ, r0, r1, r2, fun b o e => ?_, r4⟩ }
  · exact fun b o e => hk b o (Rel.ne (r0 b o e) ra) (R.keep b o e)
  · intro b o e
    unfold Hid.cut at e
    dsimp only at e
    split at e
    · exact Mine.ns e
    rename_i hb; exact hk _ _ hb (R.hid b o e)
  · (refine el_EA R.loc ?_; intro m hm hv)
    exact ⟨m, hm.extBut hk (Rel.ne r1 ra), hv⟩
  · intro y b h1 h2
    refine el_EA (R.cel y b h1 h2) ?_; intro u nn_228 hu; obtain ⟨oc, hc, hd⟩ := nn_228
    exact ⟨u, ⟨oc, hk _ _ (Rel.ne (r2 y b h1 h2) ra) hc, hd⟩, hu⟩
  · intro y b h1 h2 w e
    refine el_EEAA (R.fre y b h1 h2 w e) ?_; intro ob₁ u h3 h4 h5
    refine ⟨ob₁, u, ?_, h4, h5⟩
    show (if b = a then none else H.objs b) = _
    rw [if_neg (by rintro rfl; rw [ha] at h3; (replace h3 := Option.some.inj h3; subst h3); exact hc _ h4)]; exact h3
  · intro b o e
    refine el_EA (R.sto b o e) ?_; intro ob h1 h2
    exact ⟨ob, hk _ _ (Rel.ne (r4 b o e) ra) h1, h2⟩
  unfold Hid.cut at e
  dsimp only at e
  split at e
  · exact Mine.ns e
  exact r3 b o e
structure ItSpec (g : Gl Int) (xs : List Value) (Ok : St Int -> Prop) where
  St_ : Nat -> Obj -> Prop
  noCell : ∀ i ob u, St_ i ob -> ob.data = .cell u -> False
  next : ∀ (c : Ac) (H : Hid) (S : St Int) (s : Shared) (it : Addr) (i : Nat) (ob : Obj) (x : Value), H.objs it = some ob -> St_ i ob -> Rel g c H S s -> Ok S -> xs[i]? = some x ->
    wpAny (model g.prog g.w) c.A (pyNext (.ref it)) (fun r s' => ∃ u ob', r = some u /\ er u = x /\ St_ (i + 1) ob' /\ Rel g c (H.put it ob') S s') (fun _ _ => False) s
  done : ∀ (c : Ac) (H : Hid) (S : St Int) (s : Shared) (it : Addr) (i : Nat) (ob : Obj), H.objs it = some ob -> St_ i ob -> Rel g c H S s -> Ok S -> xs[i]? = none ->
    wpAny (model g.prog g.w) c.A (pyNext (.ref it)) (fun r s' => r = none /\ Rel g c (H.cut it) S s') (fun _ _ => False) s
  lets : ∀ (c : Ac) (H : Hid) (S : St Int) (s : Shared) (it : Addr) (i : Nat) (ob : Obj) (t : Expr) (v : Value), H.objs it = some ob -> St_ i ob -> Rel g c H S s ->
    wpAny (model g.prog g.w) c.A (letOwnedTupleGo t (.ref it) v) (fun _ s' => ∃ ob', St_ i ob' /\ Rel g c (H.put it ob') S s') (fun _ _ => False) s
  again : ∀ (c : Ac) (H : Hid) (S : St Int) (s : Shared) (it : Addr) (i : Nat) (ob : Obj) (P : Value -> Shared -> Prop) (E : Value -> Shared -> Prop), H.objs it = some ob -> St_ i ob -> Rel g c H S s -> P (.ref it) s ->
    wpAny (model g.prog g.w) c.A (pyIter (.ref it)) P E s
noncomputable def Iterable (g : Gl Int) (c : Ac) (v : Value) (xs : List Value) (Ok : St Int -> Prop) (S : St Int) : Prop :=
  ∀ H s u, er u = v -> Rel g c H S s -> wpAny (model g.prog g.w) c.A (pyIter u) (fun it s' => ∃ (a : Addr) (ob : Obj) (sp : ItSpec g xs Ok), it = .ref a /\ H.objs a = none /\ sp.St_ 0 ob /\ Rel g c (H.put a ob) S s') (fun _ _ => False) s
noncomputable def plainIter (o : Obj) : Bool := match o.cls with
  | .type n => !(["enumerate", "zip", "dict_itemiterator", "dict_reverseitemiterator", "odict_iterator", "itertools.zip_longest", "itertools.pairwise"].contains n)
  | _ => true
theorem lets_plain {M : Model} {A : Around} {E : Value -> Shared -> Prop} {s : Shared} {it : Addr} {ob : Obj} {t : Expr} {v : Value} {P : Unit -> Shared -> Prop} (hg : s.heap.get? it = some ob) (hp : plainIter ob = true) (h : P () s) :
    wpAny M A (letOwnedTupleGo t (.ref it) v) P E s := by
  unfold letOwnedTupleGo
  have body : wpAny M A (match (Value.ref it, v) with
    | (.ref r, .ref a) => do
      let o ← load r
      match o.cls, o.data with
      | .type n, .fields vs =>
        if ["enumerate", "zip", "dict_itemiterator", "dict_reverseitemiterator", "odict_iterator", "itertools.zip_longest", "itertools.pairwise"].contains n && vs[0]? == some (rawInt a) then
          rule "for.unpacks-the-owned-tuple"
          updateField r 0 .none
      | _, _ => pure ()
    | _ => pure ()) P E s := by
    cases v with
    | ref a =>
      refine wpAny_bind (wpAny_load hg ?_)
      unfold plainIter at hp
      cases q : ob.cls with
      | type n =>
        rw [q] at hp
        dsimp only at hp ⊢
        cases ob.data <;> try exact wpAny_pure h
        dsimp only
        rw [if_neg (by rw [Bool.not_eq_true'] at hp; rw [hp]; simp)]
        exact wpAny_pure h
      | _ => exact wpAny_pure h
    | _ => exact wpAny_pure h
  cases t <;> first | exact body | exact wpAny_pure h
section
variable {a : Addr} {xs : List Value}
theorem nthMap {arr : Array Value} {i : Nat} {x : Value} (h : (arr.toList.map er)[i]? = some x) : ∃ y, arr[i]? = some y /\ er y = x := get_er h
theorem nthNone {arr : Array Value} {i : Nat} (h : (arr.toList.map er)[i]? = none) : arr[i]? = none := by
  rw [List.getElem?_map, Option.map_eq_none_iff] at h
  simpa using h
noncomputable def itList (g : Gl Int) (a : Addr) (xs : List Value) : ItSpec g xs (fun S => S.σ a = some (.list xs)) where
  St_ i ob := ob.cls = .type "list_iterator" /\ ob.data = .fields #[.ref a, .int i 0]
  noCell i ob u h e := by rw [h.2] at e; exact (nomatch e)
  next c H S s it i ob x hH hS R ok hx := by
    refine el_EEAAA (R.list ok) ?_; intro arr n h1 h2 h3 h4
    refine el_EA (nthMap (arr := arr) (by rw [h3]; exact hx)) ?_; intro u e1 e2
    refine wpAny_pyNext_list_item ⟨ob, R.hid _ _ hH, hS.1, hS.2⟩ h2 e1 fun h' hit hs => ?_
    refine el_EAA hit ?_; (try clear hit); intro ob' g1 g2 g3
    exact ⟨u, ob', rfl, e2, ⟨g2, g3⟩, R.turn (tk := s.toks) hH hs.extBut g1 fun u e => by rw [hS.2] at e; exact (nomatch e)⟩
  done c H S s it i ob hH hS R ok hx := by
    refine el_EEAAA (R.list ok) ?_; intro arr n h1 h2 h3 h4
    exact wpAny_pyNext_list_end R.ac.hd ⟨ob, R.hid _ _ hH, hS.1, hS.2⟩ h2 (nthNone (by rw [h3]; exact hx)) fun h' hs => ⟨rfl, R.lose (tk := s.toks) hH (fun u e => by rw [hS.2] at e; exact (nomatch e)) hs⟩
  lets c H S s it i ob t v hH hS R := lets_plain (R.hid _ _ hH) (by unfold plainIter; rw [hS.1]; rfl) ⟨ob, hS, by rw [H.put_same hH]; exact R⟩
  again c H S s it i ob P E hH hS R h := wpAny_pyIter_listiter ⟨ob, R.hid _ _ hH, hS.1, hS.2⟩ h
theorem iter_list (ha : S.σ a = some (.list xs)) : Iterable g c (.ref a) xs (fun S => S.σ a = some (.list xs)) S := by
  intro H s u hu R
  obtain rfl := er_ref hu
  refine el_EEAAA (R.list ha) ?_; intro arr n h1 h2 h3 h4
  exact wpAny_pyIter_list h2 ⟨_, _, itList g a xs, rfl, R.free_hid (size_none _), ⟨rfl, rfl⟩, R.hide (tk := s.toks) (Heap.ExtBut.push (Heap.ExtBut.refl _ _) _) (size_none _) (Heap.get?_push_size _ rfl)⟩
noncomputable def itTup (g : Gl Int) (a : Addr) (xs : List Value) : ItSpec g xs (fun S => S.σ a = some (.tup xs)) where
  St_ i ob := ob.cls = .type "tuple_iterator" /\ ob.data = .fields #[.ref a, .int i 0]
  noCell i ob u h e := by rw [h.2] at e; exact (nomatch e)
  next c H S s it i ob x hH hS R ok hx := by
    refine el_EEAAA (R.tup ok) ?_; intro arr n h1 h2 h3 h4
    refine el_EA (nthMap (arr := arr) (by rw [h3]; exact hx)) ?_; intro u e1 e2
    refine wpAny_pyNext_tuple_item ⟨ob, R.hid _ _ hH, hS.1, hS.2⟩ h2 e1 fun h' hit hs => ?_
    refine el_EAA hit ?_; (try clear hit); intro ob' g1 g2 g3
    exact ⟨u, ob', rfl, e2, ⟨g2, g3⟩, R.turn (tk := s.toks) hH hs.extBut g1 fun u e => by rw [hS.2] at e; exact (nomatch e)⟩
  done c H S s it i ob hH hS R ok hx := by
    refine el_EEAAA (R.tup ok) ?_; intro arr n h1 h2 h3 h4
    exact wpAny_pyNext_tuple_end R.ac.hd ⟨ob, R.hid _ _ hH, hS.1, hS.2⟩ h2 (nthNone (by rw [h3]; exact hx)) fun h' hs => ⟨rfl, R.lose (tk := s.toks) hH (fun u e => by rw [hS.2] at e; exact (nomatch e)) hs⟩
  lets c H S s it i ob t v hH hS R := lets_plain (R.hid _ _ hH) (by unfold plainIter; rw [hS.1]; rfl) ⟨ob, hS, by rw [H.put_same hH]; exact R⟩
  again c H S s it i ob P E hH hS R h := wpAny_pyIter_tupleiter ⟨ob, R.hid _ _ hH, hS.1, hS.2⟩ h
theorem iter_tup (ha : S.σ a = some (.tup xs)) : Iterable g c (.ref a) xs (fun S => S.σ a = some (.tup xs)) S := by
  intro H s u hu R
  obtain rfl := er_ref hu
  refine el_EEAAA (R.tup ha) ?_; intro arr n h1 h2 h3 h4
  exact wpAny_pyIter_tuple h2 ⟨_, _, itTup g a xs, rfl, R.free_hid (size_none _), ⟨rfl, rfl⟩, R.hide (tk := s.toks) (Heap.ExtBut.push (Heap.ExtBut.refl _ _) _) (size_none _) (Heap.get?_push_size _ rfl)⟩
end
noncomputable abbrev ForQ (Inv : Nat -> St Int -> Prop) (i : Nat) (Q : Flow -> St Int -> Prop) (fl : Flow) (S₄ : St Int) : Prop := match fl with | .next | .cont => Inv (i + 1) S₄ | .brk => Q .next S₄ | .ret v => Q (.ret v) S₄
noncomputable abbrev WhileQ (I : Nat -> St Int -> Prop) (n : Nat) (Q : Flow -> St Int -> Prop) (fl : Flow) (S₂ : St Int) : Prop := match fl with | .next | .cont => ∃ m, m < n /\ I m S₂ | .brk => Q .next S₂ | .ret v => Q (.ret v) S₂
inductive ForPost (g : Gl Int) (c : Ac) (target : Expr) (body : List Stmt) (orelse : List Stmt) (Q : Flow -> St Int -> Prop) (v : Value) (S₁ : St Int) : Prop
  | mk (xs : List Value) (Ok : St Int -> Prop) (h_1 : Iterable g c v xs Ok S₁) (Inv : Nat -> St Int -> Prop) (h_2 : Inv 0 S₁) (h_3 : (∀ i S₂, Inv i S₂ -> Ok S₂)) (h_4 : (∀ i x S₂, xs[i]? = some x -> Inv i S₂ -> WAsg g c target x S₂ fun S₃ => WXs g c body S₃ (ForQ Inv i Q))) (h_5 : ∀ S₂, Inv xs.length S₂ -> WXs g c orelse S₂ Q) : ForPost g c target body orelse Q v S₁
theorem WX_For {target iter : Expr} {body orelse : List Stmt} {pos : Pos} {Q : Flow -> St Int -> Prop} (hs : ∀ env x, foldedSetIterable iter env x = pure x)
    (h : WE g c iter S (ForPost g c target body orelse Q)) : WX g c (.For target iter body orelse pos) S Q := by
  intro H s R
  o_shape
  refine wpAny_For (goK (h H s R) (fun u s₁ S₁ R₁ q_ => ?_)) (fun x => hs _ x)
  obtain ⟨xs, Ok, hit, Inv, h0, hok, turn, fin⟩ := q_
  refine wpAny_mono (hit H s₁ u rfl R₁) (fun it s₂ q_ => ?_) fun _ _ x => x.elim
  refine el_EEEAAA q_ ?_; clear q_; intro a ob sp e hfree hst R₂
  subst e
  let II : Nat -> Shared -> Prop := fun k s' => ∃ i ob S', k + i = xs.length /\ sp.St_ i ob /\ Rel g c (H.put a ob) S' s' /\ Inv i S'
  refine codeAny_forLoop_any II (fun k s' q_ => ?_) xs.length ⟨0, ob, S₁, by exact Nat.sub_zero _, hst, R₂, h0⟩
  refine el_EEEAAA q_ ?_; clear q_; intro i ob S' hk hst R' hI
  have nocell : ∀ ob i, sp.St_ i ob -> ∀ u, ob.data = .cell u -> False := fun ob i h u e => sp.noCell i ob u h e
  have back : ∀ ob i S' s', sp.St_ i ob -> Rel g c (H.put a ob) S' s' -> Rel g c H S' s' := fun ob i S' s' hs R => by
    have := R.lose (tk := s'.toks) (H.put_self a ob) (nocell ob i hs) (Heap.ExtBut.refl a s'.heap)
    rwa [H.put_cut a ob hfree] at this
  cases hx : xs[i]? with
  | none =>
    refine wpAny_mono (sp.done c _ S' s' a i ob (H.put_self a ob) hst R' (hok i S' hI) hx) (fun r s₃ q_ => ?_) fun _ _ x => x.elim
    refine el_A q_ ?_; clear q_; intro e R₃
    subst e
    rw [H.put_cut a ob hfree] at R₃
    have : i = xs.length := by
      have := List.getElem?_eq_none_iff.mp hx; exact om05 ‹_› ‹_›
    subst this
    exact wpAny_mono (fin S' hI H s₃ R₃) (fun f s₄ q => q) fun _ _ x => x.elim
  | some x =>
    refine wpAny_mono (sp.next c _ S' s' a i ob x (H.put_self a ob) hst R' (hok i S' hI) hx) (fun r s₃ q_ => ?_) fun _ _ x => x.elim
    refine el_EEAAA q_ ?_; clear q_; intro u ob' e hu hst' R₃
    subst e
    rw [H.put_put] at R₃
    refine wpAny_mono (sp.lets c _ S' s₃ a (i + 1) ob' target u (H.put_self a ob') hst' R₃) (fun _ s₄ q_ => ?_) fun _ _ x => x.elim
    refine el_EA q_ ?_; clear q_; intro ob₂ hst₂ R₄
    rw [H.put_put] at R₄
    refine goK (turn i x S' hx hI u hu _ s₄ R₄) (fun _ s₅ S₅ R₅ q => ?_)
    refine goK (q _ s₅ R₅) (fun f s₆ S₆ R₆ q₆ => ?_)
    have hlt : i < xs.length := (List.getElem?_eq_some_iff.mp hx).1
    cases f with
    | next => exact ⟨k - 1, by exact om06 ‹_› ‹_›, i + 1, ob₂, S₆, by exact om03 ‹_› ‹_›, hst₂, R₆, q₆⟩
    | cont => exact ⟨k - 1, by exact om06 ‹_› ‹_›, i + 1, ob₂, S₆, by exact om03 ‹_› ‹_›, hst₂, R₆, q₆⟩
    | brk => exact ⟨S₆, back ob₂ _ S₆ s₆ hst₂ R₆, q₆⟩
    | ret v => exact ⟨S₆, back ob₂ _ S₆ s₆ hst₂ R₆, q₆⟩
theorem WX_While {test : Expr} {body orelse : List Stmt} {pos : Pos} {Q : Flow -> St Int -> Prop} (I : Nat -> St Int -> Prop) (n : Nat) (h0 : I n S)
    (turn : ∀ n S, I n S -> WT g c test S fun b S₁ => if b = true then WXs g c body S₁ (WhileQ I n Q) else WXs g c orelse S₁ Q) : WX g c (.While test body orelse pos) S Q := by
  intro H s R
  o_shape
  let II : Nat -> Shared -> Prop := fun k s' => ∃ S', Rel g c H S' s' /\ I k S'
  refine wpAny_While (codeAny_whileLoop II (fun k s' q_ => ?_) n ⟨S, R, h0⟩)
  refine el_EA q_ ?_; clear q_; intro S' R' hI
  refine goK (turn k S' hI H s' R') (fun b s₁ S₁ R₁ q => ?_)
  cases b with
  | false =>
    rw [if_neg Bool.false_ne_true] at q ⊢
    exact wpAny_mono (q H s₁ R₁) (fun f s₂ q => q) fun _ _ x => x.elim
  | true =>
    rw [if_pos rfl] at q ⊢
    refine goK (q H s₁ R₁) (fun f s₂ S₂ R₂ q₂ => ?_)
    cases f with
    | next => (refine el_EA q₂ ?_; (try clear q₂); intro m hm hI); exact ⟨m, hm, S₂, R₂, hI⟩
    | cont => (refine el_EA q₂ ?_; (try clear q₂); intro m hm hI); exact ⟨m, hm, S₂, R₂, hI⟩
    | brk => exact ⟨S₂, R₂, q₂⟩
    | ret v => exact ⟨S₂, R₂, q₂⟩
end
end
section
noncomputable def relabelS (scope outer : Scope) : Scope :=
  { scope with names := scope.names.map fun (n, k) => if (k == .free && outer.kind == .function && outer.names.lookup n == some .cell) then (n, .cell) else (n, k) }
theorem relabelS_lookup (scope outer : Scope) (x : Str) : (relabelS scope outer).names.lookup x = match scope.names.lookup x with
    | some .free => if (outer.kind == .function && outer.names.lookup x == some .cell) = true then some .cell else some .free
    | r => r := by
  unfold relabelS
  dsimp only
  induction scope.names with
  | nil => rfl
  | cons p r ih =>
    obtain ⟨n, k⟩ := p
    rw [List.map_cons]
    cases hx : x == n with
    | true =>
      have : x = n := beq_iff_eq.mp hx
      subst this
      cases k <;> simp [List.lookup_cons]
      split <;> simp_all
    | false =>
      have : (if (k == NameKind.free && outer.kind == ScopeKind.function && outer.names.lookup n == some NameKind.cell) = true then (n, NameKind.cell) else (n, k)).1 = n := by split <;> rfl
      rw [List.lookup_cons, List.lookup_cons, this, hx]
      exact ih
noncomputable def extOf (scope : Scope) : Str -> Bool := fun x => scope.names.lookup x == some .free
noncomputable def compM (scope : Scope) (m : Str -> Option Value) : Str -> Option Value := fun x => if (scope.names.lookup x == some .free) = true then m x else none
noncomputable def compOk (scope outer : Scope) : Bool := scope.kind == .function && decide ((scope.names.map (·.1)).Nodup) && scope.names.all fun x => x.2 != .free || (outer.names.lookup x.1 == some .cell || outer.names.lookup x.1 == some .free)
noncomputable def closL (cells : List (Str × Addr)) : List (Str × NameKind) -> List (Str × Addr) -> List (Str × Addr)
  | [], acc => acc
  | (x, k) :: r, acc => if k == .free then closL cells r ((x, (cells.lookup x).getD 0) :: acc) else closL cells r acc
theorem closureFor_eq {scope : Scope} {env : Env} (h : ∀ x ∈ scope.names, x.2 = .free -> (env.cells.lookup x.1).isSome = true) : closureFor scope env = pure (closL env.cells scope.names []) := by
  unfold closureFor
  have key : ∀ (names : List (Str × NameKind)) (acc : List (Str × Addr)), (∀ x ∈ names, x.2 = .free -> (env.cells.lookup x.1).isSome = true) ->
      (forIn names acc fun (x : Str × NameKind) r => (if (x.2 == NameKind.free) = true then do
          let a ← cellOf env x.1
          pure (ForInStep.yield ((x.1, a) :: r))
        else pure (ForInStep.yield r) : Sem (ForInStep (List (Str × Addr))))) = pure (closL env.cells names acc) := by
    intro names
    induction names with
    | nil => intro acc _; rfl
    | cons p r ih =>
      intro acc hp
      obtain ⟨n, k⟩ := p
      rw [List.forIn_cons]
      unfold closL
      by_cases hk : (k == NameKind.free) = true
      · (refine el_E (Option.isSome_iff_exists.mp (hp (n, k) (.head _) (beq_iff_eq.mp hk))) ?_; intro a ha)
        rw [if_pos hk, if_pos hk]
        have e : cellOf env n = pure a := by unfold cellOf; rw [ha]
        dsimp only
        rw [e]
        show (forIn r ((n, a) :: acc) _ : Sem _) = _
        rw [ih _ fun x hx => hp x (.tail _ hx), ha]; rfl
      rw [if_neg hk, if_neg hk]
      show (forIn r acc _ : Sem _) = _
      exact ih acc fun x hx => hp x (.tail _ hx)
  have := key scope.names [] h
  exact (congrArg (fun t : Sem (List (Str × Addr)) => t >>= fun cs => pure cs) this)
theorem closL_lookup {cells : List (Str × Addr)} {x : Str} {a : Addr} : ∀ (names : List (Str × NameKind)) (acc : List (Str × Addr)), (∀ y ∈ names, y.2 = .free -> (cells.lookup y.1).isSome = true) -> (∀ b, acc.lookup x = some b -> cells.lookup x = some b) ->
    (closL cells names acc).lookup x = some a -> cells.lookup x = some a
  | [], acc, _, h, e => h a e
  | (n, k) :: r, acc, hn, h, e => by
    unfold closL at e
    split at e
    · rename_i hk
      refine closL_lookup r _ (fun y hy => hn y (.tail _ hy)) (fun b hb => ?_) e
      rw [List.lookup_cons] at hb
      cases hx : x == n with
      | true =>
        rw [hx] at hb
        obtain rfl := beq_iff_eq.mp hx
        refine el_E (Option.isSome_iff_exists.mp (hn (x, k) (.head _) (beq_iff_eq.mp hk))) ?_; intro c hc
        rw [hc] at hb ⊢; exact hb
      | false => rw [hx] at hb; exact h b hb
    exact closL_lookup r _ (fun y hy => hn y (.tail _ hy)) h e
theorem closL_some {cells : List (Str × Addr)} {x : Str} : ∀ (names : List (Str × NameKind)) (acc : List (Str × Addr)), ((x, NameKind.free) ∈ names ∨ (acc.lookup x).isSome = true) -> ((closL cells names acc).lookup x).isSome = true
  | [], acc, h => h.elim (fun q => nomatch q) id
  | (n, k) :: r, acc, h => by
    unfold closL
    split
    · rename_i hk
      refine closL_some r _ ?_
      cases hx : x == n with
      | true => exact .inr (by rw [List.lookup_cons, hx]; rfl)
      | false =>
        refine h.imp (fun q => ?_) fun q => by rw [List.lookup_cons, hx]; exact q
        rcases List.mem_cons.mp q with q | q
        · cases q; simp at hx
        exact q
    rename_i hk
    refine closL_some r _ (h.imp (fun q => ?_) id)
    rcases List.mem_cons.mp q with q | q
    · cases q; exact absurd rfl hk
    exact q
theorem cellsFrom_append : ∀ (names : List (Str × NameKind)) (n : Nat) (acc : List (Str × Addr)), cellsFrom n names acc = cellsFrom n names [] ++ acc
  | [], _, acc => rfl
  | (x, k) :: r, n, acc => by
    unfold cellsFrom
    split
    · rw [cellsFrom_append r (n + 1) ((x, n) :: acc), cellsFrom_append r (n + 1) [(x, n)], List.append_assoc]; rfl
    exact cellsFrom_append r n acc
theorem cellsFrom_only {x : Str} : ∀ (names : List (Str × NameKind)) (n : Nat) (acc : List (Str × Addr)), ((cellsFrom n names acc).lookup x).isSome = true -> (x, NameKind.cell) ∈ names ∨ (acc.lookup x).isSome = true
  | [], _, acc, h => .inr h
  | (y, k) :: r, n, acc, h => by
    unfold cellsFrom at h
    split at h
    · rename_i hk
      rcases cellsFrom_only r _ _ h with q | q
      · exact .inl (.tail _ q)
      rw [List.lookup_cons] at q
      cases hx : x == y with
      | true => obtain rfl := beq_iff_eq.mp hx; obtain rfl := beq_iff_eq.mp hk; exact .inl (.head _)
      | false => rw [hx] at q; exact .inr q
    rcases cellsFrom_only r _ _ h with q | q
    · exact .inl (.tail _ q)
    exact .inr q
theorem lookup_append {α : Type} (x : Str) : ∀ (l r : List (Str × α)), (l ++ r).lookup x = match l.lookup x with | some a => some a | none => r.lookup x
  | [], r => rfl
  | (y, a) :: l, r => by
    rw [List.cons_append, List.lookup_cons, List.lookup_cons]
    cases x == y with
    | true => rfl
    | false => exact lookup_append x l r
theorem mem_unique {x : Str} {k k' : NameKind} : ∀ {names : List (Str × NameKind)}, (names.map (·.1)).Nodup -> (x, k) ∈ names -> (x, k') ∈ names -> k = k'
  | [], _, h, _ => nomatch h
  | p :: r, nd, h, h' => by
    refine el_A (List.nodup_cons.mp nd) ?_; intro h1 h2
    rcases List.mem_cons.mp h with q | q <;> rcases List.mem_cons.mp h' with q' | q'
    · rw [← q] at q'; cases q'; rfl
    · exact absurd (List.mem_map.mpr ⟨_, q', by rw [← q]⟩) h1
    · exact absurd (List.mem_map.mpr ⟨_, q, by rw [← q']⟩) h1
    exact mem_unique h2 q q'
section
variable {g : Gl Int} {c : Ac} {S S' : St Int}
noncomputable def compEnv (scope : Scope) (env : Env) (C : Addr) : Env :=
  { scope := relabel scope env, locals := C, globals := env.globals, cells := cellsFrom (C + 1) scope.names (closL env.cells scope.names []), qual := env.qual, func := none, code := env.code, frame := env.frame, builtins := env.builtins }
noncomputable def compAc (scope : Scope) (c : Ac) (C : Addr) : Ac := ⟨c.A, compEnv scope c.env C, extOf scope⟩
theorem enterComp {H : Hid} {s : Shared} (R : Rel g c H S s) {scope : Scope} (hsc : compOk scope c.env.scope = true) :
    closureFor scope c.env = pure (closL c.env.cells scope.names []) /\
    ∃ (H' : Hid) (own : Addr -> Prop), (∀ b, own b -> ∃ o, s.heap.get? b = some o /\ H'.objs b = some o) /\ (∀ b, ¬ own b -> H'.objs b = H.objs b) /\ H'.gens = H.gens /\ (∀ b o, H.objs b = some o -> ¬ own b) /\
      Rel g (compAc scope c s.heap.objs.size) H' ⟨compM scope S.m, S.σ⟩ { s with heap := pushCells (s.heap.push { cls := .type "dict", data := .dict #[] }) scope.names } /\
      (∀ Ht H'' S' s' h', Rel g (compAc scope c s.heap.objs.size) H'' S' s' -> (∀ b, own b -> ∃ o, s.heap.get? b = some o /\ H''.objs b = some o) -> (∀ b o, Ht.objs b = some o -> H''.objs b = some o) -> (∀ b o, Ht.objs b = some o -> ¬ own b) ->
        (∀ b o u, H.objs b = some o -> o.data = .cell u -> Ht.objs b = some o) -> (∀ p ∈ Ht.gens, p ∈ H''.gens) ->
        Heap.SameBut s.heap.objs.size s'.heap h' -> Rel g c Ht ⟨S.m, S'.σ⟩ { s' with heap := h' }) /\
      ∀ (Ht : Hid) H'' S' s' oC, Rel g (compAc scope c s.heap.objs.size) H'' S' s' -> (∀ b, own b -> ∃ o, s.heap.get? b = some o /\ H''.objs b = some o) -> (∀ b o, Ht.objs b = some o -> H''.objs b = some o) -> (∀ b o, Ht.objs b = some o -> ¬ own b) ->
        (∀ b o u, H.objs b = some o -> o.data = .cell u -> Ht.objs b = some o) -> (∀ p ∈ Ht.gens, p ∈ H''.gens) ->
        s'.heap.get? s.heap.objs.size = some oC -> Rel g c (Ht.put s.heap.objs.size oC) ⟨S.m, S'.σ⟩ s' := by
  simp only [compOk, Bool.and_eq_true, beq_iff_eq, decide_eq_true_eq] at hsc
  refine el_A hsc ?_; (try clear hsc); intro nn_235 k3; obtain ⟨k1, k2⟩ := nn_235
  have hfree : ∀ x, (x, NameKind.free) ∈ scope.names -> c.env.kindOf x = some .cell ∨ c.env.kindOf x = some .free := fun x hx => by
    have := List.all_eq_true.mp k3 (x, .free) hx
    simpa [Env.kindOf] using this
  have hcells : ∀ x ∈ scope.names, x.2 = .free -> (c.env.cells.lookup x.1).isSome = true := fun x hx he => by
    obtain ⟨x, k⟩ := x
    subst he
    rcases hfree x hx with q | q
    · (refine el_E (R.ac.cells x q) ?_; intro a ha); rw [ha]; rfl
    (refine el_AE (R.ac.frees x q) ?_; intro _ a ha); rw [ha]; rfl
  refine ⟨closureFor_eq hcells, ?_⟩
  refine el_EAAAA R.role ?_; intro ρ r0 r1 r2 r3 r4
  refine el_EA R.loc ?_; intro m hm hv
  refine el_EEEAAA hm ?_; (try clear hm); intro oL es ep hL hLd hLk hLf
  have hlt : ∀ b o, s.heap.get? b = some o -> b < s.heap.objs.size := fun b o e => Heap.lt_size e
  have hk : ∀ b o, s.heap.get? b = some o -> (pushCells (s.heap.push { cls := .type "dict", data := .dict #[] }) scope.names).get? b = some o := fun b o e => pushCells_keeps _ _ b o (Heap.get?_push_of_some _ e)
  have okc := cellsFrom_ok scope.names (s.heap.push { cls := .type "dict", data := .dict #[] }) (s.heap.objs.size + 1) [] ⟨fun _ _ hm => (nomatch hm), List.Pairwise.nil⟩ (by rw [Heap.size_push]; exact Nat.le_refl _)
  rw [Heap.size_push] at okc
  have kind : ∀ x, (compEnv scope c.env s.heap.objs.size).kindOf x = match scope.names.lookup x with
    | some .free => if (c.env.scope.kind == .function && c.env.scope.names.lookup x == some .cell) = true then some .cell else some .free
    | r => r := fun x => relabelS_lookup scope c.env.scope x
  have look : ∀ x, (compEnv scope c.env s.heap.objs.size).cells.lookup x = match (cellsFrom (s.heap.objs.size + 1) scope.names []).lookup x with | some a => some a | none => (closL c.env.cells scope.names []).lookup x := fun x => by
    show (cellsFrom _ _ _).lookup x = _
    rw [cellsFrom_append, lookup_append]
    cases (cellsFrom (s.heap.objs.size + 1) scope.names []).lookup x <;> rfl
  have own_lookup : ∀ x, (compAc scope c s.heap.objs.size).Own x -> scope.names.lookup x = some .cell := fun x ⟨h1, h2⟩ => by
    have h1 : (compEnv scope c.env s.heap.objs.size).kindOf x = some .cell := h1
    rw [kind] at h1
    have h2 : (scope.names.lookup x == some .free) = false := h2
    split at h1
    · rename_i q; rw [q] at h2; exact Mine.tf h2
    exact h1
  have own_cells : ∀ x a, (compEnv scope c.env s.heap.objs.size).cells.lookup x = some a -> (compAc scope c s.heap.objs.size).Own x -> (x, a) ∈ cellsFrom (s.heap.objs.size + 1) scope.names [] := fun x a h1 h2 => by
    rw [look] at h1
    have h3 := cellsFrom_some (x := x) scope.names (s.heap.objs.size + 1) [] (.inl (own_lookup x h2))
    split at h1
    · rename_i b hb; (replace h1 := Option.some.inj h1; subst h1); exact mem_of_lookup hb
    rename_i hb; rw [hb] at h3; exact Mine.ft h3
  refine ⟨⟨fun b => if (ρ b = 1 ∨ ρ b = 2) /\ (s.heap.get? b).isSome = true then s.heap.get? b else H.objs b, H.gens⟩, fun b => (ρ b = 1 ∨ ρ b = 2) /\ (s.heap.get? b).isSome = true, ?_, ?_, rfl, ?_, ?_, ?_, ?_⟩
  · intro b q_
    refine el_A q_ ?_; clear q_; intro h1 h2
    refine el_E (Option.isSome_iff_exists.mp h2) ?_; intro o ho
    exact ⟨o, ho, by dsimp only; rw [if_pos ⟨h1, h2⟩]; exact ho⟩
  · intro b hb
    exact if_neg hb
  · intro b o e q_
    refine el_A q_ ?_; clear q_; intro h1 _
    rw [r3 b o e] at h1
    rcases h1 with q | q <;> cases q
  · refine { ok := R.ok, ac := ?_, above := ?_, os := R.os, bare := R.bare, gen := R.gen, keep := fun b o e => hk b o (R.keep b o e), hid := ?_, loc := ?_, cel := ?_, inj := ?_, fre := ?_, sto := ?_, role := ?_ }
    · refine { kind := k1, gl := R.ac.gl, bl := R.ac.bl, hd := R.ac.hd, deep := R.ac.deep, cells := fun y hy => ?_, frees := fun y hy => ?_ }
      · have hy : (compEnv scope c.env s.heap.objs.size).kindOf y = some .cell := hy
        show ∃ a, (compEnv scope c.env s.heap.objs.size).cells.lookup y = some a
        rw [kind] at hy
        rw [look]
        split
        · rename_i a _; exact ⟨a, rfl⟩
        rename_i hn
        split at hy
        · rename_i q
          exact Option.isSome_iff_exists.mp (closL_some _ _ (.inl (mem_of_lookup q)))
        have h3 := cellsFrom_some (x := y) scope.names (s.heap.objs.size + 1) [] (.inl hy)
        rw [hn] at h3; exact Mine.ft h3
      have hy : (compEnv scope c.env s.heap.objs.size).kindOf y = some .free := hy
      rw [kind] at hy
      split at hy
      · rename_i q
        refine ⟨by show (scope.names.lookup y == some .free) = true; rw [q]; rfl, ?_⟩
        show ∃ a, (compEnv scope c.env s.heap.objs.size).cells.lookup y = some a
        rw [look]
        split
        · rename_i a _; exact ⟨a, rfl⟩
        exact Option.isSome_iff_exists.mp (closL_some _ _ (.inl (mem_of_lookup q)))
      rename_i hne; exact absurd hy hne
    · exact Nat.le_trans R.above (Nat.le_of_lt (hlt _ _ hL))
    · intro b o e
      dsimp only at e
      split at e
      · exact hk b o e
      exact hk b o (R.hid b o e)
    · exact ⟨fun _ => none, (Heap.Ns.new s.heap (.type "dict")).keeps (pushCells_keeps _ _), fun y v e hy => by
        have hy : (compEnv scope c.env s.heap.objs.size).kindOf y = some .local := hy
        rw [kind] at hy
        have e : compM scope S.m y = some v := e
        unfold compM at e
        split at e
        · rename_i q
          rw [beq_iff_eq.mp q] at hy
          split at hy <;> (try split at hy) <;> first | exact (nomatch hy) | (rename_i hne; exact absurd rfl hne)
        · exact Mine.ns e⟩
    · intro y a ha hy
      refine ⟨none, (okc.empty y a (own_cells y a ha hy)).1, fun v e => ?_⟩
      have e : compM scope S.m y = some v := e
      unfold compM at e
      rw [own_lookup y hy] at e
      exact Mine.ns e
    · intro y z a h1 h2 h3 h4
      exact name_of_addr okc.apart (own_cells y a h1 h3) (own_cells z a h2 h4)
    · intro y a h1 h2 v e
      have q : scope.names.lookup y = some .free := beq_iff_eq.mp h2
      have h1 : (compEnv scope c.env s.heap.objs.size).cells.lookup y = some a := h1
      rw [look] at h1
      have hnone : (cellsFrom (s.heap.objs.size + 1) scope.names []).lookup y = none := by
        cases z : (cellsFrom (s.heap.objs.size + 1) scope.names []).lookup y with
        | none => rfl
        | some b =>
          rcases cellsFrom_only (x := y) scope.names (s.heap.objs.size + 1) [] (by rw [z]; rfl) with w | w
          · have := mem_unique k2 w (mem_of_lookup q); exact (nomatch this)
          exact Mine.ft w
      rw [hnone] at h1
      have h1 : c.env.cells.lookup y = some a := closL_lookup _ _ hcells (fun b hb => by exact Mine.ns hb) h1
      have e : S.m y = some v := by
        have e : compM scope S.m y = some v := e
        unfold compM at e
        rw [q] at e
        exact e
      cases hx : c.ext y with
      | true =>
        refine el_EEAA (R.fre y a h1 hx v e) ?_; intro ob u e1 e2 e3
        refine ⟨ob, u, ?_, e2, e3⟩
        dsimp only
        rw [if_neg (by rw [r3 a ob e1]; rintro ⟨w | w, _⟩ <;> cases w)]; exact e1
      | false =>
        have hcell : c.env.kindOf y = some .cell := by
          rcases hfree y (mem_of_lookup q) with w | w
          · exact w
          have := (R.ac.frees y w).1; rw [hx] at this; exact Mine.ft this
        refine el_EA (R.cel y a h1 ⟨hcell, hx⟩) ?_; intro u nn_234 hu; obtain ⟨ob, hob, hd⟩ := nn_234
        have := hu v e
        cases u with
        | none => exact Mine.ns this
        | some u =>
          refine ⟨ob, u, ?_, hd, Option.some.inj this⟩
          dsimp only
          rw [if_pos ⟨.inr (r2 y a h1 ⟨hcell, hx⟩), by rw [hob]; rfl⟩]; exact hob
    · intro a o e
      refine el_EA (R.sto a o e) ?_; intro ob h1 h2
      exact ⟨ob, hk _ _ h1, h2⟩
    refine ⟨fun b => if b = s.heap.objs.size then 1 else if s.heap.objs.size ≤ b then 2 else if ρ b = 0 then 0 else if ρ b = 4 then 4 else 3, fun b o e => ?_, if_pos rfl, fun y a h1 h2 => ?_, fun b o e => ?_, fun b o e => ?_⟩
    · have := hlt b o (R.keep b o e)
      dsimp only
      rw [if_neg (Nat.ne_of_lt this), if_neg (Nat.not_le.mpr this), if_pos (r0 b o e)]
    · have : s.heap.objs.size + 1 ≤ a := (okc.empty y a (own_cells y a h1 h2)).2
      dsimp only
      rw [if_neg (Nat.ne_of_gt this), if_pos (Nat.le_of_lt this)]
    · have hz : b < s.heap.objs.size /\ ρ b ≠ 0 /\ ρ b ≠ 4 := by
        dsimp only at e
        split at e
        · rename_i q
          refine ⟨hlt b o e, ?_, ?_⟩ <;> rcases q.1 with q | q <;> rw [q] <;> decide
        refine ⟨hlt b o (R.hid b o e), ?_, ?_⟩ <;> rw [r3 b o e] <;> decide
      dsimp only
      rw [if_neg (Nat.ne_of_lt hz.1), if_neg (Nat.not_le.mpr hz.1), if_neg hz.2.1, if_neg hz.2.2]
    refine el_EA (R.sto b o e) ?_; intro ob h1 _
    have := hlt _ _ h1
    dsimp only
    rw [if_neg (Nat.ne_of_lt this), if_neg (Nat.not_le.mpr this), if_neg (by rw [r4 b o e]; decide), if_pos (r4 b o e)]
  · intro Ht H'' S' s' h' R' hown hH hNo hCell hG hsame
    refine el_EAAAA R'.role ?_; intro ρ' q0 q1 q2 q3 q4
    have q1 : ρ' s.heap.objs.size = 1 := q1
    have st : ∀ b o, ρ' b ≠ 1 -> s'.heap.get? b = some o -> h'.get? b = some o := fun b o hb e => (hsame.2 b (by rintro rfl; exact hb q1)).trans e
    have hid' : ∀ b o, H''.objs b = some o -> h'.get? b = some o := fun b o e => st b o (by rw [q3 b o e]; decide) (R'.hid b o e)
    have own' : ∀ b o, (ρ b = 1 ∨ ρ b = 2) -> s.heap.get? b = some o -> h'.get? b = some o := fun b o hb e => by
      refine el_EA (hown b ⟨hb, by rw [e]; rfl⟩) ?_; intro o' e1 e2
      rw [e] at e1; (replace e1 := Option.some.inj e1; subst e1); exact hid' b o e2
    refine { ok := R.ok, ac := R.ac, above := R.above, os := R'.os, bare := R'.bare, gen := fun p hp => R'.gen p (hG p hp), keep := fun b o e => st b o (by rw [q0 b o e]; decide) (R'.keep b o e), hid := fun b o e => hid' b o (hH b o e), loc := ?_, cel := ?_, inj := R.inj, fre := fun y a h1 h2 v e => (let ⟨ob, u, e1, e2, e3⟩ := R.fre y a h1 h2 v e; ⟨ob, u, hCell a ob _ e1 e2, e2, e3⟩), sto := ?_, role := ?_ }
    · exact ⟨m, ⟨oL, es, ep, own' _ _ (.inl r1) hL, hLd, hLk, hLf⟩, hv⟩
    · intro y a h1 h2
      refine el_EA (R.cel y a h1 h2) ?_; intro u nn_233 hu; obtain ⟨oc, hc, hcd⟩ := nn_233
      exact ⟨u, ⟨oc, own' _ _ (.inr (r2 y a h1 h2)) hc, hcd⟩, hu⟩
    · intro b o e
      refine el_EA (R'.sto b o e) ?_; intro ob h1 h2
      exact ⟨ob, st _ _ (by rw [q4 b o e]; decide) h1, h2⟩
    refine ⟨fun b => if (ρ b = 1 ∨ ρ b = 2) /\ (s.heap.get? b).isSome = true then ρ b else ρ' b, fun b o e => ?_, ?_, fun y a h1 h2 => ?_, fun b o e => ?_, fun b o e => ?_⟩
    · dsimp only
      rw [if_neg (by rw [r0 b o e]; rintro ⟨q | q, _⟩ <;> cases q)]; exact q0 b o e
    · dsimp only
      rw [if_pos ⟨.inl r1, by rw [hL]; rfl⟩]; exact r1
    · (refine el_EA (R.cel y a h1 h2) ?_; intro u nn_232 hu; obtain ⟨oc, hc, hcd⟩ := nn_232)
      have := r2 y a h1 h2
      dsimp only
      rw [if_pos ⟨.inr this, by rw [hc]; rfl⟩]; exact this
    · dsimp only
      rw [if_neg (hNo b o e)]
      exact q3 b o (hH b o e)
    dsimp only
    rw [if_neg ?_]
    · exact q4 b o e
    intro q_
    refine el_A q_ ?_; clear q_; intro hb hs
    refine el_EA (hown b ⟨hb, hs⟩) ?_; intro o' ho' h2
    have := q3 b o' h2
    rw [q4 b o e] at this; cases this
  intro Ht H'' S' s' oC R' hown hH hNo hCell hG hC
  refine el_EAAAA R'.role ?_; intro ρ' q0 q1 q2 q3 q4
  have q1 : ρ' s.heap.objs.size = 1 := q1
  have st : ∀ b o, ρ' b ≠ 1 -> s'.heap.get? b = some o -> s'.heap.get? b = some o := fun b o hb e => e
  have hid' : ∀ b o, H''.objs b = some o -> s'.heap.get? b = some o := fun b o e => st b o (by rw [q3 b o e]; decide) (R'.hid b o e)
  have own' : ∀ b o, (ρ b = 1 ∨ ρ b = 2) -> s.heap.get? b = some o -> s'.heap.get? b = some o := fun b o hb e => by
    refine el_EA (hown b ⟨hb, by rw [e]; rfl⟩) ?_; intro o' e1 e2
    rw [e] at e1; (replace e1 := Option.some.inj e1; subst e1); exact hid' b o e2
  refine { ok := R.ok, ac := R.ac, above := R.above, os := R'.os, bare := R'.bare, gen := fun p hp => R'.gen p (hG p hp), keep := fun b o e => st b o (by rw [q0 b o e]; decide) (R'.keep b o e), hid := ?_, loc := ?_, cel := ?_, inj := R.inj, fre := fun y a h1 h2 v e => (let ⟨ob, u, e1, e2, e3⟩ := R.fre y a h1 h2 v e; ⟨ob, u, (if_neg (Nat.ne_of_lt (hlt a ob (R.hid a ob e1)))).trans (hCell a ob _ e1 e2), e2, e3⟩), sto := ?_, role := ?_ }
  · intro b o e
    have e : (if b = s.heap.objs.size then some oC else Ht.objs b) = some o := e
    by_cases q : b = s.heap.objs.size
    · rw [if_pos q] at e; (replace e := Option.some.inj e; subst e); rw [q]; exact hC
    rw [if_neg q] at e; exact hid' b o (hH b o e)
  · exact ⟨m, ⟨oL, es, ep, own' _ _ (.inl r1) hL, hLd, hLk, hLf⟩, hv⟩
  · intro y a h1 h2
    refine el_EA (R.cel y a h1 h2) ?_; intro u nn_231 hu; obtain ⟨oc, hc, hcd⟩ := nn_231
    exact ⟨u, ⟨oc, own' _ _ (.inr (r2 y a h1 h2)) hc, hcd⟩, hu⟩
  · intro b o e
    refine el_EA (R'.sto b o e) ?_; intro ob h1 h2
    exact ⟨ob, st _ _ (by rw [q4 b o e]; decide) h1, h2⟩
  refine ⟨fun b => if b = s.heap.objs.size then 3 else if (ρ b = 1 ∨ ρ b = 2) /\ (s.heap.get? b).isSome = true then ρ b else ρ' b, fun b o e => ?_, ?_, fun y a h1 h2 => ?_, fun b o e => ?_, fun b o e => ?_⟩
  · dsimp only
    rw [if_neg (Nat.ne_of_lt (hlt b o (R.keep b o e))), if_neg (by rw [r0 b o e]; rintro ⟨q | q, _⟩ <;> cases q)]; exact q0 b o e
  · dsimp only
    rw [if_neg (Nat.ne_of_lt (hlt _ _ hL)), if_pos ⟨.inl r1, by rw [hL]; rfl⟩]; exact r1
  · (refine el_EA (R.cel y a h1 h2) ?_; intro u nn_230 hu; obtain ⟨oc, hc, hcd⟩ := nn_230)
    have := r2 y a h1 h2
    dsimp only
    rw [if_neg (Nat.ne_of_lt (hlt _ _ hc)), if_pos ⟨.inr this, by rw [hc]; rfl⟩]; exact this
  · dsimp only
    have e : (if b = s.heap.objs.size then some oC else Ht.objs b) = some o := e
    by_cases q : b = s.heap.objs.size
    · rw [if_pos q]
    rw [if_neg q] at e ⊢
    rw [if_neg (hNo b o e)]
    exact q3 b o (hH b o e)
  dsimp only
  rw [if_neg (by rintro rfl; rw [q4 _ o e] at q1; cases q1), if_neg ?_]
  · exact q4 b o e
  intro q_
  refine el_A q_ ?_; clear q_; intro hb hs
  refine el_EA (hown b ⟨hb, hs⟩) ?_; intro o' ho' h2
  have := q3 b o' h2
  rw [q4 b o e] at this; cases this
theorem Rel.reveal {H : Hid} {s : Shared} (R : Rel g c H S s) {a : Addr} {ob : Obj} {o : AO Int} (ha : H.objs a = some ob) (hc : ∀ u, ob.data = .cell u -> False) (hi : Is g ob o) : S.σ a = none /\ Rel g c (H.cut a) ⟨S.m, upd S.σ a o⟩ s := by
  refine el_EAAAA R.role ?_; intro ρ r0 r1 r2 r3 r4
  have ra := r3 a ob ha
  have none : S.σ a = none := by
    cases q : S.σ a with
    | none => rfl
    | some o' => have := r4 a o' q; rw [ra] at this; cases this
  refine ⟨none, { ok := R.ok, ac := R.ac, above := R.above, os := R.os, bare := R.bare, gen := R.gen, inj := R.inj, keep := R.keep, hid := ?_, loc := R.loc, cel := R.cel, fre := ?_, sto := ?_, role := ?_ }⟩
  · intro b o' e
    unfold Hid.cut at e
    dsimp only at e
    split at e
    · exact Mine.ns e
    exact R.hid b o' e
  · intro y b h1 h2 w e
    refine el_EEAA (R.fre y b h1 h2 w e) ?_; intro ob₁ u h3 h4 h5
    refine ⟨ob₁, u, ?_, h4, h5⟩
    show (if b = a then _ else H.objs b) = _
    rw [if_neg (by rintro rfl; rw [ha] at h3; (replace h3 := Option.some.inj h3; subst h3); exact hc _ h4)]; exact h3
  · intro b o' e
    have e : upd S.σ a o b = some o' := e
    unfold upd at e
    by_cases hb : b = a
    · rw [if_pos hb] at e; (replace e := Option.some.inj e; subst e); subst hb; exact ⟨ob, R.hid _ _ ha, hi⟩
    rw [if_neg hb] at e; exact R.sto b o' e
  refine ⟨fun b => if b = a then 4 else ρ b, fun b o' e => ?_, ?_, fun y b h1 h2 => ?_, fun b o' e => ?_, fun b o' e => ?_⟩
  · dsimp only
    rw [if_neg (Rel.ne (r0 b o' e) ra)]; exact r0 b o' e
  · dsimp only
    rw [if_neg (Rel.ne r1 ra)]; exact r1
  · dsimp only
    rw [if_neg (Rel.ne (r2 y b h1 h2) ra)]; exact r2 y b h1 h2
  · unfold Hid.cut at e
    dsimp only at e ⊢
    split at e
    · exact Mine.ns e
    rename_i hb; rw [if_neg hb]; exact r3 b o' e
  dsimp only
  by_cases hb : b = a
  · rw [if_pos hb]
  rw [if_neg hb]
  refine r4 b o' ?_
  have e : upd S.σ a o b = some o' := e
  unfold upd at e
  rwa [if_neg hb] at e
theorem Rel.updHid {H : Hid} {s : Shared} (R : Rel g c H S s) {a : Addr} {ob : Obj} (ha : H.objs a = some ob) (hc : ∀ u, ob.data = .cell u -> False) (ob' : Obj) : ∃ news', Upd a ob ob' (allobjs g.h₀ s.heap c.env.locals) news' /\
    ∀ {m : Str -> Option Value}, (∀ x v, S.m x = some v -> c.env.kindOf x = some .local -> ∃ u, m x = some u /\ er u = v) ->
      ∀ {h' : Heap} {tk : Tok}, Fr g.h₀ c.env.locals h' m -> News g.h₀ c.env.locals h' news' -> Rel g c (H.put a ob') S { s with heap := h', toks := tk } := by
  refine el_EAAAA R.role ?_; intro ρ r0 r1 r2 r3 r4
  have ra := r3 a ob ha
  have h0 : g.h₀.get? a = none := by
    cases z : g.h₀.get? a with
    | none => rfl
    | some o' => have := r0 a o' z; rw [ra] at this; cases this
  refine el_EAA (upd_exists (ob' := ob') (nodup_allobjs g.h₀ s.heap c.env.locals) (mem_allobjs.mpr ⟨⟨Rel.ne ra r1, h0⟩, R.hid a ob ha⟩ : (a, ob) ∈ _)) ?_; intro l' u m1 m2
  refine ⟨l', u, ?_⟩
  intro m hv h' tk F N'
  have k : ∀ b o, b ≠ c.env.locals -> b ≠ a -> s.heap.get? b = some o -> h'.get? b = some o := fun b o hb hb' e => by
    cases z : g.h₀.get? b with
    | none => exact (N' _ (m2 (b, o) (mem_allobjs.mpr ⟨⟨hb, z⟩, e⟩) hb')).1
    | some o' => rw [F.keep b o' z, ← e, R.keep b o' z]
  refine { ok := R.ok, ac := R.ac, above := R.above, os := R.os, bare := R.bare, gen := R.gen, inj := R.inj, keep := ?_, hid := ?_, loc := ⟨m, F.ns, hv⟩, cel := ?_, fre := ?_, sto := ?_, role := ⟨ρ, r0, r1, r2, fun b o e => ?_, r4⟩ }
  · exact fun b o e => k b o (Rel.ne (r0 b o e) r1) (Rel.ne (r0 b o e) ra) (R.keep b o e)
  · intro b o e
    have e : (if b = a then some ob' else H.objs b) = some o := e
    by_cases hb : b = a
    · rw [if_pos hb] at e; (replace e := Option.some.inj e; subst e); subst hb; exact (N' _ m1).1
    rw [if_neg hb] at e; exact k b o (Rel.ne (r3 b o e) r1) hb (R.hid b o e)
  · intro x b h1 h2
    refine el_EA (R.cel x b h1 h2) ?_; intro u nn_229 hu; obtain ⟨oc, hc, hd⟩ := nn_229
    exact ⟨u, ⟨oc, k _ _ (Rel.ne (r2 x b h1 h2) r1) (Rel.ne (r2 x b h1 h2) ra) hc, hd⟩, hu⟩
  · intro y b h1 h2 w e
    refine el_EEAA (R.fre y b h1 h2 w e) ?_; intro ob₁ u h3 h4 h5
    refine ⟨ob₁, u, ?_, h4, h5⟩
    show (if b = a then _ else H.objs b) = _
    rw [if_neg (by rintro rfl; rw [ha] at h3; (replace h3 := Option.some.inj h3; subst h3); exact hc _ h4)]; exact h3
  · intro b o e
    refine el_EA (R.sto b o e) ?_; intro ob h1 h2
    exact ⟨ob, k _ _ (Rel.ne (r4 b o e) r1) (Rel.ne (r4 b o e) ra) h1, h2⟩
  have e : (if b = a then some ob' else H.objs b) = some o := e
  by_cases hb : b = a
  · rw [hb]; exact ra
  rw [if_neg hb] at e; exact r3 b o e
noncomputable def WIfs (g : Gl Int) (c : Ac) (ifs : List Expr) (S : St Int) (Q : Bool -> St Int -> Prop) : Prop :=
  WM g c (forIn ifs true fun t r => if r = true then do let ok ← isTrue t c.env (eval t c.env); pure (ForInStep.yield ok) else pure (ForInStep.yield r)) S Q
theorem WIfs_nil {Q : Bool -> St Int -> Prop} (h : Q true S) : WIfs g c [] S Q := fun _ _ R => wpAny_pure ⟨S, R, h⟩
theorem WIfs_one {t : Expr} {Q : Bool -> St Int -> Prop} (h : WT g c t S Q) : WIfs g c [t] S Q := by
  intro H s R
  o_shape
  rw [List.forIn_cons]
  refine wpAny_bind (wpAny_mono (Q := fun r s' => ∃ b, r = ForInStep.yield b /\ ∃ S', Rel g c H S' s' /\ Q b S') ?_ (fun r s' q_ => ?_) fun _ _ x => x)
  · rw [if_pos rfl]
    exact wpAny_bind (wpAny_mono (h H s R) (fun b s' q => wpAny_pure ⟨b, rfl, q⟩) fun _ _ x => x)
  refine el_EA q_ ?_; clear q_; intro b e q
  subst e
  exact wpAny_pure q
theorem comp_core {elt iter : Expr} {x : Str} {px : Pos} {ifs : List Expr} {scope : Scope} {pos : Pos} {Q : Value -> St Int -> Prop} (hs : ∀ env x, foldedSetIterable iter env x = pure x) (hsc : compOk scope c.env.scope = true)
    (h : WE g c iter S fun v S₁ => ∃ xs Ok, Iterable g c v xs Ok S₁ /\ ∃ Inv : Nat -> List Value -> St Int -> Prop, Inv 0 [] ⟨compM scope S₁.m, S₁.σ⟩ /\ (∀ i acc S₂, Inv i acc S₂ -> Ok S₂ /\ acc.length ≤ i) /\ xs.length ≤ sizeLine /\
      (∀ c' : Ac, c'.env.scope = relabelS scope c.env.scope -> c'.ext = extOf scope -> (∀ n, c.Deep n -> c'.Deep n) -> ∀ i y acc S₂, xs[i]? = some y -> Inv i acc S₂ ->
        WAsg g c' (.Name x px) y S₂ fun S₃ => WIfs g c' ifs S₃ fun b S₄ => if b = true then WE g c' elt S₄ (fun z S₅ => Inv (i + 1) (acc ++ [z]) S₅) else Inv (i + 1) acc S₄) /\
      ∀ acc S₂, Inv xs.length acc S₂ -> ∀ a, S₂.σ a = none -> Q (.ref a) ⟨S₁.m, upd S₂.σ a (.list acc)⟩) {H : Hid} {s : Shared} (R : Rel g c H S s) {use : Option (Value -> Sem Unit)} {QQ : Value -> Shared -> Prop}
    (hpost : ∀ (D C : Addr) (oC : Obj) (S' : St Int) (s' : Shared), H.objs C = none -> (∀ u, oC.data = .cell u -> False) -> (∀ h' : Heap, h'.get? C = some oC -> ∃ m, h'.Ns C m) -> Rel g c (H.put C oC) S' s' -> Q (.ref D) S' ->
      compPost (model g.prog g.w) c.A (fun _ _ => False) use QQ (.ref D) C (.ok .next) s') :
    wpAny (model g.prog g.w) c.A (comprehension (.ListComp elt [⟨.Name x px, iter, ifs, 0⟩] scope pos) scope c.env (firstIterPos [⟨.Name x px, iter, ifs, 0⟩] pos) (newList []) (firstAsync [⟨.Name x px, iter, ifs, 0⟩]) (firstIter [⟨.Name x px, iter, ifs, 0⟩] c.env) use) QQ (fun _ _ => False) s := by
  have hkind : scope.kind = .function := by
    simp only [compOk, Bool.and_eq_true, beq_iff_eq] at hsc
    exact hsc.1.1
  have hnodup : (scope.names.map (·.1)).Nodup := by
    simp only [compOk, Bool.and_eq_true, beq_iff_eq, decide_eq_true_eq] at hsc
    exact hsc.1.2
  have hclos := (enterComp R hsc).1
  refine wpAny_comprehension_free rfl (fun x => hs _ x) hclos hkind (fun y hy hl => ?_) ?_
  · obtain ⟨n, k⟩ := y
    subst hl
    cases z : scope.names.lookup n with
    | none =>
      exfalso
      have : ∀ l : List (Str × NameKind), (n, NameKind.local) ∈ l -> l.lookup n ≠ none := by
        intro l
        induction l with
        | nil => intro q; cases q
        | cons p r ih =>
          intro q e
          rw [List.lookup_cons] at e
          cases hb : n == p.1 with
          | true => rw [hb] at e; exact Mine.sn e
          | false =>
            rw [hb] at e
            rcases List.mem_cons.mp q with q | q
            · rw [← q] at hb; simp at hb
            exact ih q e
      exact this _ hy z
    | some k => rw [mem_unique hnodup (mem_of_lookup z) hy]
  refine goK (h H s R) (fun u s₁ S₁ R₁ q_ => ?_)
  refine el_EEAEAAAA q_ ?_; clear q_; intro xs Ok hit Inv h0 hok hsz turn fin
  refine wpAny_mono (hit H s₁ u rfl R₁) (fun it s₂ q_ => ?_) fun _ _ x => x.elim
  refine el_EEEAAA q_ ?_; clear q_; intro a ob sp e hfree hst R₂
  subst e
  refine wpAny_newList ?_ (by simp [sizeLine])
  have R₃ : Rel g c ((H.put a ob).put s₂.heap.objs.size (listOf #[] 0)) S₁ { s₂ with heap := s₂.heap.push (listOf #[] 0) } := R₂.hide (tk := s₂.toks) (ob := listOf #[] 0) (h' := s₂.heap.push (listOf #[] 0)) (Heap.ExtBut.push (Heap.ExtBut.refl _ _) _) (size_none _) (Heap.get?_push_size _ rfl)
  have hDfree : (H.put a ob).objs s₂.heap.objs.size = none := R₂.free_hid (size_none _)
  generalize hD : s₂.heap.objs.size = D at R₃ hDfree ⊢
  have hDa : D ≠ a := fun e => by rw [e, H.put_self] at hDfree; exact Mine.sn hDfree
  have hDH : H.objs D = none := by
    have := hDfree
    unfold Hid.put at this
    dsimp only at this
    rwa [if_neg hDa] at this
  generalize hs₃ : ({ s₂ with heap := s₂.heap.push (listOf #[] 0) } : Shared) = s₃ at *
  refine el_AEEAAAAAA (enterComp R₃ hsc) ?_; intro _ H₀ own o1 o2 o3 o4 R₄ back back2
  have o2 : ∀ b, ¬ own b -> H₀.objs b = ((H.put a ob).put D (listOf #[] 0)).objs b := o2
  have hX : ∀ b o, ((H.put a ob).put D (listOf #[] 0)).objs b = some o -> ¬ own b := o4
  have xD : ((H.put a ob).put D (listOf #[] 0)).objs D = some (listOf #[] 0) := Hid.put_self _ _ _
  have xa : ((H.put a ob).put D (listOf #[] 0)).objs a = some ob := by
    show (if a = D then _ else (H.put a ob).objs a) = _
    rw [if_neg (Ne.symm hDa), Hid.put_self]
  have xo : ∀ b, b ≠ a -> b ≠ D -> ((H.put a ob).put D (listOf #[] 0)).objs b = H.objs b := fun b h1 h2 => by
    show (if b = D then _ else if b = a then _ else H.objs b) = _
    rw [if_neg h2, if_neg h1]
  have nD := hX _ _ xD
  have na := hX _ _ xa
  simp only [newFunctionEnv, Option.isSome_some, if_true]
  refine wpAny_bind (wpAny_alloc ?_)
  refine wpAny_bind (wpAny_layCells _ (fun name kind cells => by cases hkc : kind == NameKind.cell <;> simp [hkc]) _ _ _ _ ?_)
  rw [show ({ s₃ with heap := s₃.heap.push { cls := .type "dict", data := .dict #[] } } : Shared).heap.objs.size = s₃.heap.objs.size + 1 from Heap.size_push ..]
  refine wpAny_bind (wpAny_pure (wpAny_pure ?_))
  generalize hc' : compAc scope c s₃.heap.objs.size = c' at R₄ back back2
  have cA : c'.A = c.A := by rw [← hc']; rfl
  have cE : c'.env = compEnv scope c.env s₃.heap.objs.size := by rw [← hc']; rfl
  have cx : c'.ext = extOf scope := by rw [← hc']; rfl
  have loop : ∀ it', it' = Value.ref a -> ∀ s', s' = ({ s₃ with heap := pushCells (s₃.heap.push { cls := .type "dict", data := .dict #[] }) scope.names } : Shared) ->
      codeAny (model g.prog g.w) c'.A (.compLoop (.ListComp elt [⟨.Name x px, iter, ifs, 0⟩] scope pos) 0 it' (.ref D) c'.env)
        (compPost (model g.prog g.w) c.A (fun _ _ => False) use QQ (.ref D) s₃.heap.objs.size) s' := by
    rintro it' rfl s' rfl
    let II : Nat -> Shared -> Prop := fun k s' => ∃ i acc ob arr n H' S', k + i = xs.length + 1 /\ i ≤ xs.length /\ H'.objs a = some ob /\ sp.St_ i ob /\ H'.objs D = some (listOf arr n) /\ (∀ b, b ≠ a -> b ≠ D -> H'.objs b = H₀.objs b) /\ H'.gens = H₀.gens /\
      Rel g c' H' S' s' /\ arr.toList.map er = acc /\ Inv i acc S'
    refine codeAny_compLoop_tests II ?_ (xs.length + 1)
      ⟨0, [], ob, #[], 0, H₀, _, rfl, Nat.zero_le _, by rw [o2 _ na]; exact xa, hst, by rw [o2 _ nD]; exact xD, fun _ _ _ => rfl, rfl, R₄, rfl, h0⟩
    intro k s' q_
    refine el_EEEEEEEAAAAAAAAA q_ ?_; clear q_; intro i acc ob arr n H' S' hki hil ha hi hDo hHb hHg R' hacc hinv
    refine el_A (hok i acc S' hinv) ?_; intro hOk hlen
    cases hx : xs[i]? with
    | none =>
      refine wpAny_mono (sp.done c' H' S' s' a i ob ha hi R' hOk hx) (fun r s₅ q_ => ?_) fun _ _ q => q.elim
      refine el_A q_ ?_; clear q_; intro e R₅
      subst e
      have hle : xs.length ≤ i := List.getElem?_eq_none_iff.mp hx
      have hi' : i = xs.length := by exact Nat.le_antisymm ‹_› ‹_›
      subst hi'
      refine el_EA R₅.loc ?_; intro m hm _
      rw [cE] at hm
      refine el_EEEAAA hm ?_; (try clear hm); intro oC es ep hC hCd hCk hCf
      have hC : s₅.heap.get? s₃.heap.objs.size = some oC := hC
      have hCH : H.objs s₃.heap.objs.size = none := by
        have z := R₃.free_hid (size_none s₃.heap)
        by_cases q1 : s₃.heap.objs.size = D
        · rw [q1]; exact hDH
        have z : (if s₃.heap.objs.size = D then _ else if s₃.heap.objs.size = a then _ else H.objs s₃.heap.objs.size) = none := z
        rw [if_neg q1] at z
        by_cases q2 : s₃.heap.objs.size = a
        · rw [if_pos q2] at z; exact Mine.sn z
        rwa [if_neg q2] at z
      have hCD : D ≠ s₃.heap.objs.size := fun e => by
        have z := R₃.free_hid (size_none s₃.heap)
        rw [← e, xD] at z; exact Mine.sn z
      have R₆ := back2 (H.put D (listOf arr n)) (H'.cut a) S' s₅ oC R₅ (fun b hb => ?_) (fun b o e => ?_) (fun b o e => ?_) (fun b o u e hu => ?_) (fun p hp => ?_) hC
      · (refine el_A (R₆.reveal (a := D) (ob := listOf arr n) (o := .list acc) ((if_neg hCD).trans (Hid.put_self _ _ _)) (fun u e => by cases e) (Is.list hacc)) ?_; intro hn R₇)
        have hcut : ((H.put D (listOf arr n)).put s₃.heap.objs.size oC).cut D = H.put s₃.heap.objs.size oC := by
          unfold Hid.put Hid.cut
          congr 1
          funext b
          dsimp only
          by_cases q1 : b = D
          · rw [if_pos q1, q1, if_neg hCD, hDH]
          rw [if_neg q1]
          by_cases q2 : b = s₃.heap.objs.size
          · rw [if_pos q2, if_pos q2]
          rw [if_neg q2, if_neg q2, if_neg q1]
        rw [hcut] at R₇
        exact hpost D s₃.heap.objs.size oC _ s₅ hCH (fun u e => by rw [hCd] at e; exact (nomatch e)) (fun h' e => ⟨m, oC, es, ep, e, hCd, hCk, hCf⟩) R₇ (fin acc S' hinv D hn)
      · (refine el_EA (o1 b hb) ?_; intro o h1 h2)
        have hba : b ≠ a := by rintro rfl; exact na hb
        have hbD : b ≠ D := by rintro rfl; exact nD hb
        refine ⟨o, h1, ?_⟩
        show (if b = a then none else H'.objs b) = _
        rw [if_neg hba, hHb b hba hbD]; exact h2
      · show (if b = a then none else H'.objs b) = _
        have e : (if b = D then some (listOf arr n) else H.objs b) = some o := e
        by_cases hbD : b = D
        · rw [if_pos hbD] at e
          rw [if_neg (by rw [hbD]; exact hDa), hbD, hDo]; exact e
        rw [if_neg hbD] at e
        have hba : b ≠ a := by rintro rfl; rw [hfree] at e; exact Mine.ns e
        have q : ((H.put a ob).put D (listOf #[] 0)).objs b = some o := by
          show (if b = D then _ else if b = a then _ else H.objs b) = _
          rw [if_neg hbD, if_neg hba]; exact e
        have hno : ¬ own b := by
          refine hX b o ?_
          rw [xo b hba hbD]; exact e
        rw [if_neg hba, hHb b hba hbD, o2 b hno, xo b hba hbD]; exact e
      · have e : (if b = D then some (listOf arr n) else H.objs b) = some o := e
        by_cases hbD : b = D
        · rw [hbD]; exact nD
        rw [if_neg hbD] at e
        have hba : b ≠ a := by rintro rfl; rw [hfree] at e; exact Mine.ns e
        exact hX b o (by rw [xo b hba hbD]; exact e)
      · show (if b = D then some (listOf arr n) else H.objs b) = some o
        have e : (if b = D then some (listOf #[] 0) else (H.put a _).objs b) = some o := e
        by_cases hbD : b = D
        · rw [if_pos hbD] at e; (replace e := Option.some.inj e; subst e); exact (nomatch hu)
        rw [if_neg hbD] at e ⊢
        have e : (if b = a then some _ else H.objs b) = some o := e
        by_cases hba : b = a
        · rw [if_pos hba] at e; (replace e := Option.some.inj e; subst e); exact (sp.noCell _ _ _ hst hu).elim
        rw [if_neg hba] at e; exact e
      show p ∈ H'.gens
      rw [hHg, o3]; exact hp
    | some y =>
      have hlt : i < xs.length := (List.getElem?_eq_some_iff.mp hx).1
      refine wpAny_mono (sp.next c' H' S' s' a i ob y ha hi R' hOk hx) (fun r s₅ q_ => ?_) fun _ _ q => q.elim
      refine el_EEAAA q_ ?_; clear q_; intro u ob' e hu hi' R₅
      subst e
      have hc := turn c' (by rw [cE]; rfl) cx (fun n hn => by unfold Ac.Deep at hn ⊢; rw [cA]; exact hn) i y acc S' hx hinv
      dsimp only
      refine goK (hc u hu _ s₅ R₅) (fun _ s₆ S₆ R₆ h₆ => ?_)
      have hacc_sz : arr.size ≤ sizeLine := by
        have : arr.toList.length = acc.length := by rw [← hacc, List.length_map]
        rw [Array.length_toList] at this
        lia
      have keepD : (H'.put a ob').objs D = some (listOf arr n) := by
        show (if D = a then _ else H'.objs D) = _
        rw [if_neg hDa]; exact hDo
      have rest : ∀ b, b ≠ a -> b ≠ D -> (H'.put a ob').objs b = H₀.objs b := fun b h1 h2 => by
        show (if b = a then _ else H'.objs b) = _
        rw [if_neg h1]; exact hHb b h1 h2
      refine goK (h₆ _ s₆ R₆) (fun ok s₇ S₇ R₇ h₇ => ?_)
      cases ok with
      | false =>
        rw [if_neg (by simp)] at h₇ ⊢
        exact ⟨k - 1, om06 hki (Nat.lt_succ_of_lt hlt), i + 1, acc, ob', arr, n, _, S₇, om03 hki (Nat.lt_succ_of_lt hlt), hlt, Hid.put_self _ _ _, hi', keepD, rest, hHg, R₇, hacc, h₇⟩
      | true =>
        rw [if_pos rfl] at h₇ ⊢
        refine goK (h₇ _ s₇ R₇) (fun z s₈ S₈ R₈ h₈ => ?_)
        refine el_EAA R₈.led ?_; intro m F N' hl
        refine el_EA (R₈.updHid keepD (fun u e => by cases e) (listOf (arr.push z) (n + 1))) ?_; intro news' U back'
        refine append_K F N' U (fun h' F' N'' => ?_) hacc_sz
        refine ⟨k - 1, om06 hki (Nat.lt_succ_of_lt hlt), i + 1, acc ++ [er z], ob', arr.push z, n + 1, (H'.put a ob').put D (listOf (arr.push z) (n + 1)), S₈, om03 hki (Nat.lt_succ_of_lt hlt), hlt, ?_, hi', Hid.put_self _ _ _, fun b h1 h2 => ?_, hHg, back' hl F' N'', by rw [Array.toList_push, List.map_append, hacc]; rfl, h₈⟩
        · show (if a = D then _ else (H'.put a ob').objs a) = _
          rw [if_neg (Ne.symm hDa)]; exact Hid.put_self _ _ _
        show (if b = D then _ else (H'.put a ob').objs b) = _
        rw [if_neg h2]; exact rest b h1 h2
  have hEnv : ({ { scope := scope, locals := s₃.heap.objs.size, globals := c.env.globals, cells := cellsFrom (s₃.heap.objs.size + 1) scope.names (closL c.env.cells scope.names []), qual := c.env.qual, func := none, code := c.env.code, frame := c.env.frame, builtins := c.env.builtins : Env } with scope := relabel scope c.env } : Env) = c'.env := by rw [cE]; rfl
  rw [hEnv, ← cA]
  refine codeAny_compStart_list ?_ ?_
  · rw [cA]; have := loop _ rfl _ rfl; rw [cA] at this; exact this
  refine sp.again c' H₀ _ _ a 0 ob _ _ (by rw [o2 _ na]; exact xa) hst R₄ ?_
  have := loop _ rfl _ rfl
  rw [cA] at this ⊢; exact this
theorem WE_ListComp {elt iter : Expr} {x : Str} {px : Pos} {ifs : List Expr} {scope : Scope} {pos : Pos} {Q : Value -> St Int -> Prop} (hs : ∀ env x, foldedSetIterable iter env x = pure x) (hsc : compOk scope c.env.scope = true)
    (h : WE g c iter S fun v S₁ => ∃ xs Ok, Iterable g c v xs Ok S₁ /\ ∃ Inv : Nat -> List Value -> St Int -> Prop, Inv 0 [] ⟨compM scope S₁.m, S₁.σ⟩ /\ (∀ i acc S₂, Inv i acc S₂ -> Ok S₂ /\ acc.length ≤ i) /\ xs.length ≤ sizeLine /\
      (∀ c' : Ac, c'.env.scope = relabelS scope c.env.scope -> c'.ext = extOf scope -> (∀ n, c.Deep n -> c'.Deep n) -> ∀ i y acc S₂, xs[i]? = some y -> Inv i acc S₂ ->
        WAsg g c' (.Name x px) y S₂ fun S₃ => WIfs g c' ifs S₃ fun b S₄ => if b = true then WE g c' elt S₄ (fun z S₅ => Inv (i + 1) (acc ++ [z]) S₅) else Inv (i + 1) acc S₄) /\
      ∀ acc S₂, Inv xs.length acc S₂ -> ∀ a, S₂.σ a = none -> Q (.ref a) ⟨S₁.m, upd S₂.σ a (.list acc)⟩) : WE g c (.ListComp elt [⟨.Name x px, iter, ifs, 0⟩] scope pos) S Q := by
  intro H s R
  o_shape
  rw [eval_ListComp]
  refine comp_core hs hsc h R fun D C oC S' s' h0 hnc hNs R' q => ?_
  refine el_E (hNs s'.heap (R'.hid C oC (Hid.put_self _ _ _))) ?_; intro m hm
  refine ⟨m, hm, fun h' hs' => ?_⟩
  have R'' := R'.lose (tk := s'.toks) (Hid.put_self _ _ _) hnc hs'.extBut
  rw [Hid.put_cut _ _ _ h0] at R''
  exact ⟨S', R'', q⟩
theorem WX_AssignComp {elt iter : Expr} {x : Str} {px : Pos} {ifs : List Expr} {scope : Scope} {pos : Pos} {Q : Value -> St Int -> Prop} (hs : ∀ env x, foldedSetIterable iter env x = pure x) (hsc : compOk scope c.env.scope = true)
    {y : Str} {py spos : Pos} {Q' : Flow -> St Int -> Prop} (hy : isOwn c.env.scope y = true) (hey : c.ext y = false) (hsw : swapsWith (.ListComp elt [⟨.Name x px, iter, ifs, 0⟩] scope pos) (some (.Name y py)) spos.line c.env = pure true) (hQ : ∀ v S', Q v S' -> Q' .next ⟨setv S'.m y v, S'.σ⟩)
    (h : WE g c iter S fun v S₁ => ∃ xs Ok, Iterable g c v xs Ok S₁ /\ ∃ Inv : Nat -> List Value -> St Int -> Prop, Inv 0 [] ⟨compM scope S₁.m, S₁.σ⟩ /\ (∀ i acc S₂, Inv i acc S₂ -> Ok S₂ /\ acc.length ≤ i) /\ xs.length ≤ sizeLine /\
      (∀ c' : Ac, c'.env.scope = relabelS scope c.env.scope -> c'.ext = extOf scope -> (∀ n, c.Deep n -> c'.Deep n) -> ∀ i y acc S₂, xs[i]? = some y -> Inv i acc S₂ ->
        WAsg g c' (.Name x px) y S₂ fun S₃ => WIfs g c' ifs S₃ fun b S₄ => if b = true then WE g c' elt S₄ (fun z S₅ => Inv (i + 1) (acc ++ [z]) S₅) else Inv (i + 1) acc S₄) /\
      ∀ acc S₂, Inv xs.length acc S₂ -> ∀ a, S₂.σ a = none -> Q (.ref a) ⟨S₁.m, upd S₂.σ a (.list acc)⟩) : WX g c (.Assign [.Name y py] (.ListComp elt [⟨.Name x px, iter, ifs, 0⟩] scope pos) spos) S Q' := by
  intro H s R
  o_shape
  rw [exec_Assign_Name_used _ _ _ _ hsw]
  refine wpAny_bind (wpAny_standAt (wpAny_bind ?_))
  refine wpAny_bind (goK (comp_core (QQ := fun _ s' => ∃ S', Rel g c H S' s' /\ Q' .next S') hs hsc h R fun D C oC S' s' h0 hnc hNs R' q => ?_) (fun _ s' S' R' q => wpAny_pure (wpAny_pure ⟨S', R', q⟩)))
  refine goK (WAsg_Name (p := py) (Q := fun S₁ => S₁ = ⟨setv S'.m y (.ref D), S'.σ⟩) (W_Store hy hey rfl) (.ref D) rfl _ s' R') (fun _ s'' S₁ R₁ e => ?_)
  subst e
  refine el_E (hNs s''.heap (R₁.hid C oC (Hid.put_self _ _ _))) ?_; intro m hm
  refine ⟨m, hm, fun h' hs' => ?_⟩
  have R'' := R₁.lose (tk := s''.toks) (Hid.put_self _ _ _) hnc hs'.extBut
  rw [Hid.put_cut _ _ _ h0] at R''
  exact ⟨_, R'', hQ _ _ q⟩
end
end
section
section
variable {g : Gl Int} {c : Ac} {S S' : St Int} {Q : Value -> St Int -> Prop}
noncomputable def rngO (a b c : Int) : AO Int := .raw fun ob => ∃ t u v, ob = { cls := .type "range", data := .fields #[.int a t, .int b u, .int c v] }
noncomputable def rngN (a b c : Int) : Nat := (Builtin.Range.rangeSize a b c).toNat
noncomputable def rngL (a b c : Int) : List Value := (List.range (rngN a b c)).map fun (k : Nat) => .int (a + (k : Int) * c) 0
theorem rngL_get {a b c : Int} {i : Nat} {x : Value} : (rngL a b c)[i]? = some x ↔ i < rngN a b c /\ x = .int (a + (i : Int) * c) 0 := by
  unfold rngL
  rw [List.getElem?_map, Option.map_eq_some_iff]
  constructor
  · intro q_
    refine el_EA q_ ?_; clear q_; intro k h rfl_251; subst rfl_251
    by_cases q : i < rngN a b c
    · rw [List.getElem?_range q] at h
      (replace h := Option.some.inj h; subst h)
      exact ⟨q, rfl⟩
    rw [List.getElem?_eq_none (by simpa using q)] at h; exact Mine.ns h
  intro q_
  refine el_A q_ ?_; clear q_; intro h rfl_250; subst rfl_250
  exact ⟨i, List.getElem?_range h, rfl⟩
theorem rngL_len {a b c : Int} : (rngL a b c).length = rngN a b c := by simp [rngL]
theorem rngN_two (a b : Int) : rngN a b 1 = (b - a).toNat := by
  unfold rngN
  rw [rangeSize_one]
  split <;> lia
theorem Rel.raw {H : Hid} {s : Shared} {P : Obj -> Prop} (R : Rel g c H S s) {a : Addr} (ha : S.σ a = some (.raw P)) : ∃ ob, s.heap.get? a = some ob /\ P ob := by
  refine el_EA (R.sto a _ ha) ?_; intro ob h1 h2
  exact ⟨ob, h1, h2⟩
theorem WC_range1 {n : Int} (h : ∀ a, S.σ a = none -> Q (.ref a) ⟨S.m, upd S.σ a (rngO 0 n 1)⟩) : WC g c (.type "range") [.int n 0] S Q := by
  intro us hu H s R
  o_shape
  refine el_EA (map1 hu) ?_; intro u rfl_249 hu1; subst rfl_249
  refine el_E (er_int hu1) ?_; intro t rfl_248; subst rfl_248
  refine call_range_1 ?_
  refine el_A (R.add (tk := s.toks + 1 + 1) (h' := s.heap.push { cls := .type "range", data := .fields #[.int 0 s.toks, .int n t, .int 1 (s.toks + 1)] }) (o := rngO 0 n 1) (Heap.ExtBut.push (Heap.ExtBut.refl _ _) _) (size_none _) (Heap.get?_push_size _ rfl) ⟨_, _, _, rfl⟩) ?_; intro hn R₂
  exact ⟨_, R₂, h _ hn⟩
theorem WC_range2 {a b : Int} (h : ∀ r, S.σ r = none -> Q (.ref r) ⟨S.m, upd S.σ r (rngO a b 1)⟩) : WC g c (.type "range") [.int a 0, .int b 0] S Q := by
  intro us hu H s R
  o_shape
  refine el_EEAA (map2 hu) ?_; intro u v rfl_247 hu1 hu2; subst rfl_247
  refine el_E (er_int hu1) ?_; intro t rfl_246; subst rfl_246
  refine el_E (er_int hu2) ?_; intro t' rfl_245; subst rfl_245
  refine call_range_2 ?_
  refine el_A (R.add (tk := s.toks + 1) (h' := s.heap.push { cls := .type "range", data := .fields #[.int a t, .int b t', .int 1 s.toks] }) (o := rngO a b 1) (Heap.ExtBut.push (Heap.ExtBut.refl _ _) _) (size_none _) (Heap.get?_push_size _ rfl) ⟨_, _, _, rfl⟩) ?_; intro hn R₂
  exact ⟨_, R₂, h _ hn⟩
theorem WC_range3 {a b k : Int} (hk : k ≠ 0) (hp : Builtin.divisionGoesByPylong (b - a) k = false) (h : ∀ r, S.σ r = none -> Q (.ref r) ⟨S.m, upd S.σ r (rngO a b k)⟩) : WC g c (.type "range") [.int a 0, .int b 0, .int k 0] S Q := by
  intro us hu H s R
  o_shape
  refine el_EEEAAA (map3 hu) ?_; intro u v w rfl_244 hu1 hu2 hu3; subst rfl_244
  refine el_E (er_int hu1) ?_; intro t rfl_243; subst rfl_243
  refine el_E (er_int hu2) ?_; intro t' rfl_242; subst rfl_242
  refine el_E (er_int hu3) ?_; intro t'' rfl_241; subst rfl_241
  refine call_range_3 hk ?_ (.inl hp)
  refine el_A (R.add (tk := s.toks) (h' := s.heap.push { cls := .type "range", data := .fields #[.int a t, .int b t', .int k t''] }) (o := rngO a b k) (Heap.ExtBut.push (Heap.ExtBut.refl _ _) _) (size_none _) (Heap.get?_push_size _ rfl) ⟨_, _, _, rfl⟩) ?_; intro hn R₂
  exact ⟨_, R₂, h _ hn⟩
noncomputable def itRange (g : Gl Int) (a b k : Int) : ItSpec g (rngL a b k) (fun _ => True) where
  St_ i ob := i ≤ rngN a b k /\ ob = { cls := .type "range_iterator", data := .fields #[rawInt (a + (i : Int) * k), rawInt ((rngN a b k : Int) - (i : Int)), rawInt k] }
  noCell i ob u h e := by rw [h.2] at e; exact (nomatch e)
  next c H S s it i ob x hH hS R ok hx := by
    refine el_A (rngL_get.mp hx) ?_; intro hlt rfl_240; subst rfl_240
    refine el_A hS ?_; (try clear hS); intro hi rfl_239; subst rfl_239
    refine wpAny_pyNext_range_item (R.hid _ _ hH) (by lia) fun h' hit hs => ?_
    refine ⟨_, _, rfl, rfl, ⟨hlt, rfl⟩, R.turn (tk := s.toks + 1) hH hs.extBut ?_ fun u e => by exact (nomatch e)⟩
    rw [show (a + ((i + 1 : Nat) : Int) * k) = a + (i : Int) * k + k by rw [Int.natCast_add, Int.add_mul, Int.add_assoc]; simp, show ((rngN a b k : Int) - ((i + 1 : Nat) : Int)) = (rngN a b k : Int) - (i : Int) - 1 by lia]
    exact hit
  done c H S s it i ob hH hS R ok hx := by
    refine el_A hS ?_; (try clear hS); intro hi rfl_238; subst rfl_238
    have : rngN a b k ≤ i := by
      have := List.getElem?_eq_none_iff.mp hx
      rwa [rngL_len] at this
    exact wpAny_pyNext_range_end R.ac.hd (R.hid _ _ hH) (by lia) fun h' hs => ⟨rfl, R.lose (tk := s.toks) hH (fun u e => by exact (nomatch e)) hs⟩
  lets c H S s it i ob t v hH hS R := lets_plain (R.hid _ _ hH) (by rw [hS.2]; rfl) ⟨ob, hS, by rw [H.put_same hH]; exact R⟩
  again c H S s it i ob P E hH hS R h := by
    refine el_A hS ?_; (try clear hS); intro hi rfl_237; subst rfl_237
    exact wpAny_pyIter_rangeiter (R.hid _ _ hH) h
theorem iter_range {a : Addr} {x y z : Int} (ha : S.σ a = some (rngO x y z)) (hs : Builtin.Range.small x y z = true) (hz : 0 ≤ Builtin.Range.rangeSize x y z) : Iterable g c (.ref a) (rngL x y z) (fun _ => True) S := by
  intro H s u hu R
  obtain rfl := er_ref hu
  refine el_EAEEE (R.raw ha) ?_; intro ob h1 t u v rfl_236; subst rfl_236
  refine wpAny_pyIter_range h1 hs ⟨_, _, itRange g x y z, rfl, R.free_hid (size_none _), ⟨Nat.zero_le _, rfl⟩, ?_⟩
  refine R.hide (tk := s.toks) (Heap.ExtBut.push (Heap.ExtBut.refl _ _) _) (size_none _) ?_
  rw [show ((rngN x y z : Nat) : Int) - ((0 : Nat) : Int) = Builtin.Range.rangeSize x y z by unfold rngN; exact Int.toNat_of_nonneg ‹_›, show x + ((0 : Nat) : Int) * z = x by simp]
  exact Heap.get?_push_size _ rfl
theorem fits_long {i : Int} (h1 : -(2 ^ 63) ≤ i) (h2 : i < 2 ^ 63) : Builtin.Range.rangeFitsLong i = true := by
  unfold Builtin.Range.rangeFitsLong
  rw [Bool.and_eq_true, decide_eq_true_eq, decide_eq_true_eq]
  exact ⟨h1, h2⟩
theorem small_nat {a b : Int} (h1 : -(2 ^ 62) ≤ a) (h2 : a < 2 ^ 62) (h3 : -(2 ^ 62) ≤ b) (h4 : b < 2 ^ 62) : Builtin.Range.small a b 1 = true := by
  have q : Builtin.Range.rangeFitsLong (Builtin.Range.rangeSize a b 1) = true := by
    rw [rangeSize_one]
    split <;> exact fits_long (by lia) (by lia)
  unfold Builtin.Range.small
  rw [fits_long (i := a) (by lia) (by lia), fits_long (i := b) (by lia) (by lia), fits_long (i := 1) (by exact om28 _) (by exact Int.natCast_nonneg _), q, if_pos (by decide), fits_long (i := b + (1 - 1)) (by lia) (by lia)]
  simp
theorem size_one_nonneg (a b : Int) : 0 ≤ Builtin.Range.rangeSize a b 1 := by
  rw [rangeSize_one]; split <;> lia
theorem WBin_floordiv {i j : Int} (hj : j ≠ 0) (hs : j.natAbs < 1073741824) (h : Q (.int (i.fdiv j) 0) S) : WBin g c .FloorDiv (.int i 0) (.int j 0) S Q := WBin_of (fun _ _ _ _ _ h => floordiv_int hj h (.inl (PyProof.noPylong_small hs))) h
end
end
section
open MeetsSeq
open AutoSeq1 (wpAny_loadPart')
noncomputable def LtGives (y x : Value) (b : Bool) : Prop :=
  ∀ (prog : Program) (w : World) (A : Around) (E : Value -> Shared -> Prop) (s : Shared) (Q : Value -> Shared -> Prop), Q (.bool b) s -> wpAny (model prog w) A (richCompare .Lt y x) Q E s
theorem LtGives.int (a b : Int) (t u : Tok) : LtGives (.int a t) (.int b u) (decide (a < b)) := fun _ _ _ _ _ _ h => PyProof.Rows.lt_int (E := _) h
theorem LtGives.str (a b : Str) (t u : Tok) : LtGives (.str a t) (.str b u) (decide (a.cps.toList < b.cps.toList)) := fun _ _ _ _ _ _ h => PyProof.Rows.lt_str (E := _) h
noncomputable def lexL (e lt : Nat -> Bool) : List Nat -> Bool
  | [] => false
  | j :: r => if e j = true then lexL e lt r else lt j
theorem lt_loop (l b : Addr) (items items2 : Array Value) (n n2 : Nat) (hsz : items.size = items2.size) (e lt : Nat -> Bool)
    (he : ∀ j (h1 : j < items.size) (h2 : j < items2.size), EqGives items[j] items2[j] (e j))
    (hlt : ∀ j (h1 : j < items.size) (h2 : j < items2.size), LtGives items[j] items2[j] (lt j)) (k : Nat) :
    ∀ i : Nat, items.size - i = k -> Meets (Builtin.«list.__eq__.loop» ⟨[.ref l, .ref b, rawInt i, rawInt 0], []⟩)
      (fun _ R s => s.heap.get? l = some { cls := .type "list", dict := none, data := .seq items n, slots := #[] } /\ s.heap.get? b = some { cls := .type "list", dict := none, data := .seq items2 n2, slots := #[] } /\
        R (.ok (.ret (.bool (lexL e lt ((List.range items.size).drop i))))) s) := by
  induction k with
  | zero =>
    intro i hk prog w A R s h
    obtain ⟨hp, g, d, tk, os⟩ := s; (refine el_AA h ?_; (try clear h); intro hl hb h)
    wp_walk using wpAny_loadPart' hl, wpAny_loadPart' hb
    have hi1 : items[((i : Nat) : Int).toNat]? = none := by simp; lia
    have hi2 : items2[((i : Nat) : Int).toNat]? = none := by simp; lia
    have hd : (List.range items.size).drop i = [] := by simp; omega
    rw [hd] at h
    rw [hi1, hi2]
    wp_walk using wpAny_loadPart' hl, wpAny_loadPart' hb
    show R (.ok (.ret (.bool (decide (items.size < items2.size))))) _
    rw [hsz]
    simpa [lexL] using h
  | succ k ih =>
    intro i hk prog w A R s h
    obtain ⟨hp, g, d, tk, os⟩ := s; (refine el_AA h ?_; (try clear h); intro hl hb h)
    wp_walk using wpAny_loadPart' hl, wpAny_loadPart' hb
    have hlt1 : i < items.size := by omega
    have hlt2 : i < items2.size := by lia
    have hi1 : items[((i : Nat) : Int).toNat]? = some items[i] := by simp [hlt1]
    have hi2 : items2[((i : Nat) : Int).toNat]? = some items2[i] := by simp [hlt2]
    have hd : (List.range items.size).drop i = i :: (List.range items.size).drop (i + 1) := by simp [List.drop_eq_getElem_cons, hlt1]
    have hc : ((i : Int) + 1) = ((i + 1 : Nat) : Int) := by push_cast; rfl
    rw [hd] at h
    unfold lexL at h
    rw [hi1, hi2]
    refine wpAny_bind (he i hlt1 hlt2 prog w _ _ _ _ ?_)
    cases hb' : e i with
    | true =>
      rw [hb', if_pos rfl] at h
      wp_walk
      rw [hc]
      exact ⟨plainId_quiet MeetsSeq3.plain_eq_loop _, codeAny_builtin MeetsSeq3.entry_eq_loop (by
        rw [Around.under_plainId MeetsSeq3.plain_eq_loop _]
        exact ih (i + 1) (by exact om42 ‹_›) prog w A R _ ⟨hl, hb, h⟩)⟩
    | false =>
      rw [hb', if_neg Bool.false_ne_true] at h
      wp_walk using wpAny_loadPart' hl, wpAny_loadPart' hb
      rw [hi1, hi2]
      refine wpAny_bind (hlt i hlt1 hlt2 prog w _ _ _ _ ?_)
      wp_walk
      exact h
theorem list_lt (l b : Addr) (items items2 : Array Value) (n n2 : Nat) (hsz : items.size = items2.size) (e lt : Nat -> Bool)
    (he : ∀ j (h1 : j < items.size) (h2 : j < items2.size), EqGives items[j] items2[j] (e j))
    (hlt : ∀ j (h1 : j < items.size) (h2 : j < items2.size), LtGives items[j] items2[j] (lt j)) :
    Meets (Builtin.«list.__lt__» ⟨[.ref l, .ref b], []⟩)
      (fun _ R s => s.heap.get? l = some { cls := .type "list", dict := none, data := .seq items n, slots := #[] } /\ s.heap.get? b = some { cls := .type "list", dict := none, data := .seq items2 n2, slots := #[] } /\
        R (.ok (.ret (.bool (lexL e lt (List.range items.size))))) s) := by
  intro prog w A R s h
  obtain ⟨hp, g, d, tk, os⟩ := s; (refine el_AA h ?_; (try clear h); intro hl hb h)
  have f3 := AutoSeq1.sub_list_list
  wp_walk using wpAny_loadPart' hl, wpAny_loadPart' hb
  exact ⟨plainId_quiet MeetsSeq3.plain_eq_loop _, codeAny_builtin MeetsSeq3.entry_eq_loop (by
    rw [Around.under_plainId MeetsSeq3.plain_eq_loop _]
    exact lt_loop l b items items2 n n2 hsz e lt he hlt _ 0 rfl prog w A R _ ⟨hl, hb, by simpa using h⟩)⟩
section
variable {g : Gl Int} {c : Ac} {S S' : St Int} {Q : Value -> St Int -> Prop} {a b : Addr} {xs ys : List Value}
noncomputable def WAll (g : Gl Int) (c : Ac) (op : BoolOp) (es : List Expr) (S : St Int) (Q : Bool -> St Int -> Prop) : Prop := WM g c (allTrue op es c.env) S Q
theorem WT_BoolOp {op : BoolOp} {es : List Expr} {pos : Pos} {Q : Bool -> St Int -> Prop} (h : WAll g c op es S Q) : WT g c (.BoolOp op es pos) S Q :=
  fun H s R => wpAny_isTrue_BoolOp (h H s R)
theorem WAll_and_nil {Q : Bool -> St Int -> Prop} (h : Q true S) : WAll g c .And [] S Q := fun _ _ R => wpAny_allTrue_And_nil ⟨S, R, h⟩
theorem WAll_or_nil {Q : Bool -> St Int -> Prop} (h : Q false S) : WAll g c .Or [] S Q := fun _ _ R => wpAny_allTrue_Or_nil ⟨S, R, h⟩
theorem WAll_and {x : Expr} {es : List Expr} {Q : Bool -> St Int -> Prop} (h : WT g c x S fun b S₁ => if b = true then WAll g c .And es S₁ Q else Q false S₁) : WAll g c .And (x :: es) S Q := by
  intro H s R
  o_shape
  refine wpAny_allTrue_And_cons (goK (h H s R) (fun b s₁ S₁ R₁ q => ?_))
  cases b with
  | true => exact q H s₁ R₁
  | false => exact ⟨S₁, R₁, q⟩
theorem WAll_or {x : Expr} {es : List Expr} {Q : Bool -> St Int -> Prop} (h : WT g c x S fun b S₁ => if b = true then Q true S₁ else WAll g c .Or es S₁ Q) : WAll g c .Or (x :: es) S Q := by
  intro H s R
  o_shape
  refine wpAny_allTrue_Or_cons (goK (h H s R) (fun b s₁ S₁ R₁ q => ?_))
  cases b with
  | true => exact ⟨S₁, R₁, q⟩
  | false => exact q H s₁ R₁
theorem WE_Or2 {x y : Expr} {pos : Pos} (h : WE g c x S fun v S₁ => WTr g c v S₁ fun t S₂ => if t = true then Q v S₂ else WE g c y S₂ Q) : WE g c (.BoolOp .Or [x, y] pos) S Q := by
  intro H s R
  o_shape
  refine PyProof.Rows.BoolOp_or (goK (h H s R) (fun v s₁ S₁ R₁ q => goK (q v rfl H s₁ R₁) (fun t s₂ S₂ R₂ q₂ => ?_)))
  cases t with
  | true => exact ⟨S₂, R₂, q₂⟩
  | false => exact BoolOp_one (q₂ H s₂ R₂)
theorem WT_chain2 {l r₁ r₂ : Expr} {o₁ o₂ : CmpOp} {pos : Pos} {Q : Bool -> St Int -> Prop} (hm : lastMarks [o₁, o₂] [r₁, r₂] = false)
    (h : WE g c l S fun x S₁ => WE g c r₁ S₁ fun y S₂ => WCmp g c o₁ x y S₂ fun v S₃ => WTr g c v S₃ fun t S₄ => if t = true then WE g c r₂ S₄ fun z S₅ => WCmp g c o₂ y z S₅ fun v S₆ => WTr g c v S₆ Q else Q false S₄) :
    WT g c (.Compare l [o₁, o₂] [r₁, r₂] pos) S Q := by
  intro H s R
  o_shape
  refine isTrue_chain (goK (h H s R) (fun x s₁ S₁ R₁ q₁ => test_link (goK (q₁ H s₁ R₁) (fun y s₂ S₂ R₂ q₂ => goK (q₂ x y rfl rfl H s₂ R₂) (fun v s₃ S₃ R₃ q₃ => goK (q₃ v rfl H s₃ R₃) (fun t s₄ S₄ R₄ q₄ => ?_)))))) hm
  cases t with
  | false => exact ⟨S₄, R₄, q₄⟩
  | true => exact test_last (goK (q₄ H s₄ R₄) (fun z s₅ S₅ R₅ q₅ => goK (q₅ y z rfl rfl H s₅ R₅) (fun v s₆ S₆ R₆ q₆ => q₆ v rfl H s₆ R₆)))
theorem WTr_none {Q : Bool -> St Int -> Prop} (h : Q false S) : WTr g c .none S Q := by
  intro u hu H s R
  o_shape
  obtain rfl := er_none hu
  exact truthy_none ⟨S, R, h⟩
theorem beq_er_none (u : Value) : (u == .none) = (er u == .none) := by cases u <;> rfl
theorem WCmp_isNone {v : Value} (h : Q (.bool (v == .none)) S) : WCmp g c .Is v .none S Q := by
  intro u w hu hw H s R
  o_shape
  obtain rfl := er_none hw
  exact is_none_gen ⟨S, R, by rw [beq_er_none, hu]; exact h⟩
theorem WCmp_isNotNone {v : Value} (h : Q (.bool (!(v == .none))) S) : WCmp g c .IsNot v .none S Q := by
  intro u w hu hw H s R
  o_shape
  obtain rfl := er_none hw
  exact isNot_none ⟨S, R, by rw [beq_er_none, hu]; exact h⟩
theorem WCmp_isBool {x y : Bool} (h : Q (.bool (x == y)) S) : WCmp g c .Is (.bool x) (.bool y) S Q := by
  intro u w hu hw H s R
  o_shape
  obtain rfl := er_bool hu
  obtain rfl := er_bool hw
  exact is_bool ⟨S, R, h⟩
theorem WCmp_isNotBool {x y : Bool} (h : Q (.bool (!(x == y))) S) : WCmp g c .IsNot (.bool x) (.bool y) S Q := by
  intro u w hu hw H s R
  o_shape
  obtain rfl := er_bool hu
  obtain rfl := er_bool hw
  exact wpAny_isNot_plain rfl ⟨S, R, by
    rw [show (Value.bool x == Value.bool y) = (x == y) by cases x <;> cases y <;> rfl]; exact h⟩
theorem WCmp_neBool {x y : Bool} (h : Q (.bool (x != y)) S) : WCmp g c .NotEq (.bool x) (.bool y) S Q := by
  intro u w hu hw H s R
  o_shape
  obtain rfl := er_bool hu
  obtain rfl := er_bool hw
  exact ne_bool ⟨S, R, h⟩
noncomputable def EqW (g : Gl Int) (S : St Int) (k : Nat) (x y : Value) (b : Bool) : Prop :=
  ∀ (c : Ac) (H : Hid) (s : Shared), Rel g c H S s -> ∀ u v, er u = x -> er v = y -> ∀ A' : Around, A'.units + k < cLine -> SeqAt.EqAt A' s u v b
theorem EqW.le {k k' : Nat} {x y : Value} {e : Bool} (h : EqW g S k x y e) (hk : k ≤ k') : EqW g S k' x y e :=
  fun c H s R u v hu hv A' hA => h c H s R u v hu hv A' (by lia)
theorem EqW.int (i j : Int) : EqW g S 0 (.int i 0) (.int j 0) (i == j) := by
  intro c H s R u v hu hv A' hA
  refine el_E (er_int hu) ?_; intro t rfl_92; subst rfl_92
  refine el_E (er_int hv) ?_; intro t' rfl_91; subst rfl_91
  exact SeqAt.EqAt.int_int _ _ _ _
theorem EqW.bool (i j : Bool) : EqW g S 0 (.bool i) (.bool j) (i == j) := by
  intro c H s R u v hu hv A' hA
  obtain rfl := er_bool hu
  obtain rfl := er_bool hv
  exact SeqAt.EqAt.bool_bool _ _
theorem arr_get {arr : Array Value} {j : Nat} (h1 : j < arr.size) (h : arr.toList.map er = xs) : xs[j]? = some (er arr[j]) := by
  rw [← h, List.getElem?_map]
  simp [h1]
theorem EqW.lists {k : Nat} {e : Nat -> Bool} (ha : S.σ a = some (.list xs)) (hb : S.σ b = some (.list ys)) (hne : a ≠ b) (hl : xs.length = ys.length)
    (h : ∀ j x y, xs[j]? = some x -> ys[j]? = some y -> EqW g S k x y (e j)) : EqW g S (k + 1) (.ref a) (.ref b) ((List.range xs.length).all e) := by
  intro c H s R u v hu hv A' hA
  obtain rfl := er_ref hu
  obtain rfl := er_ref hv
  refine el_EEAAA (R.list ha) ?_; intro arr n h1 h2 h3 h4
  refine el_EEAAA (R.list hb) ?_; intro arr' n' h1' h2' h3' h4'
  rw [← h4]
  exact .of_refs hne (.lists h2 h2' (by rw [h4, h4', hl]) (by lia) fun j q1 q2 => h j _ _ (arr_get q1 h3) (arr_get q2 h3') c H s R _ _ rfl rfl _ (by show A'.units + 1 + k < _; lia))
theorem EqW.tuples {k : Nat} {e : Nat -> Bool} (ha : S.σ a = some (.tup xs)) (hb : S.σ b = some (.tup ys)) (hne : a ≠ b)
    (h : ∀ j x y, xs[j]? = some x -> ys[j]? = some y -> EqW g S k x y (e j)) : EqW g S (k + 1) (.ref a) (.ref b) ((List.range (min xs.length ys.length)).all e && xs.length == ys.length) := by
  intro c H s R u v hu hv A' hA
  obtain rfl := er_ref hu
  obtain rfl := er_ref hv
  refine el_EEAAA (R.tup ha) ?_; intro arr n h1 h2 h3 h4
  refine el_EEAAA (R.tup hb) ?_; intro arr' n' h1' h2' h3' h4'
  rw [← h4, ← h4']
  exact .of_refs hne (.tuples h2 h2' (by omega) fun j q1 q2 => h j _ _ (arr_get q1 h3) (arr_get q2 h3') c H s R _ _ rfl rfl _ (by show A'.units + 1 + k < _; omega))
theorem WCmp_eqL {e : Nat -> Bool} {k : Nat} (ha : S.σ a = some (.list xs)) (hb : S.σ b = some (.list ys)) (hl : xs.length = ys.length) (hk : k ≤ 50)
    (h : ∀ j x y, xs[j]? = some x -> ys[j]? = some y -> EqW g S k x y (e j)) (hq : Q (.bool ((List.range xs.length).all e)) S) : WCmp g c .Eq (.ref a) (.ref b) S Q := by
  intro u v hu hv H s R
  o_shape
  obtain rfl := er_ref hu
  obtain rfl := er_ref hv
  refine el_EEAAA (R.list ha) ?_; intro arr n h1 h2 h3 h4
  refine el_EEAAA (R.list hb) ?_; intro arr' n' h1' h2' h3' h4'
  have hu := R.ac.deep.2
  refine SeqAt.RcAt.lists h2 h2' (by rw [h4, h4', hl]) (by exact om10 ‹_›) (fun j q1 q2 => h j _ _ (arr_get q1 h3) (arr_get q2 h3') c H s R _ _ rfl rfl _ (by show c.A.units + 1 + k < _; lia)) _ _ _ _ ⟨S, R, ?_⟩
  rw [h4]; exact hq
theorem WCmp_neL {e : Nat -> Bool} {k : Nat} (ha : S.σ a = some (.list xs)) (hb : S.σ b = some (.list ys)) (hl : xs.length = ys.length) (hk : k ≤ 50)
    (h : ∀ j x y, xs[j]? = some x -> ys[j]? = some y -> EqW g S k x y (e j)) (hq : Q (.bool (!(List.range xs.length).all e)) S) : WCmp g c .NotEq (.ref a) (.ref b) S Q := by
  intro u v hu hv H s R
  o_shape
  obtain rfl := er_ref hu
  obtain rfl := er_ref hv
  refine el_EEAAA (R.list ha) ?_; intro arr n h1 h2 h3 h4
  refine el_EEAAA (R.list hb) ?_; intro arr' n' h1' h2' h3' h4'
  have hu := R.ac.deep.2
  refine SeqAt.RcNeAt.lists h2 h2' (by rw [h4, h4', hl]) (by exact om10 ‹_›) (fun j q1 q2 => h j _ _ (arr_get q1 h3) (arr_get q2 h3') c H s R _ _ rfl rfl _ (by show c.A.units + 1 + k < _; omega)) _ _ _ _ ⟨S, R, ?_⟩
  rw [h4]; exact hq
theorem WCmp_eqL_len (ha : S.σ a = some (.list xs)) (hb : S.σ b = some (.list ys)) (hl : xs.length ≠ ys.length) (hq : Q (.bool false) S) : WCmp g c .Eq (.ref a) (.ref b) S Q := by
  intro u v hu hv H s R
  o_shape
  obtain rfl := er_ref hu
  obtain rfl := er_ref hv
  refine el_EEAAA (R.list ha) ?_; intro arr n h1 h2 h3 h4
  refine el_EEAAA (R.list hb) ?_; intro arr' n' h1' h2' h3' h4'
  exact SeqAt.RcAt.lists_lengths h2 h2' (by rw [bne_iff_ne, h4, h4']; exact hl) (by have := R.ac.deep.2; exact om10 ‹_›) _ _ _ _ ⟨S, R, hq⟩
theorem WCmp_neL_len (ha : S.σ a = some (.list xs)) (hb : S.σ b = some (.list ys)) (hl : xs.length ≠ ys.length) (hq : Q (.bool true) S) : WCmp g c .NotEq (.ref a) (.ref b) S Q := by
  intro u v hu hv H s R
  o_shape
  obtain rfl := er_ref hu
  obtain rfl := er_ref hv
  refine el_EEAAA (R.list ha) ?_; intro arr n h1 h2 h3 h4
  refine el_EEAAA (R.list hb) ?_; intro arr' n' h1' h2' h3' h4'
  exact SeqAt.RcNeAt.lists_lengths h2 h2' (by rw [bne_iff_ne, h4, h4']; exact hl) (by have := R.ac.deep.2; exact om10 ‹_›) _ _ _ _ ⟨S, R, hq⟩
theorem any_er {arr : Array Value} {e : Value -> Bool} (h : arr.toList.map er = xs) : arr.any (fun u => e (er u)) = xs.any e := by
  rw [← Array.any_toList, ← h, List.any_map]
  rfl
theorem WCmp_inL {e : Value -> Bool} {k : Nat} {x : Value} (hb : S.σ b = some (.list ys)) (hk : k ≤ 50) (h : ∀ y ∈ ys, EqW g S k y x (e y)) (hq : Q (.bool (ys.any e)) S) : WCmp g c .In x (.ref b) S Q := by
  intro u v hu hv H s R
  o_shape
  obtain rfl := er_ref hv
  refine el_EEAAA (R.list hb) ?_; intro arr n h1 h2 h3 h4
  have hd := R.ac.deep.2
  refine SeqAt.in_listAt (fun u => e (er u)) h2 (fun y hy => h _ ?_ c H s R _ _ rfl hu _ (by show c.A.units + 1 + k < _; lia)) ⟨S, R, ?_⟩
  · rw [← h3]; exact List.mem_map.mpr ⟨y, by simpa using hy, rfl⟩
  rw [any_er h3]; exact hq
theorem WCmp_notInL {e : Value -> Bool} {k : Nat} {x : Value} (hb : S.σ b = some (.list ys)) (hk : k ≤ 50) (h : ∀ y ∈ ys, EqW g S k y x (e y)) (hq : Q (.bool (!ys.any e)) S) : WCmp g c .NotIn x (.ref b) S Q := by
  intro u v hu hv H s R
  o_shape
  obtain rfl := er_ref hv
  refine el_EEAAA (R.list hb) ?_; intro arr n h1 h2 h3 h4
  have hd := R.ac.deep.2
  refine SeqAt.notIn_listAt (fun u => e (er u)) h2 (fun y hy => h _ ?_ c H s R _ _ rfl hu _ (by show c.A.units + 1 + k < _; omega)) ⟨S, R, ?_⟩
  · rw [← h3]; exact List.mem_map.mpr ⟨y, by simpa using hy, rfl⟩
  rw [any_er h3]; exact hq
theorem WCmp_ltRow {x y : Str} {i j : Int} (ha : S.σ a = some (.list [.str x 0, .int i 0])) (hb : S.σ b = some (.list [.str y 0, .int j 0]))
    (hq : Q (.bool (if x = y then decide (i < j) else decide (x.cps.toList < y.cps.toList))) S) : WCmp g c .Lt (.ref a) (.ref b) S Q := by
  intro u v hu hv H s R
  o_shape
  obtain rfl := er_ref hu
  obtain rfl := er_ref hv
  refine el_EEAAA (R.list ha) ?_; intro arr n h1 h2 h3 h4
  refine el_EEAAA (R.list hb) ?_; intro arr' n' h1' h2' h3' h4'
  refine el_EEAA (map2 h3) ?_; intro p q e1 e2 e3
  refine el_EEAA (map2 h3') ?_; intro p' q' e1' e2' e3'
  refine el_E (er_str e2) ?_; intro t1 rfl_88; subst rfl_88
  refine el_E (er_int e3) ?_; intro t2 rfl_87; subst rfl_87
  refine el_E (er_str e2') ?_; intro t1' rfl_86; subst rfl_86
  refine el_E (er_int e3') ?_; intro t2' rfl_85; subst rfl_85
  have ea : arr = #[.str x t1, .int i t2] := by rw [← Array.toList_inj]; exact e1
  have eb : arr' = #[.str y t1', .int j t2'] := by rw [← Array.toList_inj]; exact e1'
  subst ea
  subst eb
  refine richCompare_meets_room (op := .Lt) h2.typeIs h2'.typeIs F.slot_list_lt F.entry_list_lt (F.args_list_lt_2 _ _)
    (list_lt a b #[.str x t1, .int i t2] #[.str y t1', .int j t2'] n n' rfl (fun k => if k = 0 then x == y else i == j) (fun k => if k = 0 then decide (x.cps.toList < y.cps.toList) else decide (i < j)) (fun k q1 q2 => ?_) (fun k q1 q2 => ?_)) ⟨h1, h1', (fun q => nomatch q), ⟨S, R, ?_⟩⟩ R.units
  · match k, q1 with
    | 0, _ => exact eqGives_str _ _ _ _
    | 1, _ => exact EqGives.int _ _ _ _
  · match k, q1 with
    | 0, _ => exact LtGives.str _ _ _ _
    | 1, _ => exact LtGives.int _ _ _ _
  show Q (.bool (lexL _ _ [0, 1])) S
  have : (lexL (fun k => if k = 0 then x == y else i == j) (fun k => if k = 0 then decide (x.cps.toList < y.cps.toList) else decide (i < j)) [0, 1]) = (if x = y then decide (i < j) else decide (x.cps.toList < y.cps.toList)) := by
    unfold lexL lexL lexL
    by_cases hxy : x = y
    · subst hxy
      by_cases hij : i = j
      · subst hij; simp
      simp [hij]
    simp [hxy]
  rw [this]; exact hq
end
end
section
section
variable {g : Gl Int} {c : Ac} {S S' : St Int} {Q : Value -> St Int -> Prop} {a b : Addr} {xs ys : List Value}
theorem WM.drop {α : Type} {t : Sem α} {Q : α -> St Int -> Prop} (h : WM g c t S fun v S' => ∃ S'', Le S'' S' /\ Q v S'') : WM g c t S Q :=
  fun H s R => wpAny_mono (h H s R) (fun v s' ⟨S', R', S'', l, q⟩ => ⟨S'', R'.le l.m l.s, q⟩) fun _ _ x => x
theorem WV2.drop {t : Value -> Value -> Sem Value} {x y : Value} (h : WV2 g c t x y S fun v S' => ∃ S'', Le S'' S' /\ Q v S'') : WV2 g c t x y S Q :=
  fun u v hu hv => WM.drop (h u v hu hv)
noncomputable def At (g : Gl Int) (S : St Int) (a : Addr) (o : AO Int) : Prop := S.σ a = some o ∨ ∃ ob, g.h₀.get? a = some ob /\ Is g ob o
theorem Rel.at {H : Hid} {s : Shared} {o : AO Int} (R : Rel g c H S s) (h : At g S a o) : ∃ ob, s.heap.get? a = some ob /\ Is g ob o := by
  rcases h with h | ⟨ob, h1, h2⟩
  · exact R.sto a o h
  exact ⟨ob, R.keep a ob h1, h2⟩
theorem Rel.listAt {H : Hid} {s : Shared} (R : Rel g c H S s) (h : At g S a (.list xs)) : ∃ arr n, s.heap.get? a = some (listOf arr n) /\ s.heap.IsList a arr /\ arr.toList.map er = xs /\ arr.size = xs.length := by
  refine el_EAEEA (R.at h) ?_; intro ob h1 arr n rfl_111 h3; subst rfl_111
  exact ⟨arr, n, h1, ⟨_, h1, rfl, n, rfl⟩, h3, by rw [← h3]; simp⟩
theorem Rel.tupAt {H : Hid} {s : Shared} (R : Rel g c H S s) (h : At g S a (.tup xs)) : ∃ arr n, s.heap.get? a = some { cls := .type "tuple", data := .seq arr n } /\ s.heap.IsTuple a arr /\ arr.toList.map er = xs /\ arr.size = xs.length := by
  refine el_EAEEA (R.at h) ?_; intro ob h1 arr n rfl_110 h3; subst rfl_110
  exact ⟨arr, n, h1, ⟨_, h1, rfl, n, rfl⟩, h3, by rw [← h3]; simp⟩
noncomputable def pickL (xs : List Value) (lo hi : Option Int) : List Value :=
  (xs.drop (lo.elim 0 (clipAt xs.length))).take (hi.elim xs.length (clipAt xs.length) - lo.elim 0 (clipAt xs.length))
noncomputable def sliceO (lo hi : Option Int) : AO Int := .raw fun ob => ∃ l u : Option (Int × Tok), l.map (·.1) = lo /\ u.map (·.1) = hi /\ ob = { cls := .type "slice", data := .fields #[partValue l, partValue u, .none] }
noncomputable def WPart (g : Gl Int) (c : Ac) (e : Option Expr) (S : St Int) (Q : Option Int -> St Int -> Prop) : Prop :=
  WM g c (evalPart e c.env) S fun v S' => ∃ l : Option (Int × Tok), v = partValue l /\ Q (l.map (·.1)) S'
theorem WPart_none {Q : Option Int -> St Int -> Prop} (h : Q none S) : WPart g c none S Q := fun _ _ R => wpAny_pure ⟨S, R, none, rfl, h⟩
theorem WPart_some {e : Expr} {Q : Option Int -> St Int -> Prop} (h : WE g c e S fun v S' => ∃ i, v = .int i 0 /\ Q (some i) S') : WPart g c (some e) S Q := by
  intro H s R
  o_shape
  refine goK (h H s R) (fun v s₁ S₁ R₁ q_ => ?_)
  refine el_EA q_ ?_; clear q_; intro i e q
  refine el_E (er_int e) ?_; intro t rfl_109; subst rfl_109
  exact ⟨S₁, R₁, some (i, t), rfl, q⟩
theorem WE_Slice {lower upper : Option Expr} {p : Pos} (h : WPart g c lower S fun lo S₁ => WPart g c upper S₁ fun hi S₂ => ∀ D, S₂.σ D = none -> Q (.ref D) ⟨S₂.m, upd S₂.σ D (sliceO lo hi)⟩) : WE g c (.Slice lower upper none p) S Q := by
  intro H s R
  o_shape
  refine wpAny_Slice (wpAny_mono (h H s R) (fun vl s₁ ⟨S₁, R₁, l, e₁, q₁⟩ => goK (q₁ H s₁ R₁) (fun vu s₂ S₂ R₂ q_ => ?_)) fun _ _ x => x)
  refine el_EA q_ ?_; clear q_; intro u e₂ q₂
  rw [evalPart_none]
  refine wpAny_pure ?_
  refine el_A (R₂.add (tk := s₂.toks) (h' := s₂.heap.push { cls := .type "slice", data := .fields #[vl, vu, .none] }) (o := sliceO (l.map (·.1)) (u.map (·.1))) (Heap.ExtBut.push (Heap.ExtBut.refl _ _) _) (size_none _) (Heap.get?_push_size _ rfl) ⟨l, u, rfl, rfl, by rw [e₁, e₂]⟩) ?_; intro hn R₃
  exact ⟨_, R₃, q₂ _ hn⟩
theorem IsPart_of (l : Option (Int × Tok)) : IsPart (partValue l) (l.map (·.1)) := by
  cases l with
  | none => exact .none
  | some p => exact .int p.1 p.2
theorem WItem_sliceL {r : Addr} {lo hi : Option Int} (ha : At g S a (.list xs)) (hr : S.σ r = some (sliceO lo hi)) (hz : xs.length ≤ sizeLine) (h : ∀ D, S.σ D = none -> Q (.ref D) ⟨S.m, upd S.σ D (.list (pickL xs lo hi))⟩) : WItem g c (.ref a) (.ref r) S Q := by
  intro u v hu hv H s R
  o_shape
  obtain rfl := er_ref hu
  obtain rfl := er_ref hv
  refine el_EEAAA (R.listAt ha) ?_; intro arr n h1 h2 h3 h4
  refine el_EAEEAA (R.raw hr) ?_; intro ob k1 l w e1 e2 rfl_108; subst rfl_108
  refine wpAny_getItem_list_slice h2 ⟨_, k1, rfl, rfl⟩ (IsPart_of l) (IsPart_of w) .none (by simp) ?_ (by exact om37 ‹_› ‹_›)
  obtain ⟨hn, R₃⟩ := R.add (tk := s.toks) (h' := s.heap.push { cls := .type "list", data := .seq (slicePick arr (l.map (·.1)) (w.map (·.1)) none) }) (o := .list (pickL xs lo hi)) (Heap.ExtBut.push (Heap.ExtBut.refl _ _) _) (size_none _) (Heap.get?_push_size _ rfl) (Is.list (by
    rw [slicePick_plain, e1, e2, h4, ← h3]
    unfold pickL
    simp [List.map_take, List.map_drop]))
  exact ⟨_, R₃, h _ hn⟩
theorem WSub_listAt {o i : Expr} {iv : Value} (ha : At g S a (.list xs)) (hs : ∃ ops : Value -> Value -> List Value, ∀ o' i', subscripted i false o' i' = operate (ops o' i') (getItem o' i')) (h : WItem g c (.ref a) iv S Q) : WV2 g c (subscriptTail o i) (.ref a) iv S Q :=
  WSub_of PySem.slot_list_getitem.lookup (fun H s u R hu => by
    obtain rfl := er_ref hu
    refine el_EEAAA (R.listAt ha) ?_; intro arr n h1 h2 h3 h4
    exact h2.typeIs) hs h
theorem At.le {o : AO Int} (h : At g S a o) (hl : ∀ b o, S.σ b = some o -> S'.σ b = some o) : At g S' a o := h.elim (fun h => .inl (hl _ _ h)) .inr
theorem upd_le {σ : Addr -> Option (AO Int)} {D : Addr} {o : AO Int} (h : σ D = none) : ∀ b o', σ b = some o' -> upd σ D o b = some o' := fun b o' e => by
  unfold upd
  rw [if_neg (by rintro rfl; rw [h] at e; exact Mine.ns e)]; exact e
theorem WE_SliceL {value : Expr} {lower upper : Option Expr} {p pos : Pos}
    (h : WE g c value S fun v S₁ => ∃ a, v = .ref a /\ WPart g c lower S₁ fun lo S₂ => WPart g c upper S₂ fun hi S₃ => ∃ xs, At g S₃ a (.list xs) /\ xs.length ≤ sizeLine /\ ∀ D, S₃.σ D = none -> Q (.ref D) ⟨S₃.m, upd S₃.σ D (.list (pickL xs lo hi))⟩) :
    WE g c (.Subscript value (.Slice lower upper none p) pos) S Q := by
  refine WE_Sub (WE.mono h fun v S₁ q_ => ?_)
  refine el_EA q_ ?_; clear q_; intro a e q
  subst e
  refine WE_Slice (WM.mono q fun vl S₂ ⟨l, e, q₂⟩ => ⟨l, e, WM.mono q₂ fun vu S₃ ⟨u, e', xs, hat, hz, q₃⟩ => ⟨u, e', fun r hr => ?_⟩⟩)
  have hl := upd_le (o := (sliceO (l.map (·.1)) (u.map (·.1)) : AO Int)) hr
  refine WSub_listAt (hat.le hl) ⟨fun o i => [i, o], fun _ _ => rfl⟩ (WV2.drop (WItem_sliceL (hat.le hl) (if_pos rfl) hz fun D hD => ?_))
  have hD' : S₃.σ D = none := by
    cases z : S₃.σ D with
    | none => rfl
    | some o => have := hl D o z; exact absurd (this.symm.trans hD) (by simp)
  refine ⟨⟨S₃.m, upd S₃.σ D (.list (pickL xs (l.map (·.1)) (u.map (·.1))))⟩, ⟨fun _ _ e => e, fun b o e => ?_⟩, q₃ D hD'⟩
  have e : upd S₃.σ D _ b = some o := e
  show upd (upd S₃.σ r _) D _ b = some o
  unfold upd at e ⊢
  by_cases hb : b = D
  · rw [if_pos hb] at e ⊢; exact e
  rw [if_neg hb] at e ⊢; exact hl b o e
theorem WC_min2 {i j : Int} (h : Q (.int (if j < i then j else i) 0) S) : WC g c (.builtin "min") [.int i 0, .int j 0] S Q := by
  intro us hu H s R
  o_shape
  refine el_EEAA (map2 hu) ?_; intro u v rfl_107 hu1 hu2; subst rfl_107
  refine el_E (er_int hu1) ?_; intro t rfl_106; subst rfl_106
  refine el_E (er_int hu2) ?_; intro t' rfl_105; subst rfl_105
  refine min_two_ints R.ac.hd fun h' tk hk => ⟨S, R.grow hk, ?_⟩
  split <;> rename_i q
  · rw [if_pos q] at h; exact h
  rw [if_neg q] at h; exact h
theorem WC_max2 {i j : Int} (h : Q (.int (if j > i then j else i) 0) S) : WC g c (.builtin "max") [.int i 0, .int j 0] S Q := by
  intro us hu H s R
  o_shape
  refine el_EEAA (map2 hu) ?_; intro u v rfl_104 hu1 hu2; subst rfl_104
  refine el_E (er_int hu1) ?_; intro t rfl_103; subst rfl_103
  refine el_E (er_int hu2) ?_; intro t' rfl_102; subst rfl_102
  refine max_two_ints R.ac.hd fun h' tk hk => ⟨S, R.grow hk, ?_⟩
  split <;> rename_i q
  · rw [if_pos q] at h; exact h
  rw [if_neg q] at h; exact h
theorem WC_lenAt (ha : At g S a (.list xs)) (hz : (xs.length : Int) < 2 ^ 63) (h : Q (.int xs.length 0) S) : WC g c (.builtin "len") [.ref a] S Q := by
  intro us hu H s R
  o_shape
  refine el_EA (map1 hu) ?_; intro u rfl_101 hu1; subst rfl_101
  obtain rfl := er_ref hu1
  refine el_EEAAA (R.listAt ha) ?_; intro arr n h1 h2 h3 h4
  exact len_list h2 (by rw [h4]; exact hz) ⟨S, R.toks, by rw [h4]; exact h⟩
theorem WC_lens {x : Str} (hz : (x.length : Int) < 2 ^ 63) (h : Q (.int x.length 0) S) : WC g c (.builtin "len") [.str x 0] S Q := by
  intro us hu H s R
  o_shape
  refine el_EA (map1 hu) ?_; intro u rfl_100 hu1; subst rfl_100
  refine el_E (er_str hu1) ?_; intro t rfl_99; subst rfl_99
  exact PyProof.Rows.len_str (by lia) ⟨S, R.toks, h⟩
theorem WBin_addL (ha : S.σ a = some (.list xs)) (hb : S.σ b = some (.list ys)) (hz : xs.length + ys.length ≤ sizeLine) (h : ∀ D, S.σ D = none -> Q (.ref D) ⟨S.m, upd S.σ D (.list (xs ++ ys))⟩) : WBin g c .Add (.ref a) (.ref b) S Q := by
  intro u v hu hv H s R
  o_shape
  obtain rfl := er_ref hu
  obtain rfl := er_ref hv
  refine el_EEAAA (R.list ha) ?_; intro arr n h1 h2 h3 h4
  refine el_EEAAA (R.list hb) ?_; intro arr' n' h1' h2' h3' h4'
  refine el_EAA R.led ?_; intro m F N' hl
  refine add_arrays F N' h2 h2' (fun h' F' N'' => ?_) (by lia)
  refine el_A (R.backNew (tk := s.toks) (o := .list (xs ++ ys)) hl F' N'' (size_none _) (Is.list (by rw [← h3, ← h3', ← List.map_append]))) ?_; intro hn R₃
  exact ⟨_, R₃, h _ hn⟩
inductive AreStr : List Value -> List Str -> Prop
  | nil : AreStr [] []
  | cons (x : Str) {vs : List Value} {ss : List Str} (h : AreStr vs ss) : AreStr (.str x 0 :: vs) (x :: ss)
theorem AreStr.to {vs : List Value} {ss : List Str} : ∀ {us : List Value}, us.map er = vs -> AreStr vs ss -> StrsAre us ss
  | [], h, h' => by subst h; cases h'; exact .nil
  | u :: us, h, h' => by
    cases h' with
    | nil => exact (nomatch h)
    | cons x h' =>
      simp only [List.map_cons, List.cons.injEq] at h
      refine el_E (er_str h.1) ?_; intro t rfl_98; subst rfl_98
      exact .cons x t (AreStr.to h.2 h')
theorem WC_join {x : Str} {ss : List Str} (ha : S.σ a = some (.list xs)) (hs : AreStr xs ss) (hz : (ss.map (·.length)).sum + ss.length * x.length ≤ 16777216) (h : Q (.str (Txt.join x ss) 0) S) : WC g c (.builtin "str.join") [.str x 0, .ref a] S Q := by
  intro us hu H s R
  o_shape
  refine el_EEAA (map2 hu) ?_; intro u v rfl_97 hu1 hu2; subst rfl_97
  refine el_E (er_str hu1) ?_; intro t rfl_96; subst rfl_96
  obtain rfl := er_ref hu2
  refine el_EEAAA (R.list ha) ?_; intro arr n h1 h2 h3 h4
  exact join_list h2 (hs.to h3) hz fun t' k => ⟨S, R.toks, h⟩
theorem WC_tuple (ha : S.σ a = some (.list xs)) (hz : xs.length ≤ 16384) (h : ∀ D, S.σ D = none -> Q (.ref D) ⟨S.m, upd S.σ D (.tup xs)⟩) : WC g c (.type "tuple") [.ref a] S Q := by
  intro us hu H s R
  o_shape
  refine el_EA (map1 hu) ?_; intro u rfl_95 hu1; subst rfl_95
  obtain rfl := er_ref hu1
  refine el_EEAAA (R.list ha) ?_; intro arr n h1 h2 h3 h4
  refine call_tuple_list h2 (fun h' hk => ?_) (by rw [sizeLine_eq]; lia)
  have R' : Rel g c H S { s with heap := h' } := R.grow (tk := s.toks) hk
  refine el_A (R'.add (tk := s.toks) (h' := h'.push { cls := .type "tuple", data := .seq arr }) (o := .tup xs) (Heap.ExtBut.push (Heap.ExtBut.refl _ _) _) (size_none _) (Heap.get?_push_size _ rfl) (Is.tup h3)) ?_; intro hn R₃
  exact ⟨_, R₃, h _ hn⟩
inductive AreInt : List Value -> List Int -> Prop
  | nil : AreInt [] []
  | cons (x : Int) {vs : List Value} {ss : List Int} (h : AreInt vs ss) : AreInt (.int x 0 :: vs) (x :: ss)
theorem AreInt.to {vs : List Value} {ss : List Int} : ∀ {us : List Value}, us.map er = vs -> AreInt vs ss -> IntsAre us ss
  | [], h, h' => by subst h; cases h'; exact .nil
  | u :: us, h, h' => by
    cases h' with
    | nil => exact (nomatch h)
    | cons x h' =>
      simp only [List.map_cons, List.cons.injEq] at h
      refine el_E (er_int h.1) ?_; intro t rfl_94; subst rfl_94
      exact .cons x t (AreInt.to h.2 h')
theorem WC_sum {ns : List Int} (ha : S.σ a = some (.list xs)) (hs : AreInt xs ns) (h : Q (.int ns.sum 0) S) : WC g c (.builtin "sum") [.ref a] S Q := by
  intro us hu H s R
  o_shape
  refine el_EA (map1 hu) ?_; intro u rfl_93 hu1; subst rfl_93
  obtain rfl := er_ref hu1
  refine el_EEAAA (R.list ha) ?_; intro arr n h1 h2 h3 h4
  refine el_EAA R.led ?_; intro m F N' hl
  exact LSm.sum_ints (vs := arr.toList) F N' R.ac.hd h2 (hs.to h3) fun h' tk t' F' N'' => ⟨S, R.back hl F' N'', h⟩
end
end
section
section
variable {g : Gl Int} {c : Ac} {S S' : St Int} {Q : Value -> St Int -> Prop} {a b : Addr} {xs ys : List Value}
theorem WC.drop {f : Value} {as : List Value} (h : WC g c f as S fun v S' => ∃ S'', Le S'' S' /\ Q v S'') : WC g c f as S Q := fun us hu => WM.drop (h us hu)
theorem setv_self {m : Str -> Option Value} {x : Str} {v : Value} : setv m x v x = some v := if_pos rfl
theorem setv_other {m : Str -> Option Value} {x y : Str} {v w : Value} (hn : y ≠ x) (h : m y = some w) : setv m x v y = some w := (if_neg hn).trans h
theorem upd_self {σ : Addr -> Option (AO Int)} {x : Addr} {o : AO Int} : upd σ x o x = some o := if_pos rfl
theorem upd_other {σ : Addr -> Option (AO Int)} {x y : Addr} {o o' : AO Int} (hn : y ≠ x) (h : σ y = some o') : upd σ x o y = some o' := (if_neg hn).trans h
theorem upd_new {σ : Addr -> Option (AO Int)} {x y : Addr} {o o' : AO Int} (hn : σ x = none) (h : σ y = some o') : upd σ x o y = some o' := upd_le hn y o' h
theorem m_self {m : Str -> Option Value} {σ : Addr -> Option (AO Int)} {x : Str} {v : Value} : (⟨setv m x v, σ⟩ : St Int).m x = some v := if_pos rfl
theorem m_other {m : Str -> Option Value} {σ : Addr -> Option (AO Int)} {x y : Str} {v w : Value} (hn : y ≠ x) (h : m y = some w) : (⟨setv m x v, σ⟩ : St Int).m y = some w := (if_neg hn).trans h
theorem s_self {m : Str -> Option Value} {σ : Addr -> Option (AO Int)} {x : Addr} {o : AO Int} : (⟨m, upd σ x o⟩ : St Int).σ x = some o := if_pos rfl
theorem s_new {m : Str -> Option Value} {σ : Addr -> Option (AO Int)} {x y : Addr} {o o' : AO Int} (hn : σ x = none) (h : σ y = some o') : (⟨m, upd σ x o⟩ : St Int).σ y = some o' := upd_le hn y o' h
theorem WE_NameS {sc : Scope} {x : Str} {pos : Pos} {v : Value} (hs : c.env.scope = sc) (hk : isVar sc x = true) (hv : S.m x = some v) (h : Q v S) : WE g c (.Name x pos) S Q := WE_Name (by rw [hs]; exact hk) hv h
theorem WE_BuiltS {sc : Scope} {K : Frag} {x : Str} {pos : Pos} {v : Value} (hs : c.env.scope = sc) (hK : g.K = K) (hb : bootBuiltins x = some v) (hk : isGlob sc x = true) (hv : nsIn K mainGlobals x = some none) (hx : x ≠ "__name__") (h : Q (er v) S) : WE g c (.Name x pos) S Q :=
  WE_Built (by rw [hs]; exact hk) (by rw [hK]; exact hv) hb hx h
theorem WE_GlobS {sc : Scope} {K : Frag} {x : Str} {pos : Pos} {v : Value} (hs : c.env.scope = sc) (hK : g.K = K) (hk : isGlob sc x = true) (hv : nsIn K mainGlobals x = some (some v)) (h : Q (er v) S) : WE g c (.Name x pos) S Q :=
  WE_Glob (by rw [hs]; exact hk) (by rw [hK]; exact hv) h
theorem W_CWS {K : Frag} {f : Value} {first : List Value} {e : Expr} {rest : List Expr} (hK : g.K = K) (hk : Keeps K f = true) (hs : (e :: rest).all notStar = true)
    (h : WEs g c (e :: rest) S fun vs S₁ => WC g c f (first ++ vs) S₁ Q) : WCW g c f first (e :: rest) S Q := W_CW (by rw [hK]; exact hk) hs h
theorem W_StoreS {sc : Scope} {x : Str} {v : Value} {Q : St Int -> Prop} (hs : c.env.scope = sc) (hx : c.ext = fun _ => false) (hk : isOwn sc x = true) (h : Q ⟨setv S.m x v, S.σ⟩) : WStore g c x v S Q := W_Store (by rw [hs]; exact hk) (by rw [hx]) h
noncomputable def iL (ns : List Int) : List Value := ns.map fun i => .int i 0
theorem iL_len (ns : List Int) : (iL ns).length = ns.length := List.length_map ..
theorem iL_get {ns : List Int} {i : Nat} {k : Int} (h : ns[i]? = some k) : (iL ns)[i]? = some (.int k 0) := by
  unfold iL; rw [List.getElem?_map, h]; rfl
inductive ForRPost (g : Gl Int) (c : Ac) (x : Str) (body : List Stmt) (orelse : List Stmt) (Q : Flow -> St Int -> Prop) (v : Value) (S₁ : St Int) : Prop
  | mk (r : Addr) (lo : Int) (hi : Int) (h_1 : v = .ref r) (h_2 : S₁.σ r = some (rngO lo hi 1)) (h_3 : -(2 ^ 62) ≤ lo) (h_4 : lo < 2 ^ 62) (h_5 : -(2 ^ 62) ≤ hi) (h_6 : hi < 2 ^ 62) (Inv : Nat -> St Int -> Prop) (h_7 : Inv 0 S₁) (h_8 : (∀ (i : Nat) S₂, (i : Int) < hi - lo -> Inv i S₂ -> WStore g c x (.int (lo + i) 0) S₂ fun S₃ => WXs g c body S₃ (ForQ Inv i Q))) (h_9 : ∀ S₂, Inv (hi - lo).toNat S₂ -> WXs g c orelse S₂ Q) : ForRPost g c x body orelse Q v S₁
theorem WX_ForR {x : Str} {px : Pos} {iter : Expr} {body orelse : List Stmt} {pos : Pos} {Q : Flow -> St Int -> Prop} (hs : ∀ env x, foldedSetIterable iter env x = pure x)
    (h : WE g c iter S (ForRPost g c x body orelse Q)) : WX g c (.For (.Name x px) iter body orelse pos) S Q := by
  refine WX_For hs (WE.mono h fun v S₁ q_ => ?_)
  obtain ⟨r, lo, hi, e, hr, b1, b2, b3, b4, Inv, h0, turn, fin⟩ := q_
  subst e
  refine ⟨_, _, iter_range hr (small_nat b1 b2 b3 b4) (size_one_nonneg _ _), Inv, h0, fun _ _ _ => trivial, fun i y S₂ hy hI => ?_, fun S₂ hI => ?_⟩
  · (refine el_A (rngL_get.mp hy) ?_; intro h1 rfl_112; subst rfl_112)
    rw [rngN_two] at h1
    rw [Int.mul_one]
    exact WAsg_Name (turn i S₂ (by exact om08 ‹_›) hI)
  rw [rngL_len, rngN_two] at hI
  exact fin S₂ hI
theorem subPl (i : Expr) : ∃ ops : Value -> Value -> List Value, ∀ o' i', subscripted i false o' i' = operate (ops o' i') (getItem o' i') := by
  cases i with
  | Slice l u st p => cases st with
    | none => exact ⟨fun o i => [i, o], fun _ _ => rfl⟩
    | some _ => exact ⟨fun o i => [o, i], fun _ _ => rfl⟩
  | _ => exact ⟨fun o i => [o, i], fun _ _ => rfl⟩
theorem WSub_item {o i : Expr} {k : Int} {x : Value} (ha : S.σ a = some (.list xs)) (h0 : 0 ≤ k) (hf : k < 2 ^ 63) (hx : xs[k.toNat]? = some x) (h : Q x S) : WV2 g c (subscriptTail o i) (.ref a) (.int k 0) S Q :=
  WSub_list ha (subPl _) (WItem_list ha h0 hf hx h)
theorem WSub_iL {o i : Expr} {ns : List Int} {k j : Int} (ha : S.σ a = some (.list (iL ns))) (h0 : 0 ≤ k) (hf : k < 2 ^ 63) (hx : ns[k.toNat]? = some j) (h : Q (.int j 0) S) : WV2 g c (subscriptTail o i) (.ref a) (.int k 0) S Q :=
  WSub_item ha h0 hf (iL_get hx) h
theorem WSub_neg {o i : Expr} {k : Int} {x : Value} (ha : S.σ a = some (.list xs)) (h0 : k < 0) (h1 : -(xs.length : Int) ≤ k) (hf : -(2 ^ 63) ≤ k) (hx : xs[(k + xs.length).toNat]? = some x) (h : Q x S) : WV2 g c (subscriptTail o i) (.ref a) (.int k 0) S Q :=
  WSub_list ha (subPl _) (WItem_listNeg ha h0 h1 hf hx h)
end
end
section
section
variable {g : Gl Int} {c : Ac} {S S' : St Int} {Q : Value -> St Int -> Prop} {a b : Addr} {xs ys : List Value}
theorem WX_AssignS {sc : Scope} {x : Str} {p pos : Pos} {e : Expr} {Q : Flow -> St Int -> Prop} (hs : c.env.scope = sc) (hx : c.ext = fun _ => false) (hk : isOwn sc x = true) (hsw : ∀ env, swapsWith e (some (.Name x p)) pos.line env = pure false)
    (h : WE g c e S fun v S₁ => Q .next ⟨setv S₁.m x v, S₁.σ⟩) : WX g c (.Assign [.Name x p] e pos) S Q :=
  WX_AssignName hsw (WE.mono h fun v S₁ q => W_StoreS hs hx hk q)
theorem WX_AugS {sc : Scope} {x : Str} {p pos : Pos} {op : Operator} {e : Expr} {v : Value} {Q : Flow -> St Int -> Prop} (hs : c.env.scope = sc) (hx : c.ext = fun _ => false) (hk : isVar sc x = true) (ho : isOwn sc x = true) (hv : S.m x = some v)
    (h : WE g c e S fun b S₂ => WIn g c op v b S₂ fun r S₃ => Q .next ⟨setv S₃.m x r, S₃.σ⟩) : WX g c (.AugAssign (.Name x p) op e pos) S Q :=
  WX_AugName (by rw [hs]; exact hk) hv (WE.mono h fun b S₂ q => fun u w hu hw => WM.mono (q u w hu hw) fun r S₃ q₃ => W_StoreS hs hx ho q₃)
theorem WIn_adds {x y : Str} (hsz : x.length + y.length ≤ sizeLine) (h : Q (.str (x ++ y) 0) S) : WIn g c .Add (.str x 0) (.str y 0) S Q := by
  intro u v hu hv H s R
  o_shape
  refine el_E (er_str hu) ?_; intro t rfl_114; subst rfl_114
  refine el_E (er_str hv) ?_; intro t' rfl_113; subst rfl_113
  exact PyProof.Rows.iadd_str (fun _ _ => ⟨S, R.toks, h⟩) hsz
noncomputable def chr1 (k : Nat) : Str := ⟨#[k]⟩
noncomputable def chAt (x : Str) (i : Int) : Nat := x.cps.getD i.toNat 0
theorem chr1_len (k : Nat) : (chr1 k).length = 1 := rfl
theorem str_len_add (x y : Str) : (x ++ y).length = x.length + y.length := by
  show (x.cps ++ y.cps).size = _
  rw [Array.size_append]; rfl
theorem WItem_strAt {x : Str} {i : Int} (h0 : 0 ≤ i) (h1 : i < x.length) (hz : x.length < 2 ^ 62) (h : Q (.str (chr1 (chAt x i)) 0) S) : WItem g c (.str x 0) (.int i 0) S Q := by
  refine WItem_str (k := chAt x i) ?_ ?_ h
  · have q : (x.length : Int) < 4611686018427387904 := by exact om15 ‹_›
    rw [Bool.or_eq_false_iff]
    exact ⟨decide_eq_false (by lia), decide_eq_false (by lia)⟩
  have e : seqIndex? i x.length = some i.toNat := by
    have h2 : ¬ i < 0 := by lia
    show (if (decide (0 ≤ (if i < 0 then i + (x.length : Int) else i)) && decide ((if i < 0 then i + (x.length : Int) else i) < (x.length : Int))) = true then some (if i < 0 then i + (x.length : Int) else i).toNat else none) = _
    rw [if_neg h2, if_pos (by rw [Bool.and_eq_true]; exact ⟨decide_eq_true h0, decide_eq_true h1⟩)]
  rw [e]
  show x.cps[i.toNat]? = some (x.cps.getD i.toNat 0)
  have hlt : i.toNat < x.cps.size := by
    have : (x.cps.size : Int) = x.length := rfl
    exact om07 ‹_› ‹_›
  rw [Array.getElem?_eq_getElem hlt, Array.getD, dif_pos hlt]
  rfl
theorem WSub_strAt {o i : Expr} {x : Str} {k : Int} (h0 : 0 ≤ k) (h1 : k < x.length) (hz : x.length < 2 ^ 62) (h : Q (.str (chr1 (chAt x k)) 0) S) : WV2 g c (subscriptTail o i) (.str x 0) (.int k 0) S Q :=
  WSub_str (subPl _) (WItem_strAt h0 h1 hz h)
end
end
section
open AutoSeq1 (wpAny_loadPart')
section
variable {prog : Program} {w : World} {A : Around} {E : Value -> Shared -> Prop} {s : Shared}
theorem nextOf_tuple_item {it t : Addr} {i : Nat} {items} {x : Value} {Q : Value -> Shared -> Prop} (hit : s.heap.IsTupleIter it t i) (ht : s.heap.IsTuple t items) (hx : items[i]? = some x)
    (hQ : ∀ h', h'.IsTupleIter it t (i + 1) -> Heap.SameBut it s.heap h' -> Q x { s with heap := h' }) : wpAny (model prog w) A (Builtin.SmallTypes.nextOf (.ref it)) Q E s := by
  refine el_EAA (id hit) ?_; intro o ho hc hd
  refine el_EAAE ht ?_; (try clear ht); intro ol hol _ nl hdl
  unfold Builtin.SmallTypes.nextOf
  refine wpAny_bind (wpAny_callSpecial?_slot (name := Str.ofString "__next__") hit.typeIs F.slot_tuple_iterator_next
    (wpAny_call_entry F.slot_tuple_iterator_next hit.typeIs F.entry_tuple_iterator_next ?_ (F.args_tuple_iterator_next_1 _)))
  show wpAny _ _ (field (.ref it) 0 >>= _) _ _ s
  refine wpAny_bind (wpAny_field ho hd (x := .ref t) rfl ?_)
  show wpAny _ _ (if (Value.ref t == Value.none) = true then _ else _) _ _ s
  rw [if_neg (show ¬ ((Value.ref t == Value.none) = true) from Bool.false_ne_true)]
  show wpAny _ _ (field (.ref it) 1 >>= _) _ _ s
  refine wpAny_bind (wpAny_field ho hd (x := .int i 0) rfl ?_)
  show wpAny _ _ (seqItems? (.ref t) >>= _) _ _ s
  refine wpAny_bind (wpAny_seqItems hol hdl ?_)
  dsimp only
  rw [Int.toNat_natCast, hx]
  dsimp only
  refine wpAny_bind (wpAny_setField ho hd (by simp) (wpAny_pure ⟨x, rfl, wpAny_pure (hQ _ ?_ (Heap.SameBut.update ..))⟩))
  exact ⟨_, Heap.get?_update_self _ ho (Obj.isFreed_of_fields (Obj.data_mapFields hd _)), (Obj.cls_mapFields ..).trans hc, by
    rw [Obj.data_mapFields hd]; simp [rawInt]⟩
theorem nextOf_tuple_end {it t : Addr} {i : Nat} {items} {Q : Value -> Shared -> Prop} (hh : A.handled = none) (hit : s.heap.IsTupleIter it t i) (ht : s.heap.IsTuple t items) (hx : items[i]? = none)
    (hE : ∀ h' e, Heap.ExtBut it s.heap h' -> (∃ o, h'.get? e = some o /\ o.cls = .type "StopIteration") -> E (.ref e) { s with heap := h' }) : wpAny (model prog w) A (Builtin.SmallTypes.nextOf (.ref it)) Q E s := by
  refine el_EAA (id hit) ?_; intro o ho hc hd
  refine el_EAAE ht ?_; (try clear ht); intro ol hol _ nl hdl
  unfold Builtin.SmallTypes.nextOf
  refine wpAny_bind (wpAny_callSpecial?_slot (name := Str.ofString "__next__") hit.typeIs F.slot_tuple_iterator_next
    (wpAny_call_entry F.slot_tuple_iterator_next hit.typeIs F.entry_tuple_iterator_next ?_ (F.args_tuple_iterator_next_1 _)))
  show wpAny _ _ (field (.ref it) 0 >>= _) _ _ s
  refine wpAny_bind (wpAny_field ho hd (x := .ref t) rfl ?_)
  show wpAny _ _ (if (Value.ref t == Value.none) = true then _ else _) _ _ s
  rw [if_neg (show ¬ ((Value.ref t == Value.none) = true) from Bool.false_ne_true)]
  show wpAny _ _ (field (.ref it) 1 >>= _) _ _ s
  refine wpAny_bind (wpAny_field ho hd (x := .int i 0) rfl ?_)
  show wpAny _ _ (seqItems? (.ref t) >>= _) _ _ s
  refine wpAny_bind (wpAny_seqItems hol hdl ?_)
  dsimp only
  rw [Int.toNat_natCast, hx]
  dsimp only
  refine wpAny_bind (wpAny_rule (wpAny_bind (wpAny_setField ho hd (by simp) ?_)))
  show wpAny _ _ (newExc (.type "StopIteration") [] >>= _) _ _ _
  refine wpAny_bind ?_
  simp only [newExc, newTuple]
  refine wpAny_bind (wpAny_newObj_type ?_ (by size_fits))
  refine wpAny_bind (m := firstArgMember _ _) (wpAny_of_eq (a := Value.none) (by first | rfl | (simp only [firstArgMember]; rfl)) ?_)
  refine wpAny_newObj_type ?_ (by size_fits)
  show wpAny _ _ (_ >>= _) _ _ _
  refine wpAny_bind (wpAny_handled ?_)
  first | rw [show A.in1.handled = none from hh] | rw [hh]
  refine wpAny_bind (wpAny_pure (wpAny_throw ?_))
  exact hE _ _ (((Heap.SameBut.update ..).extBut.push _).push _) ⟨_, Heap.get?_push_size _ rfl, rfl⟩
end
theorem draws_tuple {prog : Program} {w : World} {A : Around} (hh : A.handled = none) (it t : Addr) (hne : t ≠ it) (items : Array Value) :
    Draws prog w A it [it, t] items.size (fun i v => items[i]? = some v) (fun i h => h.IsTupleIter it t i /\ h.IsTuple t items) where
  live := fun _ _ st => let ⟨o, ho, _⟩ := st.1; ⟨o, ho⟩
  frame := fun _ _ _ st hk => ⟨let ⟨o, ho, r⟩ := st.1; ⟨o, hk it (by simp) o ho, r⟩, let ⟨o, ho, r⟩ := st.2; ⟨o, hk t (by simp) o ho, r⟩⟩
  item := fun i s Q E hi st hQ => by
    refine nextOf_tuple_item st.1 st.2 (x := items[i]) (by simp [hi]) fun h' hit' hs' => ?_
    exact hQ _ h' s.toks (by simp [hi]) ⟨hit', st.2.extBut hs'.extBut hne⟩ hs'
  done := fun s Q E st hE => nextOf_tuple_end hh st.1 st.2 (by simp) hE
theorem meets_enumerate_newT (l : Addr) (items : Array Value) (n : Nat) :
    Meets (Builtin.«enumerate.__new__» ⟨[.type "enumerate", .ref l], []⟩) (fun _ R s => s.heap.get? l = some { cls := .type "tuple", data := .seq items n } /\
      R (.ok (.ret (.ref (s.heap.push { cls := .type "tuple_iterator", data := .fields #[.ref l, .int 0 0] }).objs.size)))
        { s with heap := (s.heap.push { cls := .type "tuple_iterator", data := .fields #[.ref l, .int 0 0] }).push { cls := .type "enumerate", data := .fields #[.none, .bool false, .ref s.heap.objs.size, rawInt 0, .none, .none] } }) :=
  .of_wp fun prog w A R s h => by
    obtain ⟨hp, g, d, tk, os⟩ := s; (refine el_A h ?_; (try clear h); intro hl h)
    have hsub := sub_enumerate
    have hL : Heap.IsTuple (Shared.heap ⟨hp, g, d, tk, os⟩) l items := ⟨_, hl, rfl, n, rfl⟩
    wp_walk using wpAny_loadPart' hl
    refine wpAny_stack_any fun st => wpAny_pure ?_
    generalize PySem.Builtin.SmallTypes.calledThroughType.match_1 _ _ _ _ = short
    cases short <;> wp_walk using wpAny_loadPart' hl, wpAny_pyIter_tuple hL <;> exact ⟨_, rfl, h⟩
theorem call_enumerate_tuple {prog : Program} {w : World} {A : Around} {E : Value -> Shared -> Prop} {s : Shared} {l : Addr} {items : Array Value} {n : Nat} {Q : Value -> Shared -> Prop} (hl : s.heap.get? l = some { cls := .type "tuple", data := .seq items n })
    (h : ∀ h', IsEnum h' (s.heap.objs.size + 1) s.heap.objs.size 0 .none -> h'.IsTupleIter s.heap.objs.size l 0 -> h'.objs.size = s.heap.objs.size + 2 ->
      (∀ b o, s.heap.get? b = some o -> h'.get? b = some o) -> Q (.ref (s.heap.objs.size + 1)) { s with heap := h' }) :
    wpAny (model prog w) A (call (.type "enumerate") [.ref l]) Q E s := by
  refine callType_new F.called_enumerate (by decide) (F.typeCall_enumerate_1 _) (F.newCall_enumerate_1 _) (fun obj => F.args_object_init_2 obj _) F.entry_enumerate_new
    (meets_enumerate_newT l items n) ⟨hl, ?_⟩
  have hz : (s.heap.push { cls := .type "tuple_iterator", data := .fields #[.ref l, .int 0 0] }).objs.size = s.heap.objs.size + 1 := Heap.size_push ..
  show _ /\ _
  rw [hz]
  have he : IsEnum ((s.heap.push { cls := .type "tuple_iterator", data := .fields #[.ref l, .int 0 0] }).push
      { cls := .type "enumerate", data := .fields #[.none, .bool false, .ref s.heap.objs.size, rawInt 0, .none, .none] }) (s.heap.objs.size + 1) s.heap.objs.size 0 .none := by
    have := Heap.get?_push_size (s.heap.push { cls := .type "tuple_iterator", data := .fields #[.ref l, .int 0 0] })
      (o := { cls := .type "enumerate", data := .fields #[.none, .bool false, .ref s.heap.objs.size, rawInt 0, .none, .none] }) rfl
    rw [hz] at this; exact this
  refine ⟨⟨_, he, rfl⟩, h _ he ⟨_, Heap.get?_push_of_some _ (Heap.get?_push_size _ rfl), rfl, rfl⟩ (by rw [Heap.size_push, hz]) fun b o x => Heap.get?_push_of_some _ (Heap.get?_push_of_some _ x)⟩
section
variable {g : Gl Int} {c : Ac} {S S' : St Int}
theorem Rel.rehide {H H' : Hid} {s : Shared} (R : Rel g c H S s) {h' : Heap} {tk : Tok} (hk : ∀ b o, H.objs b = none -> s.heap.get? b = some o -> h'.get? b = some o) (hh : ∀ b o, H'.objs b = some o -> h'.get? b = some o)
    (hn : ∀ b o, H'.objs b = some o -> H.objs b = none -> s.heap.get? b = none) (hg : ∀ p ∈ H'.gens, p ∈ H.gens) (hc : ∀ b o u, H.objs b = some o -> o.data = .cell u -> H'.objs b = some o) : Rel g c H' S { s with heap := h', toks := tk } := by
  refine el_EAAAA R.role ?_; intro ρ r0 r1 r2 r3 r4
  have off : ∀ b, ρ b ≠ 3 -> H.objs b = none := fun b hb => by
    cases q : H.objs b with
    | none => rfl
    | some o => exact absurd (r3 b o q) hb
  have k : ∀ b o, ρ b ≠ 3 -> s.heap.get? b = some o -> h'.get? b = some o := fun b o hb e => hk b o (off b hb) e
  have live : ∀ b o, s.heap.get? b = some o -> ρ b ≠ 3 -> H'.objs b = none := fun b o e hb => by
    cases q : H'.objs b with
    | none => rfl
    | some o' => have := hn b o' q (off b hb); rw [e] at this; exact Mine.sn this
  have oldρ : ∀ b o, s.heap.get? b = some o -> ρ b ≠ 3 -> (if (H'.objs b).isSome = true then 3 else ρ b) = ρ b := fun b o e hb => by rw [live b o e hb]; rfl
  refine el_EA R.loc ?_; intro m hm hv
  refine el_EEEAAA hm ?_; (try clear hm); intro oL es ep hL hLd hLk hLf
  refine { ok := R.ok, ac := R.ac, above := R.above, os := R.os, bare := R.bare, inj := R.inj, gen := fun p hp => R.gen p (hg p hp), keep := fun b o e => k b o (by rw [r0 b o e]; decide) (R.keep b o e), hid := hh, loc := ⟨m, ⟨oL, es, ep, k _ _ (by rw [r1]; decide) hL, hLd, hLk, hLf⟩, hv⟩, cel := ?_, fre := ?_, sto := ?_, role := ⟨fun b => if (H'.objs b).isSome = true then 3 else ρ b, ?_, ?_, ?_, ?_, ?_⟩ }
  · intro y a h1 h2
    refine el_EA (R.cel y a h1 h2) ?_; intro u nn_116 hu; obtain ⟨oc, hc, hcd⟩ := nn_116
    exact ⟨u, ⟨oc, k _ _ (by rw [r2 y a h1 h2]; decide) hc, hcd⟩, hu⟩
  · intro y a h1 h2 v e
    refine el_EEAA (R.fre y a h1 h2 v e) ?_; intro ob u e1 e2 e3
    exact ⟨ob, u, hc a ob _ e1 e2, e2, e3⟩
  · intro b o e
    refine el_EA (R.sto b o e) ?_; intro ob h1 h2
    exact ⟨ob, k _ _ (by rw [r4 b o e]; decide) h1, h2⟩
  · intro b o e
    have e0 := r0 b o e
    exact (oldρ b o (R.keep b o e) (by rw [e0]; decide)).trans e0
  · exact (oldρ _ _ hL (by rw [r1]; decide)).trans r1
  · intro y a h1 h2
    refine el_EA (R.cel y a h1 h2) ?_; intro u nn_115 hu; obtain ⟨oc, hc, hcd⟩ := nn_115
    have e0 := r2 y a h1 h2
    exact (oldρ _ _ hc (by rw [e0]; decide)).trans e0
  · intro b o e
    dsimp only
    rw [e]; rfl
  intro b o e
  refine el_EA (R.sto b o e) ?_; intro ob h1 h2
  have e0 := r4 b o e
  exact (oldρ _ _ h1 (by rw [e0]; decide)).trans e0
end
end
section
section
variable {g : Gl Int} {c : Ac} {S S' : St Int} {Q : Value -> St Int -> Prop} {a b : Addr} {xs ys : List Value}
theorem WAsg_tup2 {x y : Str} {px py pt : Pos} {k : Nat} {t : Addr} {v₁ v₂ : Value} {Q : St Int -> Prop} (ht : At g S t (.tup [v₁, v₂])) (h : WStore g c x v₁ S fun S₁ => WStore g c y v₂ S₁ Q) :
    WAsg g c (.Tuple [.Name x px, .Name y py] k pt) (.ref t) S Q := by
  intro u hu H s R
  o_shape
  obtain rfl := er_ref hu
  refine el_EEAAA (R.tupAt ht) ?_; intro arr n h1 h2 h3 h4
  refine el_EEAA (map2 h3) ?_; intro u₁ u₂ e1 e2 e3
  have ea : arr = #[u₁, u₂] := by rw [← Array.toList_inj]; exact e1
  subst ea
  refine wpAny_assign_Tuple R.ac.hd h2 rfl rfl fun h' hk => ?_
  have R' : Rel g c H S { s with heap := h' } := R.grow (tk := s.toks) fun b o e => hk b o (Nat.ne_of_lt (Heap.lt_size e)) e
  show wpAny _ _ (assignInOrder [fun v => assign (.Name x px) c.env v, fun v => assign (.Name y py) c.env v] [u₁, u₂]) _ _ _
  exact assignInOrder_cons (goK (WAsg_Name h u₁ e2 H _ R') (fun _ s₁ S₁ R₁ q => assignInOrder_cons (wpAny_mono (WAsg_Name q u₂ e3 H _ R₁) (fun _ s₂ q₂ => assignInOrder_nil q₂) fun _ _ x => x)))
theorem WAsg_list2 {x y : Str} {px py pt : Pos} {k : Nat} {t : Addr} {v₁ v₂ : Value} {Q : St Int -> Prop} (ht : S.σ t = some (.list [v₁, v₂])) (h : WStore g c x v₁ S fun S₁ => WStore g c y v₂ S₁ Q) :
    WAsg g c (.Tuple [.Name x px, .Name y py] k pt) (.ref t) S Q := by
  intro u hu H s R
  o_shape
  obtain rfl := er_ref hu
  refine el_EEAAA (R.list ht) ?_; intro arr n h1 h2 h3 h4
  refine el_EEAA (map2 h3) ?_; intro u₁ u₂ e1 e2 e3
  have ea : arr = #[u₁, u₂] := by rw [← Array.toList_inj]; exact e1
  subst ea
  refine el_EAA R.led ?_; intro m F N' hl
  refine kun_list F N' h2 R.ac.hd rfl rfl fun h' F' N'' => ?_
  have R' : Rel g c H S { s with heap := h' } := R.back (tk := s.toks) hl F' N''
  show wpAny _ _ (assignInOrder [fun v => assign (.Name x px) c.env v, fun v => assign (.Name y py) c.env v] [u₁, u₂]) _ _ _
  exact assignInOrder_cons (goK (WAsg_Name h u₁ e2 H _ R') (fun _ s₁ S₁ R₁ q => assignInOrder_cons (wpAny_mono (WAsg_Name q u₂ e3 H _ R₁) (fun _ s₂ q₂ => assignInOrder_nil q₂) fun _ _ x => x)))
noncomputable def itTupAt (g : Gl Int) (a : Addr) (xs : List Value) : ItSpec g xs (fun S => At g S a (.tup xs)) where
  St_ i ob := ob.cls = .type "tuple_iterator" /\ ob.data = .fields #[.ref a, .int i 0]
  noCell i ob u h e := by rw [h.2] at e; exact (nomatch e)
  next c H S s it i ob x hH hS R ok hx := by
    refine el_EEAAA (R.tupAt ok) ?_; intro arr n h1 h2 h3 h4
    refine el_EA (nthMap (arr := arr) (by rw [h3]; exact hx)) ?_; intro u e1 e2
    refine wpAny_pyNext_tuple_item ⟨ob, R.hid _ _ hH, hS.1, hS.2⟩ h2 e1 fun h' hit hs => ?_
    refine el_EAA hit ?_; (try clear hit); intro ob' g1 g2 g3
    exact ⟨u, ob', rfl, e2, ⟨g2, g3⟩, R.turn (tk := s.toks) hH hs.extBut g1 fun u e => by rw [hS.2] at e; exact (nomatch e)⟩
  done c H S s it i ob hH hS R ok hx := by
    refine el_EEAAA (R.tupAt ok) ?_; intro arr n h1 h2 h3 h4
    exact wpAny_pyNext_tuple_end R.ac.hd ⟨ob, R.hid _ _ hH, hS.1, hS.2⟩ h2 (nthNone (by rw [h3]; exact hx)) fun h' hs => ⟨rfl, R.lose (tk := s.toks) hH (fun u e => by rw [hS.2] at e; exact (nomatch e)) hs⟩
  lets c H S s it i ob t v hH hS R := lets_plain (R.hid _ _ hH) (by unfold plainIter; rw [hS.1]; rfl) ⟨ob, hS, by rw [H.put_same hH]; exact R⟩
  again c H S s it i ob P E hH hS R h := wpAny_pyIter_tupleiter ⟨ob, R.hid _ _ hH, hS.1, hS.2⟩ h
theorem iter_tupAt (ha : At g S a (.tup xs)) : Iterable g c (.ref a) xs (fun S => At g S a (.tup xs)) S := by
  intro H s u hu R
  obtain rfl := er_ref hu
  refine el_EEAAA (R.tupAt ha) ?_; intro arr n h1 h2 h3 h4
  exact wpAny_pyIter_tuple h2 ⟨_, _, itTupAt g a xs, rfl, R.free_hid (size_none _), ⟨rfl, rfl⟩, R.hide (tk := s.toks) (Heap.ExtBut.push (Heap.ExtBut.refl _ _) _) (size_none _) (Heap.get?_push_size _ rfl)⟩
structure Turns (g : Gl Int) (c : Ac) (H : Hid) (target : Expr) (it : Value) (n : Nat) (step : Nat -> St Int -> St Int) (Ok : St Int -> Prop) where
  P : Nat -> Hid -> Prop
  back : ∀ i H' S s, P i H' -> Rel g c H' S s -> Rel g c H S s
  turn : ∀ i H' S s, i < n -> P i H' -> Rel g c H' S s -> Ok S -> wpAny (model g.prog g.w) c.A (pyNext it) (fun r s₁ => ∃ v, r = some v /\ wpAny (model g.prog g.w) c.A (letOwnedTupleGo target it v) (fun _ s₂ =>
    wpAny (model g.prog g.w) c.A (assign target c.env v) (fun _ s₃ => ∃ H'', P (i + 1) H'' /\ Rel g c H'' (step i S) s₃) (fun _ _ => False) s₂) (fun _ _ => False) s₁) (fun _ _ => False) s
  done : ∀ H' S s, P n H' -> Rel g c H' S s -> Ok S -> wpAny (model g.prog g.w) c.A (pyNext it) (fun r s₁ => r = none /\ Rel g c H S s₁) (fun _ _ => False) s
theorem WX_ForG {target iter : Expr} {body orelse : List Stmt} {pos : Pos} {Q : Flow -> St Int -> Prop} (hs : ∀ env x, foldedSetIterable iter env x = pure x)
    (h : ∀ H s, Rel g c H S s -> wpAny (model g.prog g.w) c.A (eval iter c.env) (fun v s₁ => wpAny (model g.prog g.w) c.A (pyIter v) (fun it s₂ => ∃ S₁ n step Ok, ∃ T : Turns g c H target it n step Ok, ∃ (H' : Hid) (Inv : Nat -> St Int -> Prop), T.P 0 H' /\ Rel g c H' S₁ s₂ /\ Inv 0 S₁ /\
      (∀ i S₂, Inv i S₂ -> Ok S₂) /\
      (∀ i S₂, i < n -> Inv i S₂ -> WXs g c body (step i S₂) (ForQ Inv i Q)) /\
      ∀ S₂, Inv n S₂ -> WXs g c orelse S₂ Q) (fun _ _ => False) s₁) (fun _ _ => False) s) : WX g c (.For target iter body orelse pos) S Q := by
  intro H s R
  o_shape
  refine wpAny_For (wpAny_mono (h H s R) (fun u s₁ h₁ => wpAny_mono h₁ (fun it s₂ q_ => ?_) fun _ _ x => x.elim) fun _ _ x => x.elim) (fun x => hs _ x)
  obtain ⟨S₁, n, step, Ok, T, H₁, Inv, hP, R₁, h0, hok, turn, fin⟩ := q_
  let II : Nat -> Shared -> Prop := fun k s' => ∃ i H' S', k + i = n /\ T.P i H' /\ Rel g c H' S' s' /\ Inv i S'
  refine codeAny_forLoop_any II (fun k s' q_ => ?_) n ⟨0, H₁, S₁, by exact Nat.sub_zero _, hP, R₁, h0⟩
  refine el_EEEAAA q_ ?_; clear q_; intro i H' S' hk hP' R' hI
  by_cases hi : i < n
  · refine wpAny_mono (T.turn i H' S' s' hi hP' R' (hok i S' hI)) (fun r s₃ q_ => ?_) fun _ _ x => x.elim
    refine el_EA q_ ?_; clear q_; intro v e h₃
    subst e
    refine wpAny_mono h₃ (fun _ s₄ h₄ => wpAny_mono h₄ (fun _ s₅ q_ => ?_) fun _ _ x => x.elim) fun _ _ x => x.elim
    refine el_EA q_ ?_; clear q_; intro H'' hP'' R₅
    refine goK (turn i S' hi hI _ s₅ R₅) (fun f s₆ S₆ R₆ q₆ => ?_)
    cases f with
    | next => exact ⟨k - 1, by exact om06 ‹_› ‹_›, i + 1, H'', S₆, by exact om03 ‹_› ‹_›, hP'', R₆, q₆⟩
    | cont => exact ⟨k - 1, by exact om06 ‹_› ‹_›, i + 1, H'', S₆, by exact om03 ‹_› ‹_›, hP'', R₆, q₆⟩
    | brk => exact ⟨S₆, T.back _ _ _ _ hP'' R₆, q₆⟩
    | ret v => exact ⟨S₆, T.back _ _ _ _ hP'' R₆, q₆⟩
  have hi' : i = n := by lia
  subst hi'
  refine wpAny_mono (T.done H' S' s' hP' R' (hok _ S' hI)) (fun r s₃ q_ => ?_) fun _ _ x => x.elim
  refine el_A q_ ?_; clear q_; intro e R₃
  subst e
  exact wpAny_mono (fin S' hI H s₃ R₃) (fun f s₄ q => q) fun _ _ x => x.elim
noncomputable def enumOb (it : Addr) (i : Int) (old : Value) : Obj := { cls := .type "enumerate", dict := none, data := .fields #[.none, .bool false, .ref it, rawInt i, .none, old], slots := #[] }
noncomputable def enumStep (x y : Str) (xs : List Value) (i : Nat) (S : St Int) : St Int := ⟨setv (setv S.m x (.int i 0)) y (xs.getD i .none), S.σ⟩
noncomputable def turnsEnum (g : Gl Int) (c : Ac) (H : Hid) (x y : Str) (px py pt : Pos) (k : Nat) (e it t : Addr) (xs : List Value) (he : H.objs e = none) (hi : H.objs it = none) (hne : e ≠ it)
    (hx : isOwn c.env.scope x = true) (hy : isOwn c.env.scope y = true) (ex : c.ext x = false) (ey : c.ext y = false) : Turns g c H (.Tuple [.Name x px, .Name y py] k pt) (.ref e) xs.length (enumStep x y xs) (fun S => At g S t (.tup xs)) where
  P i H' := ∃ old obI, H'.objs e = some (enumOb it i old) /\ H'.objs it = some obI /\ obI.cls = .type "tuple_iterator" /\ obI.data = .fields #[.ref t, .int i 0] /\ (∀ b, b ≠ e -> b ≠ it -> H'.objs b = H.objs b) /\ H'.gens = H.gens
  back i H' S s hP R := by
    refine el_EEAAAAA hP ?_; (try clear hP); intro old obI h1 h2 h3 h4 h5 h6
    refine R.drop (fun a o q => ?_) (fun p hp => by rw [h6]; exact hp) (fun a ob u q hu => ?_)
    · rw [h5 a (by rintro rfl; rw [he] at q; exact Mine.ns q) (by rintro rfl; rw [hi] at q; exact Mine.ns q)]; exact q
    by_cases q1 : a = e
    · rw [q1, h1] at q; (replace q := Option.some.inj q; subst q); exact (nomatch hu)
    by_cases q2 : a = it
    · rw [q2, h2] at q; (replace q := Option.some.inj q; subst q); rw [h4] at hu; exact (nomatch hu)
    rw [← h5 a q1 q2]; exact q
  turn i H' S s hlt hP R ok := by
    refine el_EEAAAAA hP ?_; (try clear hP); intro old obI h1 h2 h3 h4 h5 h6
    refine el_EEAAA (R.tupAt ok) ?_; intro arr n k1 k2 k3 k4
    have hte : t ≠ it := by
      rintro rfl
      have := R.hid _ _ h2
      rw [k1] at this
      have := congrArg (fun o => o.map Obj.cls) this
      simp [h3] at this
    have htE : t ≠ e := by
      rintro rfl
      have := R.hid _ _ h1
      rw [k1] at this
      have := congrArg (fun o => o.map Obj.cls) this
      simp [enumOb] at this
    refine wpAny_pyNext_enum_itemD (draws_tuple (A := c.A.in1) R.ac.hd it t hte arr) (R.hid _ _ h1) ⟨⟨obI, R.hid _ _ h2, h3, h4⟩, k2⟩ (by rw [k4]; exact hlt) hne (by simp [hne, Ne.symm htE]) fun v h' tk hv hE hSt hT hz hk => ?_
    refine ⟨_, rfl, wpAny_letOwnedTupleGo_enum hE fun h'' hE' hs => ?_⟩
    refine el_A hSt ?_; (try clear hSt); intro nn_117 _; obtain ⟨obI', g1, g2, g3⟩ := nn_117
    have hse : s.heap.objs.size ≠ e := Nat.ne_of_gt (Heap.lt_size (R.hid _ _ h1))
    have R' : Rel g c ((H'.put e (enumOb it (i + 1 : Nat) v)).put it obI') S { s with heap := h'', toks := tk + 1 } := by
      refine R.rehide (fun b o hb q => ?_) (fun b o q => ?_) (fun b o q hb => ?_) (fun p hp => hp) (fun b o u q hu => ?_)
      · have q1 : b ≠ e := by rintro rfl; rw [h1] at hb; exact Mine.sn hb
        have q2 : b ≠ it := by rintro rfl; rw [h2] at hb; exact Mine.sn hb
        exact hs.extBut b o q1 (hk b o q1 q2 q)
      · have q : (if b = it then some obI' else if b = e then some (enumOb it (i + 1 : Nat) v) else H'.objs b) = some o := q
        by_cases q1 : b = it
        · rw [if_pos q1] at q; (replace q := Option.some.inj q; subst q); rw [q1]; exact hs.extBut it _ (Ne.symm hne) g1
        rw [if_neg q1] at q
        by_cases q2 : b = e
        · rw [if_pos q2] at q; (replace q := Option.some.inj q; subst q); rw [q2]; exact hE'
        rw [if_neg q2] at q
        exact hs.extBut b o q2 (hk b o q2 q1 (R.hid b o q))
      · have q : (if b = it then some obI' else if b = e then some (enumOb it (i + 1 : Nat) v) else H'.objs b) = some o := q
        by_cases q1 : b = it
        · rw [q1, h2] at hb; exact Mine.sn hb
        rw [if_neg q1] at q
        by_cases q2 : b = e
        · rw [q2, h1] at hb; exact Mine.sn hb
        rw [if_neg q2, hb] at q; exact Mine.ns q
      show (if b = it then some obI' else if b = e then some (enumOb it (i + 1 : Nat) v) else H'.objs b) = some o
      by_cases q1 : b = it
      · rw [q1, h2] at q; (replace q := Option.some.inj q; subst q); rw [h4] at hu; exact (nomatch hu)
      rw [if_neg q1]
      by_cases q2 : b = e
      · rw [q2, h1] at q; (replace q := Option.some.inj q; subst q); exact (nomatch hu)
      rw [if_neg q2]; exact q
    have ht'' : h''.IsTuple s.heap.objs.size #[.int i tk, v] := ⟨_, hs.extBut _ _ hse hT, rfl, _, rfl⟩
    refine wpAny_assign_Tuple R.ac.hd ht'' rfl rfl fun h₃ hk₃ => ?_
    have R'' : Rel g c ((H'.put e (enumOb it (i + 1 : Nat) v)).put it obI') S { s with heap := h₃, toks := tk + 1 } := R'.grow (tk := tk + 1) fun b o q => hk₃ b o (Nat.ne_of_lt (Heap.lt_size q)) q
    have hvx : er v = xs.getD i .none := by
      have : xs[i]? = some (er v) := by
        rw [← k3, List.getElem?_map]
        have : arr.toList[i]? = some v := by simpa using hv
        rw [this]; rfl
      rw [List.getD_eq_getElem?_getD, this]; rfl
    show wpAny _ _ (assignInOrder [fun v => assign (.Name x px) c.env v, fun v => assign (.Name y py) c.env v] [.int i tk, v]) _ _ _
    refine assignInOrder_cons (goK (WAsg_Name (Q := fun S₁ => S₁ = ⟨setv S.m x (.int i 0), S.σ⟩) (W_Store hx ex rfl) (.int i tk) rfl _ _ R'') (fun _ s₁ S₁ R₁ q => ?_))
    subst q
    refine assignInOrder_cons (goK (WAsg_Name (Q := fun S₁ => S₁ = enumStep x y xs i S) (W_Store hy ey rfl) v hvx _ _ R₁) (fun _ s₂ S₂ R₂ q => ?_))
    subst q
    refine assignInOrder_nil ⟨(H'.put e (enumOb it (i + 1 : Nat) v)).put it obI', ⟨v, obI', ?_, Hid.put_self _ _ _, g2, g3, fun b q1 q2 => ?_, h6⟩, R₂⟩
    · show (if e = it then some obI' else (H'.put e _).objs e) = _
      rw [if_neg hne, Hid.put_self]
    show (if b = it then some obI' else if b = e then some (enumOb it (i + 1 : Nat) v) else H'.objs b) = _
    rw [if_neg q2, if_neg q1]; exact h5 b q1 q2
  done H' S s hP R ok := by
    refine el_EEAAAAA hP ?_; (try clear hP); intro old obI h1 h2 h3 h4 h5 h6
    refine el_EEAAA (R.tupAt ok) ?_; intro arr n k1 k2 k3 k4
    have hte : t ≠ it := by
      rintro rfl
      have := R.hid _ _ h2
      rw [k1] at this
      have := congrArg (fun o => o.map Obj.cls) this
      simp [h3] at this
    refine wpAny_pyNext_enum_endD (draws_tuple (A := c.A.in1) R.ac.hd it t hte arr) (R.hid _ _ h1) (by rw [k4]; exact ⟨⟨obI, R.hid _ _ h2, h3, h4⟩, k2⟩) fun h' hk => ⟨rfl, ?_⟩
    have := R.rehide (H' := H) (tk := s.toks) (h' := h') (fun b o hb q => ?_) (fun b o q => ?_) (fun b o q hb => ?_) (fun p hp => by rw [h6]; exact hp) (fun b o u q hu => ?_)
    · exact this
    · exact hk b o (by rintro rfl; rw [h2] at hb; exact Mine.sn hb) q
    · have q1 : b ≠ e := by rintro rfl; rw [he] at q; exact Mine.ns q
      have q2 : b ≠ it := by rintro rfl; rw [hi] at q; exact Mine.ns q
      exact hk b o q2 (R.hid b o (by rw [h5 b q1 q2]; exact q))
    · have q1 : b ≠ e := by rintro rfl; rw [he] at q; exact Mine.ns q
      have q2 : b ≠ it := by rintro rfl; rw [hi] at q; exact Mine.ns q
      rw [h5 b q1 q2, q] at hb; exact Mine.sn hb
    have q1 : b ≠ e := by rintro rfl; rw [h1] at q; (replace q := Option.some.inj q; subst q); exact (nomatch hu)
    have q2 : b ≠ it := by rintro rfl; rw [h2] at q; (replace q := Option.some.inj q; subst q); rw [h4] at hu; exact (nomatch hu)
    rw [← h5 b q1 q2]; exact q
end
end
section
section
variable {g : Gl Int} {c : Ac} {S S' : St Int} {Q : Value -> St Int -> Prop} {a b : Addr} {xs ys : List Value}
theorem Rel.conceal {H : Hid} {s : Shared} (R : Rel g c H S s) {o : AO Int} (ha : S.σ a = some o) {S₀ : St Int} (l : Le S₀ S) (h0 : S₀.σ a = none) : ∃ ob, Is g ob o /\ H.objs a = none /\ Rel g c (H.put a ob) S₀ s := by
  refine el_EA (R.sto a o ha) ?_; intro ob h1 h2
  refine el_EAAAA R.role ?_; intro ρ r0 r1 r2 r3 r4
  have ra := r4 a o ha
  have hn : H.objs a = none := by
    cases q : H.objs a with
    | none => rfl
    | some o' => have := r3 a o' q; rw [ra] at this; cases this
  refine ⟨ob, h2, hn, { ok := R.ok, ac := R.ac, above := R.above, os := R.os, bare := R.bare, gen := R.gen, inj := R.inj, keep := R.keep, hid := ?_, loc := (let ⟨m, hm, hv⟩ := R.loc; ⟨m, hm, fun x v e => hv x v (l.m x v e)⟩), cel := ?_, fre := ?_, sto := fun b o' e => R.sto b o' (l.s b o' e), role := ⟨fun b => if b = a then 3 else ρ b, fun b o' e => ?_, ?_, fun y b p1 p2 => ?_, fun b o' e => ?_, fun b o' e => ?_⟩ }⟩
  · intro b o' e
    have e : (if b = a then some ob else H.objs b) = some o' := e
    by_cases q : b = a
    · rw [if_pos q] at e; (replace e := Option.some.inj e; subst e); rw [q]; exact h1
    rw [if_neg q] at e; exact R.hid b o' e
  · intro y b p1 p2
    refine el_EA (R.cel y b p1 p2) ?_; intro u q hu
    exact ⟨u, q, fun v e => hu v (l.m y v e)⟩
  · intro y b p1 p2 v e
    refine el_EEAA (R.fre y b p1 p2 v (l.m y v e)) ?_; intro ob' u e1 e2 e3
    refine ⟨ob', u, ?_, e2, e3⟩
    show (if b = a then some ob else H.objs b) = _
    rw [if_neg (by rintro rfl; rw [hn] at e1; exact Mine.ns e1)]; exact e1
  · dsimp only
    rw [if_neg (Rel.ne (r0 b o' e) ra)]; exact r0 b o' e
  · dsimp only
    rw [if_neg (Rel.ne r1 ra)]; exact r1
  · dsimp only
    rw [if_neg (Rel.ne (r2 y b p1 p2) ra)]; exact r2 y b p1 p2
  · dsimp only
    have e : (if b = a then some ob else H.objs b) = some o' := e
    by_cases q : b = a
    · rw [if_pos q]
    rw [if_neg q] at e ⊢; exact r3 b o' e
  dsimp only
  rw [if_neg (by rintro rfl; rw [h0] at e; exact Mine.ns e)]; exact r4 b o' (l.s b o' e)
noncomputable def enumO (it : Addr) : AO Int := .raw fun ob => ob = enumOb it 0 .none
noncomputable def titO (t : Addr) : AO Int := .raw fun ob => ob.cls = .type "tuple_iterator" /\ ob.data = .fields #[.ref t, .int 0 0]
theorem WC_enumT {t : Addr} (ht : At g S t (.tup xs)) (h : ∀ e it, S.σ e = none -> S.σ it = none -> e ≠ it -> Q (.ref e) ⟨S.m, upd (upd S.σ it (titO t)) e (enumO it)⟩) : WC g c (.type "enumerate") [.ref t] S Q := by
  intro us hu H s R
  o_shape
  refine el_EA (map1 hu) ?_; intro u rfl_118 hu1; subst rfl_118
  obtain rfl := er_ref hu1
  refine el_EEAAA (R.tupAt ht) ?_; intro arr n h1 h2 h3 h4
  refine call_enumerate_tuple h1 fun h' hE hI hz hk => ?_
  refine el_EAA hI ?_; (try clear hI); intro obI g1 g2 g3
  have n1 : s.heap.get? (s.heap.objs.size + 1) = none := by
    cases q : s.heap.get? (s.heap.objs.size + 1) with
    | none => rfl
    | some o => exact absurd (Heap.lt_size q) (Nat.not_lt.mpr (Nat.le_succ _))
  -- both are new at once: hide both, then reveal them
  have R₁ : Rel g c ((H.put s.heap.objs.size obI).put (s.heap.objs.size + 1) (enumOb s.heap.objs.size 0 .none)) S { s with heap := h', toks := s.toks } := by
    refine R.rehide (fun b o hb q => hk b o q) (fun b o q => ?_) (fun b o q hb => ?_) (fun p hp => hp) (fun b o u q hu => ?_)
    · have q : (if b = s.heap.objs.size + 1 then some (enumOb s.heap.objs.size 0 .none) else if b = s.heap.objs.size then some obI else H.objs b) = some o := q
      by_cases q1 : b = s.heap.objs.size + 1
      · rw [if_pos q1] at q; (replace q := Option.some.inj q; subst q); rw [q1]; exact hE
      rw [if_neg q1] at q
      by_cases q2 : b = s.heap.objs.size
      · rw [if_pos q2] at q; (replace q := Option.some.inj q; subst q); rw [q2]; exact g1
      rw [if_neg q2] at q; exact hk b o (R.hid b o q)
    · have q : (if b = s.heap.objs.size + 1 then some (enumOb s.heap.objs.size 0 .none) else if b = s.heap.objs.size then some obI else H.objs b) = some o := q
      by_cases q1 : b = s.heap.objs.size + 1
      · rw [q1]; exact n1
      rw [if_neg q1] at q
      by_cases q2 : b = s.heap.objs.size
      · rw [q2]; exact size_none _
      rw [if_neg q2, hb] at q; exact Mine.ns q
    show (if b = s.heap.objs.size + 1 then some (enumOb s.heap.objs.size 0 .none) else if b = s.heap.objs.size then some obI else H.objs b) = some o
    have := Heap.lt_size (R.hid b o q)
    rw [if_neg (Nat.ne_of_lt (Nat.lt_succ_of_lt this)), if_neg (Nat.ne_of_lt this)]; exact q
  refine el_A (R₁.reveal (o := enumO s.heap.objs.size) (Hid.put_self _ _ _) (fun u q => by cases q) rfl) ?_; intro d1 R₂
  have f2 : ((H.put s.heap.objs.size obI).put (s.heap.objs.size + 1) (enumOb s.heap.objs.size 0 .none)).cut (s.heap.objs.size + 1) = H.put s.heap.objs.size obI := by
    refine Hid.put_cut _ _ _ ?_
    show (if s.heap.objs.size + 1 = s.heap.objs.size then some obI else H.objs (s.heap.objs.size + 1)) = none
    rw [if_neg (Nat.succ_ne_self _)]; exact R.free_hid n1
  rw [f2] at R₂
  refine el_A (R₂.reveal (o := titO t) (Hid.put_self _ _ _) (fun u q => by rw [g3] at q; cases q) ⟨g2, g3⟩) ?_; intro d2 R₃
  rw [Hid.put_cut _ _ _ (R.free_hid (size_none _))] at R₃
  have d2 : S.σ s.heap.objs.size = none := by
    have : upd S.σ (s.heap.objs.size + 1) (enumO s.heap.objs.size) s.heap.objs.size = none := d2
    unfold upd at this
    rwa [if_neg (Ne.symm (Nat.succ_ne_self _))] at this
  refine ⟨⟨S.m, upd (upd S.σ s.heap.objs.size (titO t)) (s.heap.objs.size + 1) (enumO s.heap.objs.size)⟩, R₃.le (fun _ _ q => q) (fun b o q => ?_), h (s.heap.objs.size + 1) s.heap.objs.size d1 d2 (Nat.succ_ne_self _)⟩
  show upd (upd S.σ (s.heap.objs.size + 1) _) s.heap.objs.size _ b = some o
  have q : upd (upd S.σ s.heap.objs.size _) (s.heap.objs.size + 1) _ b = some o := q
  unfold upd at q ⊢
  by_cases q1 : b = s.heap.objs.size
  · rw [if_pos q1]; rw [q1, if_neg (Ne.symm (Nat.succ_ne_self _)), if_pos rfl] at q; exact q
  rw [if_neg q1] at q ⊢; exact q
inductive ForEnumPost (g : Gl Int) (c : Ac) (x : Str) (y : Str) (body : List Stmt) (orelse : List Stmt) (Q : Flow -> St Int -> Prop) (v : Value) (S₁ : St Int) : Prop
  | mk (e : Addr) (it : Addr) (t : Addr) (xs : List Value) (S₀ : St Int) (h_1 : v = .ref e) (h_2 : e ≠ it) (h_3 : S₁.σ e = some (enumO it)) (h_4 : S₁.σ it = some (titO t)) (h_5 : Le S₀ S₁) (h_6 : S₀.σ e = none) (h_7 : S₀.σ it = none) (Inv : Nat -> St Int -> Prop) (h_8 : Inv 0 S₀) (h_9 : (∀ i S₂, Inv i S₂ -> At g S₂ t (.tup xs))) (h_10 : (∀ i S₂, i < xs.length -> Inv i S₂ -> WXs g c body (enumStep x y xs i S₂) (ForQ Inv i Q))) (h_11 : ∀ S₂, Inv xs.length S₂ -> WXs g c orelse S₂ Q) : ForEnumPost g c x y body orelse Q v S₁
theorem WX_ForEnum {x y : Str} {px py pt : Pos} {k : Nat} {iter : Expr} {body orelse : List Stmt} {pos : Pos} {Q : Flow -> St Int -> Prop} {sc : Scope} (hsc : c.env.scope = sc) (hext : c.ext = fun _ => false) (hx : isOwn sc x = true) (hy : isOwn sc y = true) (hs : ∀ env x, foldedSetIterable iter env x = pure x)
    (h : WE g c iter S (ForEnumPost g c x y body orelse Q)) : WX g c (.For (.Tuple [.Name x px, .Name y py] k pt) iter body orelse pos) S Q := by
  refine WX_ForG hs fun H s R => ?_
  refine goK (h H s R) (fun v s₁ S₁ R₁ q_ => ?_)
  obtain ⟨e, it, t, xs, S₀, ev, hne, he, hi, hl, n1, n2, Inv, h0, hok, turn, fin⟩ := q_
  obtain rfl := er_ref ev
  obtain ⟨obE, i1, f1, R₂⟩ := R₁.conceal he (S₀ := ⟨S₁.m, fun b => if b = e then none else S₁.σ b⟩) ⟨fun _ _ q => q, fun b o q => by
    have q : (if b = e then none else S₁.σ b) = some o := q
    by_cases q1 : b = e
    · rw [if_pos q1] at q; exact Mine.ns q
    · rwa [if_neg q1] at q⟩ (if_pos rfl)
  have hi' : (⟨S₁.m, fun b => if b = e then none else S₁.σ b⟩ : St Int).σ it = some (titO t) := (if_neg (Ne.symm hne)).trans hi
  obtain ⟨obI, i2, f2, R₃⟩ := R₂.conceal hi' (S₀ := S₀) ⟨hl.m, fun b o q => by
    show (if b = e then none else S₁.σ b) = some o
    rw [if_neg (by rintro rfl; rw [n1] at q; exact Mine.ns q)]; exact hl.s b o q⟩ n2
  have hE : obE = enumOb it 0 .none := i1
  subst hE
  have f2' : H.objs it = none := by
    have : (if it = e then some _ else H.objs it) = none := f2
    rwa [if_neg (Ne.symm hne)] at this
  refine wpAny_pyIter_enum (R₃.hid e _ (by
    show (if e = it then some obI else (H.put e _).objs e) = _
    rw [if_neg hne]; exact Hid.put_self _ _ _)) ⟨S₀, xs.length, enumStep x y xs, _, turnsEnum g c H x y px py pt k e it t xs f1 f2' hne (by rw [hsc]; exact hx) (by rw [hsc]; exact hy) (by rw [hext]) (by rw [hext]), (H.put e (enumOb it 0 .none)).put it obI, Inv, ⟨.none, obI, ?_, Hid.put_self _ _ _, i2.1, i2.2, fun b q1 q2 => ?_, rfl⟩, R₃, h0, hok, turn, fin⟩
  · show (if e = it then some obI else (H.put e _).objs e) = _
    rw [if_neg hne]; exact Hid.put_self _ _ _
  show (if b = it then some obI else if b = e then some _ else H.objs b) = _
  rw [if_neg q2, if_neg q1]
end
end
section
section
variable {g : Gl Int} {c : Ac} {S S' : St Int} {Q : Value -> St Int -> Prop} {a b : Addr} {xs ys : List Value}
theorem WX_Expr {e : Expr} {pos : Pos} {Q : Flow -> St Int -> Prop} (hs : ∀ env, swapsWith e none pos.line env = pure false) (h : WE g c e S fun _ S₁ => Q .next S₁) : WX g c (.Expr e pos) S Q := by
  intro H s R
  o_shape
  have hi : interactive c.env = false := by
    unfold interactive
    rw [R.ac.kind]
    rfl
  rw [exec_Expr c.env e pos hi (hs _)]
  exact wpAny_bind (wpAny_standAt (wpAny_bind (goK (h H s R) (fun v s' S₁ R₁ q => wpAny_dropValue ⟨S₁, R₁, q⟩))))
theorem Gl.Ok.at {g : Gl Int} (hG : g.Ok) {K : Frag} (hK : g.K = K) {S : St Int} {a : Addr} {arr : Array Value} {n : Nat} (h : K.lookup a = some { cls := .type "tuple", data := .seq arr n }) : At g S a (.tup (arr.toList.map er)) :=
  .inr ⟨_, hG.k _ _ (by rw [hK]; exact h), arr, n, rfl, rfl⟩
theorem WGM_str {x name : Str} {id : String} (slot : Slot "str" name id) (hty : typeOf (.builtin id) = pure (.type "method_descriptor")) {Q : Value -> List Value -> St Int -> Prop} (h : Q (.builtin id) [.str x 0] S) : WGM g c (.str x 0) name S Q := by
  intro u pl hu H s R
  o_shape
  refine el_E (er_str hu) ?_; intro t rfl_119; subst rfl_119
  exact GM.of (.str x t) (typeIs_str _ _ _) slot hty GM.noRef ⟨S, R, h⟩
theorem WE_join {o e : Expr} {apos pos : Pos} {pl : Env -> Sem Bool}
    (he : ∀ env, eval (.Call (.Attribute o (Str.ofString "join") apos) [e] [] pos) env = (do
      let ov ← eval o env
      standAt apos.atName
      let (f, first) ← holding [ov] (getMethod ov (Str.ofString "join") (pl env))
      callWith pos f first (backTo pos (starEach [e] env)) []))
    (hn : notStar e = true)
    (h : WE g c o S fun v S₁ => ∃ x, v = .str x 0 /\ WE g c e S₁ fun l S₂ => ∃ a xs ss, l = .ref a /\ S₂.σ a = some (.list xs) /\ AreStr xs ss /\ (ss.map (·.length)).sum + ss.length * x.length ≤ 16777216 /\ Q (.str (Txt.join x ss) 0) S₂) : WE g c (.Call (.Attribute o (Str.ofString "join") apos) [e] [] pos) S Q := by
  refine WE_Meth (pl := pl) he (WE.mono h fun v S₁ q_ => ?_)
  refine el_EA q_ ?_; clear q_; intro x e₁ q
  subst e₁
  refine WGM_str F.slot_str_join F.type_str_join (W_CW rfl (by simp [hn]) (WEs_cons hn (WE.mono q fun l S₂ ⟨a, xs, ss, e₂, hx, hs, hz, q₂⟩ => WEs_nil ?_)))
  subst e₂
  exact WC_join hx hs hz q₂
theorem W_append {o e : Expr} {apos pos p : Pos} {pl : Env -> Sem Bool} {Q : Flow -> St Int -> Prop} (hsw : ∀ env, swapsWith (.Call (.Attribute o (Str.ofString "append") apos) [e] [] pos) none p.line env = pure false)
    (he : ∀ env, eval (.Call (.Attribute o (Str.ofString "append") apos) [e] [] pos) env = (do
      let ov ← eval o env
      standAt apos.atName
      let (f, first) ← holding [ov] (getMethod ov (Str.ofString "append") (pl env))
      callWith pos f first (backTo pos (starEach [e] env)) []))
    (hn : notStar e = true)
    (h : WE g c o S fun v S₁ => ∃ a ys, v = .ref a /\ S₁.σ a = some (.list ys) /\ WE g c e S₁ fun x S₂ => ∃ xs, S₂.σ a = some (.list xs) /\ xs.length ≤ sizeLine /\ Q .next ⟨S₂.m, upd S₂.σ a (.list (xs ++ [x]))⟩) : WX g c (.Expr (.Call (.Attribute o (Str.ofString "append") apos) [e] [] pos) p) S Q := by
  refine WX_Expr hsw (WE_Meth (pl := pl) he (WE.mono h fun v S₁ q_ => ?_))
  refine el_EEAA q_ ?_; clear q_; intro a ys e₁ hl q
  subst e₁
  refine WGM_list F.slot_list_append F.type_list_append hl (W_CW rfl (by simp [hn]) (WEs_cons hn (WE.mono q fun x S₂ ⟨xs, hx, hz, q₂⟩ => WEs_nil ?_)))
  exact WC_append hx hz q₂
end
end
section
section
variable {g : Gl Int} {c : Ac} {S S' : St Int} {Q : Value -> St Int -> Prop} {a b : Addr} {xs ys : List Value}
theorem W_StoreX {sc : Scope} {E : Str -> Bool} {x : Str} {v : Value} {Q : St Int -> Prop} (hs : c.env.scope = sc) (hx : c.ext = E) (hk : isOwn sc x = true) (he : E x = false) (h : Q ⟨setv S.m x v, S.σ⟩) : WStore g c x v S Q := W_Store (by rw [hs]; exact hk) (by rw [hx]; exact he) h
inductive CompPost (g : Gl Int) (c : Ac) (scope : Scope) (sc : Scope) (x : Str) (ifs : List Expr) (elt : Expr) (Q : Value -> St Int -> Prop) (v : Value) (S₁ : St Int) : Prop
  | mk (xs : List Value) (Ok : St Int -> Prop) (h_1 : Iterable g c v xs Ok S₁) (Inv : Nat -> List Value -> St Int -> Prop) (h_2 : Inv 0 [] ⟨compM scope S₁.m, S₁.σ⟩) (h_3 : (∀ i acc S₂, Inv i acc S₂ -> Ok S₂ /\ acc.length ≤ i)) (h_4 : xs.length ≤ sizeLine) (h_5 : (∀ c' : Ac, c'.env.scope = relabelS scope sc -> c'.ext = extOf scope -> (∀ n, c.Deep n -> c'.Deep n) -> ∀ i y acc S₂, xs[i]? = some y -> Inv i acc S₂ ->
        WIfs g c' ifs ⟨setv S₂.m x y, S₂.σ⟩ fun b S₄ => if b = true then WE g c' elt S₄ (fun z S₅ => Inv (i + 1) (acc ++ [z]) S₅) else Inv (i + 1) acc S₄)) (h_6 : ∀ acc S₂, Inv xs.length acc S₂ -> ∀ a, S₂.σ a = none -> Q (.ref a) ⟨S₁.m, upd S₂.σ a (.list acc)⟩) : CompPost g c scope sc x ifs elt Q v S₁
theorem WE_Comp {elt iter : Expr} {x : Str} {px : Pos} {ifs : List Expr} {scope sc : Scope} {pos : Pos} (hs : ∀ env x, foldedSetIterable iter env x = pure x) (he : c.env.scope = sc) (hsc : compOk scope sc = true) (hk : isOwn (relabelS scope sc) x = true) (hf : extOf scope x = false)
    (h : WE g c iter S (CompPost g c scope sc x ifs elt Q)) : WE g c (.ListComp elt [⟨.Name x px, iter, ifs, 0⟩] scope pos) S Q := by
  refine WE_ListComp hs (by rw [he]; exact hsc) (WE.mono h fun v S₁ ⟨xs, Ok, hit, Inv, h0, hok, hz, turn, fin⟩ => ⟨xs, Ok, hit, Inv, h0, hok, hz, fun c' h1 h2 h3 i y acc S₂ hy hI => WAsg_Name ?_, fin⟩)
  rw [he] at h1
  exact W_StoreX h1 h2 hk hf (turn c' h1 h2 h3 i y acc S₂ hy hI)
inductive CompRPost (g : Gl Int) (c : Ac) (scope : Scope) (sc : Scope) (x : Str) (ifs : List Expr) (elt : Expr) (Q : Value -> St Int -> Prop) (v : Value) (S₁ : St Int) : Prop
  | mk (r : Addr) (lo : Int) (hi : Int) (h_1 : v = .ref r) (h_2 : S₁.σ r = some (rngO lo hi 1)) (h_3 : -(2 ^ 62) ≤ lo) (h_4 : lo < 2 ^ 62) (h_5 : -(2 ^ 62) ≤ hi) (h_6 : hi < 2 ^ 62) (h_7 : (hi - lo).toNat ≤ sizeLine) (Inv : Nat -> List Value -> St Int -> Prop) (h_8 : Inv 0 [] ⟨compM scope S₁.m, S₁.σ⟩) (h_9 : (∀ i acc S₂, Inv i acc S₂ -> acc.length ≤ i)) (h_10 : (∀ c' : Ac, c'.env.scope = relabelS scope sc -> c'.ext = extOf scope -> (∀ n, c.Deep n -> c'.Deep n) -> ∀ (i : Nat) acc S₂, (i : Int) < hi - lo -> Inv i acc S₂ ->
        WIfs g c' ifs ⟨setv S₂.m x (.int (lo + i) 0), S₂.σ⟩ fun b S₄ => if b = true then WE g c' elt S₄ (fun z S₅ => Inv (i + 1) (acc ++ [z]) S₅) else Inv (i + 1) acc S₄)) (h_11 : ∀ acc S₂, Inv (hi - lo).toNat acc S₂ -> ∀ a, S₂.σ a = none -> Q (.ref a) ⟨S₁.m, upd S₂.σ a (.list acc)⟩) : CompRPost g c scope sc x ifs elt Q v S₁
theorem WE_CompR {elt iter : Expr} {x : Str} {px : Pos} {ifs : List Expr} {scope sc : Scope} {pos : Pos} (hs : ∀ env x, foldedSetIterable iter env x = pure x) (he : c.env.scope = sc) (hsc : compOk scope sc = true) (hk : isOwn (relabelS scope sc) x = true) (hf : extOf scope x = false)
    (h : WE g c iter S (CompRPost g c scope sc x ifs elt Q)) : WE g c (.ListComp elt [⟨.Name x px, iter, ifs, 0⟩] scope pos) S Q := by
  refine WE_Comp hs he hsc hk hf (WE.mono h fun v S₁ q_ => ?_)
  obtain ⟨r, lo, hi, e, hr, b1, b2, b3, b4, hz, Inv, h0, hl, turn, fin⟩ := q_
  subst e
  refine ⟨_, _, iter_range hr (small_nat b1 b2 b3 b4) (size_one_nonneg _ _), Inv, h0, fun i acc S₂ hI => ⟨trivial, hl i acc S₂ hI⟩, by rw [rngL_len, rngN_two]; exact hz, fun c' h1 h2 h3 i y acc S₂ hy hI => ?_, fun acc S₂ hI a ha => ?_⟩
  · (refine el_A (rngL_get.mp hy) ?_; intro q1 rfl_120; subst rfl_120)
    rw [rngN_two] at q1
    rw [Int.mul_one]
    exact turn c' h1 h2 h3 i acc S₂ (by exact om08 ‹_›) hI
  rw [rngL_len, rngN_two] at hI
  exact fin acc S₂ hI a ha
theorem compM_free {scope : Scope} {m : Str -> Option Value} {x : Str} {v : Value} (hf : extOf scope x = true) (h : m x = some v) : compM scope m x = some v := (if_pos hf).trans h
end
section
variable {g : Gl Int} {c : Ac} {S S' : St Int}
theorem Le.new {σ' : Addr -> Option (AO Int)} {D : Addr} {o : AO Int} (hle : ∀ b o, S.σ b = some o -> σ' b = some o) (hD : σ' D = none) : S.σ D = none /\ Le ⟨S.m, upd S.σ D o⟩ ⟨S.m, upd σ' D o⟩ := by
  refine ⟨?_, ⟨fun _ _ e => e, fun b o' e => ?_⟩⟩
  · cases z : S.σ D with
    | none => rfl
    | some o => have := hle D o z; rw [hD] at this; exact Mine.ns this
  have e : upd S.σ D o b = some o' := e
  show upd σ' D o b = some o'
  unfold upd at e ⊢
  by_cases q : b = D
  · rw [if_pos q] at e ⊢; exact e
  rw [if_neg q] at e ⊢; exact hle b o' e
noncomputable def HasP (σ : Addr -> Option (AO Int)) (r : Addr) (p : Int × Int) : Prop := σ r = some (.list [.int p.1 0, .int p.2 0])
noncomputable def Refs (σ : Addr -> Option (AO Int)) (T : Addr) (vs : List Value) (ps : List (Int × Int)) : Prop :=
  vs.length = ps.length /\ ∀ (j : Nat) (p : Int × Int), ps[j]? = some p -> ∃ r : Addr, vs[j]? = some (Value.ref r) /\ HasP σ r p /\ r ≠ T
theorem Refs.nil {σ : Addr -> Option (AO Int)} {T : Addr} : Refs σ T [] [] := ⟨rfl, fun j p h => by simp at h⟩
theorem Refs.append {σ : Addr -> Option (AO Int)} {T : Addr} {vs ws : List Value} {ps qs : List (Int × Int)} (h : Refs σ T vs ps) (h' : Refs σ T ws qs) : Refs σ T (vs ++ ws) (ps ++ qs) := by
  refine ⟨by rw [List.length_append, List.length_append, h.1, h'.1], fun j p e => ?_⟩
  by_cases q : j < ps.length
  · rw [List.getElem?_append_left q] at e
    rw [List.getElem?_append_left (by rw [h.1]; exact q)]
    exact h.2 j p e
  rw [List.getElem?_append_right (by exact Nat.not_lt.mp ‹_›)] at e
  rw [List.getElem?_append_right (by rw [h.1]; omega), h.1]
  exact h'.2 _ p e
theorem Refs.snoc {σ : Addr -> Option (AO Int)} {T r : Addr} {vs : List Value} {ps : List (Int × Int)} {p : Int × Int} (h : Refs σ T vs ps) (hr : HasP σ r p) (hn : r ≠ T) : Refs σ T (vs ++ [.ref r]) (ps ++ [p]) :=
  h.append ⟨rfl, fun j q e => by
    match j, e with
    | 0, e => simp at e; subst e; exact ⟨r, rfl, hr, hn⟩⟩
theorem Refs.mono {σ σ' : Addr -> Option (AO Int)} {T T' : Addr} {vs : List Value} {ps : List (Int × Int)} (h : Refs σ T vs ps) (hl : ∀ r p, HasP σ r p -> r ≠ T -> HasP σ' r p /\ r ≠ T') : Refs σ' T' vs ps :=
  ⟨h.1, fun j p e => (let ⟨r, e1, e2, e3⟩ := h.2 j p e; ⟨r, e1, hl r p e2 e3⟩)⟩
theorem Refs.upd {σ : Addr -> Option (AO Int)} {T : Addr} {vs : List Value} {ps : List (Int × Int)} {o : AO Int} (h : Refs σ T vs ps) : Refs (upd σ T o) T vs ps :=
  h.mono fun r p e n => ⟨(if_neg n).trans e, n⟩
theorem Refs.new {σ : Addr -> Option (AO Int)} {T D : Addr} {vs : List Value} {ps : List (Int × Int)} {o : AO Int} (h : Refs σ T vs ps) (hD : σ D = none) : Refs (Mine.upd σ D o) T vs ps :=
  h.mono fun r p e n => ⟨upd_le hD r _ e, n⟩
end
section
variable {g : Gl Int} {c : Ac} {S S' : St Int}
theorem WXs_cut {st : Stmt} {ss : List Stmt} {Q : Flow -> St Int -> Prop} (J : St Int -> Prop) (h1 : WX g c st S fun f S₁ => f = .next /\ J S₁) (h2 : ∀ S₁, J S₁ -> WXs g c ss S₁ Q) : WXs g c (st :: ss) S Q :=
  WXs_cons (WX.mono h1 fun f S₁ ⟨e, hJ⟩ => by subst e; exact h2 S₁ hJ)
end
end
section
section
variable {g : Gl Int} {c : Ac} {S S' : St Int} {Q : Value -> St Int -> Prop} {a b : Addr} {xs ys : List Value}
theorem WCmp_neNil (ha : S.σ a = some (.list xs)) (hb : S.σ b = some (.list [])) (h : Q (.bool (!xs.isEmpty)) S) : WCmp g c .NotEq (.ref a) (.ref b) S Q := by
  cases xs with
  | nil => exact WCmp_neL (e := fun _ => true) (k := 0) ha hb rfl (by decide) (fun j x y q => by simp at q) h
  | cons x xs => exact WCmp_neL_len ha hb (by simp) h
theorem WCmp_eqNil (ha : S.σ a = some (.list xs)) (hb : S.σ b = some (.list [])) (h : Q (.bool xs.isEmpty) S) : WCmp g c .Eq (.ref a) (.ref b) S Q := by
  cases xs with
  | nil => exact WCmp_eqL (e := fun _ => true) (k := 0) ha hb rfl (by decide) (fun j x y q => by simp at q) h
  | cons x xs => exact WCmp_eqL_len ha hb (by simp) h
theorem WE_pop {o : Expr} {apos pos : Pos} {pl : Env -> Sem Bool}
    (he : ∀ env, eval (.Call (.Attribute o (Str.ofString "pop") apos) [] [] pos) env = (do
      let ov ← eval o env
      standAt apos.atName
      let (f, first) ← holding [ov] (getMethod ov (Str.ofString "pop") (pl env))
      callWith pos f first (backTo pos (starEach [] env)) []))
    (h : WE g c o S fun v S₁ => ∃ a xs x, v = .ref a /\ S₁.σ a = some (.list (xs ++ [x])) /\ xs.length + 1 ≤ sizeLine /\ Q x ⟨S₁.m, upd S₁.σ a (.list xs)⟩) : WE g c (.Call (.Attribute o (Str.ofString "pop") apos) [] [] pos) S Q := by
  refine WE_Meth (pl := pl) he (WE.mono h fun v S₁ q_ => ?_)
  refine el_EEEAAA q_ ?_; clear q_; intro a xs x e₁ hl hz q
  subst e₁
  exact WGM_list F.slot_list_pop F.type_list_pop hl (W_CW0 rfl (WC_pop hl hz q))
end
section
variable {g : Gl Int} {c : Ac} {S S' : St Int}
theorem WX_IfC {t : Expr} {b o : List Stmt} {pos : Pos} {Q : Flow -> St Int -> Prop} (C : Prop) (J : St Int -> Prop) (h : WT g c t S fun x S₁ => (x = true ↔ C) /\ J S₁) (h1 : C -> ∀ S₁, J S₁ -> WXs g c b S₁ Q) (h2 : ¬ C -> ∀ S₁, J S₁ -> WXs g c o S₁ Q) : WX g c (.If t b o pos) S Q :=
  WX_If (WM.mono h fun x S₁ ⟨e, hJ⟩ => by
    cases x with
    | true => rw [if_pos rfl]; exact h1 (e.mp rfl) S₁ hJ
    | false => rw [if_neg Bool.false_ne_true]; exact h2 (fun q => Bool.false_ne_true (e.mpr q)) S₁ hJ)
end
section
variable {g : Gl Int} {c : Ac} {S S' : St Int}
end
section
variable {g : Gl Int} {c : Ac} {S S' : St Int}
theorem swaps_true {sc : Scope} {x : Str} {p pos cpos : Pos} {elt : Expr} {gens : List Comprehension} {scope : Scope} (hs : c.env.scope = sc) (hkind : c.env.scope.kind = .function) (hk : sc.names.lookup x = some .local)
    (hl : (p.line == cpos.line && !(scope.names.any fun (n, k) => n == x && (k == .local || k == .cell))) = true) : swapsWith (.ListComp elt gens scope cpos) (some (.Name x p)) pos.line c.env = pure true := by
  have e : (c.env.kindOf x == some .local) = true := by
    unfold Env.kindOf
    rw [hs, hk]; rfl
  have e2 : (c.env.blockKind == .function) = true := by
    unfold Env.blockKind
    rw [hkind]; rfl
  refine el_A (Bool.and_eq_true_iff.mp hl) ?_; intro h1 h2
  show pure (c.env.blockKind == .function && c.env.kindOf x == some .local && p.line == (Expr.ListComp elt gens scope cpos).pos.line && _) = pure true
  rw [e2, e, show (p.line == (Expr.ListComp elt gens scope cpos).pos.line) = true from h1, h2]
  rfl
end
section
variable {g : Gl Int} {c : Ac} {S S' : St Int}
inductive CompXPost (g : Gl Int) (c : Ac) (scope : Scope) (sc : Scope) (x : Str) (ifs : List Expr) (elt : Expr) (y : Str) (Q' : Flow -> St Int -> Prop) (v : Value) (S₁ : St Int) : Prop
  | mk (xs : List Value) (Ok : St Int -> Prop) (h_1 : Iterable g c v xs Ok S₁) (Inv : Nat -> List Value -> St Int -> Prop) (h_2 : Inv 0 [] ⟨compM scope S₁.m, S₁.σ⟩) (h_3 : (∀ i acc S₂, Inv i acc S₂ -> Ok S₂ /\ acc.length ≤ i)) (h_4 : xs.length ≤ sizeLine) (h_5 : (∀ c' : Ac, c'.env.scope = relabelS scope sc -> c'.ext = extOf scope -> (∀ n, c.Deep n -> c'.Deep n) -> ∀ i y acc S₂, xs[i]? = some y -> Inv i acc S₂ ->
        WIfs g c' ifs ⟨setv S₂.m x y, S₂.σ⟩ fun b S₄ => if b = true then WE g c' elt S₄ (fun z S₅ => Inv (i + 1) (acc ++ [z]) S₅) else Inv (i + 1) acc S₄)) (h_6 : ∀ acc S₂, Inv xs.length acc S₂ -> ∀ a, S₂.σ a = none -> Q' .next ⟨setv S₁.m y (.ref a), upd S₂.σ a (.list acc)⟩) : CompXPost g c scope sc x ifs elt y Q' v S₁
theorem WX_Comp {elt iter : Expr} {x : Str} {px : Pos} {ifs : List Expr} {scope sc : Scope} {pos : Pos} (hs : ∀ env x, foldedSetIterable iter env x = pure x) (he : c.env.scope = sc) (hsc : compOk scope sc = true) (hk : isOwn (relabelS scope sc) x = true) (hf : extOf scope x = false) {y : Str} {py spos : Pos} {Q' : Flow -> St Int -> Prop} (hext : c.ext = fun _ => false) (hyl : sc.names.lookup y = some .local) (hl : (py.line == pos.line && !(scope.names.any fun (n, k) => n == y && (k == .local || k == .cell))) = true)
    (h : WE g c iter S (CompXPost g c scope sc x ifs elt y Q')) : WX g c (.Assign [.Name y py] (.ListComp elt [⟨.Name x px, iter, ifs, 0⟩] scope pos) spos) S Q' := by
  intro H s R
  o_shape
  refine WX_AssignComp (Q := fun v S' => Q' .next ⟨setv S'.m y v, S'.σ⟩) hs (by rw [he]; exact hsc) (by rw [he]; unfold isOwn; rw [hyl]) (by rw [hext]) (swaps_true he R.ac.kind hyl hl) (fun _ _ q => q) (WE.mono h fun v S₁ ⟨xs, Ok, hit, Inv, h0, hok, hz, turn, fin⟩ => ⟨xs, Ok, hit, Inv, h0, hok, hz, fun c' h1 h2 h3 i y acc S₂ hy hI => WAsg_Name ?_, fin⟩) H s R
  rw [he] at h1
  exact W_StoreX h1 h2 hk hf (turn c' h1 h2 h3 i y acc S₂ hy hI)
inductive CompRXPost (g : Gl Int) (c : Ac) (scope : Scope) (sc : Scope) (x : Str) (ifs : List Expr) (elt : Expr) (y : Str) (Q' : Flow -> St Int -> Prop) (v : Value) (S₁ : St Int) : Prop
  | mk (r : Addr) (lo : Int) (hi : Int) (h_1 : v = .ref r) (h_2 : S₁.σ r = some (rngO lo hi 1)) (h_3 : -(2 ^ 62) ≤ lo) (h_4 : lo < 2 ^ 62) (h_5 : -(2 ^ 62) ≤ hi) (h_6 : hi < 2 ^ 62) (h_7 : (hi - lo).toNat ≤ sizeLine) (Inv : Nat -> List Value -> St Int -> Prop) (h_8 : Inv 0 [] ⟨compM scope S₁.m, S₁.σ⟩) (h_9 : (∀ i acc S₂, Inv i acc S₂ -> acc.length ≤ i)) (h_10 : (∀ c' : Ac, c'.env.scope = relabelS scope sc -> c'.ext = extOf scope -> (∀ n, c.Deep n -> c'.Deep n) -> ∀ (i : Nat) acc S₂, (i : Int) < hi - lo -> Inv i acc S₂ ->
        WIfs g c' ifs ⟨setv S₂.m x (.int (lo + i) 0), S₂.σ⟩ fun b S₄ => if b = true then WE g c' elt S₄ (fun z S₅ => Inv (i + 1) (acc ++ [z]) S₅) else Inv (i + 1) acc S₄)) (h_11 : ∀ acc S₂, Inv (hi - lo).toNat acc S₂ -> ∀ a, S₂.σ a = none -> Q' .next ⟨setv S₁.m y (.ref a), upd S₂.σ a (.list acc)⟩) : CompRXPost g c scope sc x ifs elt y Q' v S₁
theorem WX_CompR {elt iter : Expr} {x : Str} {px : Pos} {ifs : List Expr} {scope sc : Scope} {pos : Pos} (hs : ∀ env x, foldedSetIterable iter env x = pure x) (he : c.env.scope = sc) (hsc : compOk scope sc = true) (hk : isOwn (relabelS scope sc) x = true) (hf : extOf scope x = false) {y : Str} {py spos : Pos} {Q' : Flow -> St Int -> Prop} (hext : c.ext = fun _ => false) (hyl : sc.names.lookup y = some .local) (hl : (py.line == pos.line && !(scope.names.any fun (n, k) => n == y && (k == .local || k == .cell))) = true)
    (h : WE g c iter S (CompRXPost g c scope sc x ifs elt y Q')) : WX g c (.Assign [.Name y py] (.ListComp elt [⟨.Name x px, iter, ifs, 0⟩] scope pos) spos) S Q' := by
  refine WX_Comp hs he hsc hk hf hext hyl hl (WE.mono h fun v S₁ q_ => ?_)
  obtain ⟨r, lo, hi, e, hr, b1, b2, b3, b4, hz, Inv, h0, hl, turn, fin⟩ := q_
  subst e
  refine ⟨_, _, iter_range hr (small_nat b1 b2 b3 b4) (size_one_nonneg _ _), Inv, h0, fun i acc S₂ hI => ⟨trivial, hl i acc S₂ hI⟩, by rw [rngL_len, rngN_two]; exact hz, fun c' h1 h2 h3 i y acc S₂ hy hI => ?_, fun acc S₂ hI a ha => ?_⟩
  · (refine el_A (rngL_get.mp hy) ?_; intro q1 rfl_121; subst rfl_121)
    rw [rngN_two] at q1
    rw [Int.mul_one]
    exact turn c' h1 h2 h3 i acc S₂ (by exact om08 ‹_›) hI
  rw [rngL_len, rngN_two] at hI
  exact fin acc S₂ hI a ha
end
section
variable {g : Gl Int} {c : Ac} {S S' : St Int}
noncomputable def notComp : Expr -> Bool
  | .ListComp .. => false
  | .SetComp .. => false
  | .DictComp .. => false
  | _ => true
theorem swaps_false {e : Expr} (h : notComp e = true) (t : Option Expr) (line : Nat) (env : Env) : swapsWith e t line env = pure false := by
  cases e <;> first | rfl | (exact Mine.ft h)
theorem WX_AssignN {sc : Scope} {x : Str} {p pos : Pos} {e : Expr} {Q : Flow -> St Int -> Prop} (hn : notComp e = true) (hs : c.env.scope = sc) (hx : c.ext = fun _ => false) (hk : isOwn sc x = true)
    (h : WE g c e S fun v S₁ => Q .next ⟨setv S₁.m x v, S₁.σ⟩) : WX g c (.Assign [.Name x p] e pos) S Q :=
  WX_AssignS hs hx hk (fun env => swaps_false hn _ _ env) h
end
end
section
section
variable {g : Gl Int} {c : Ac} {S S' : St Int} {Q : Value -> St Int -> Prop} {a b : Addr} {xs ys : List Value}
noncomputable def WD (g : Gl Int) (c : Ac) (f : Value) (as : List Value) (S : St Int) (Q : Value -> St Int -> Prop) : Prop :=
  ∀ us, us.map er = as -> ∀ H s, Rel g c H S s -> codeAny (model g.prog g.w) c.A (.call f ⟨us, []⟩) (fun r s' => match r with | .ok (.ret v) => ∃ S', Rel g c H S' s' /\ Q (er v) S' | _ => False) s
theorem WC_of {f : Value} {as : List Value} (h : WD g c f as S Q) : WC g c f as S Q := fun us hu H s R => wpAny_call (codeAny_mono (h us hu H s R) fun r s' q => by
  rcases r with e | (v | _ | _ | _) <;> first | exact q | exact q.elim)
theorem WD.drop {f : Value} {as : List Value} (h : WD g c f as S fun v S' => ∃ S'', Le S'' S' /\ Q v S'') : WD g c f as S Q := fun us hu H s R => codeAny_mono (h us hu H s R) fun r s' q => by
  rcases r with e | (v | _ | _ | _) <;> first | exact q.elim | ((refine el_EAEA q ?_; (try clear q); intro S₁ R₁ S₂ l q); exact ⟨S₂, R₁.le l.m l.s, q⟩)
theorem WD_def {f : Addr} {as : List Value} {B : List (Str × Value)} {body : List Stmt} {scope : Scope} {fd : FuncData} {n : Nat} (hd : c.Deep (n + 1)) (F : FnIs g.K f body scope fd) (hsc : scopeOk scope = true)
    (hbind : ∀ us, us.map er = as -> ∃ bs, bindArgs fd ⟨us, []⟩ = pure bs /\ bs.map (fun p => (p.1, er p.2)) = B)
    (hkind : (B.all fun y => scope.names.lookup y.1 == some .local || scope.names.lookup y.1 == some .cell) = true)
    (h : ∀ c' : Ac, c'.env.scope = scope -> c'.ext = (fun _ => false) -> c'.Deep n -> WXs g c' body ⟨bindM B fun _ => none, S.σ⟩ fun fl S' => Q (retV fl) ⟨S.m, S'.σ⟩) : WD g c (.ref f) as S Q := by
  intro us hus H s R
  o_shape
  refine el_EA (hbind us hus) ?_; intro bs hb rfl_142; subst rfl_142
  refine el_EEE F.at_ ?_; intro oc od osl ho
  obtain ⟨k1, k2, k3⟩ : scope.kind = .function /\ scope.isCoroutine = false /\ scope.isGenerator = false := by
    simp only [scopeOk, Bool.and_eq_true, beq_iff_eq, Bool.not_eq_true'] at hsc
    exact ⟨hsc.1.1.1, hsc.1.1.2, hsc.1.2⟩
  have hfs := F.scope
  refine codeAny_call_cells R.room (R.in_K _ _ ho) rfl R.nolimit (codeRec_of R.in_K F.cd) F.body hb F.clo (fun y hy => ?_) (fun s₁ x => ?_) (by rw [hfs]; exact k2) (by rw [hfs]; exact k3) (by rw [hfs]; exact k1)
  · rw [hfs]
    have := List.all_eq_true.mp hkind (y.1, er y.2) (List.mem_map.mpr ⟨y, hy, rfl⟩)
    rcases Bool.or_eq_true_iff.mp this with q | q
    · exact .inl (by simpa using q)
    have q' : scope.names.lookup y.1 = some .cell := by simpa using q
    exact .inr ⟨q', cellsFrom_some _ _ _ (.inl q')⟩
  refine el_EA (enter R hd hsc hfs F.gl F.bl x) ?_; intro H' R' back
  refine goK (h ⟨c.A.deeper (callEnvC fd s.heap.objs.size f), callEnvC fd s.heap.objs.size f, fun _ => false⟩ hfs rfl ?_ H' s₁ R') (fun fl s' S' R₂ q => ?_)
  · unfold Ac.Deep at hd ⊢
    simp only [Around.deeper]
    exact om01 ‹_›
  refine ⟨⟨S.m, S'.σ⟩, back S' s' R₂, ?_⟩
  cases fl <;> exact q
theorem Rel.around {H : Hid} {s : Shared} {A' : Around} (R : Rel g c H S s) (hA : Ac.Ok ⟨A', c.env, c.ext⟩) : Rel g ⟨A', c.env, c.ext⟩ H S s :=
  { ok := R.ok, ac := hA, above := R.above, keep := R.keep, os := R.os, bare := R.bare, gen := R.gen, hid := R.hid, loc := R.loc, cel := R.cel, inj := R.inj, fre := R.fre, sto := R.sto, role := R.role }
theorem Rel.unaround {H : Hid} {s : Shared} {A' : Around} (R : Rel g ⟨A', c.env, c.ext⟩ H S s) (hA : c.Ok) : Rel g c H S s :=
  { ok := R.ok, ac := hA, above := R.above, keep := R.keep, os := R.os, bare := R.bare, gen := R.gen, hid := R.hid, loc := R.loc, cel := R.cel, inj := R.inj, fre := R.fre, sto := R.sto, role := R.role }
theorem Ac.Ok.around {A' : Around} (h : c.Ok) (hd : A'.handled = none) (d : Ac.Deep ⟨A', c.env, c.ext⟩ 0) : Ac.Ok ⟨A', c.env, c.ext⟩ :=
  ⟨h.kind, h.gl, h.bl, hd, d, h.cells, h.frees⟩
theorem Rel.know {H : Hid} {s : Shared} (R : Rel g c H S s) {ob : Obj} {o : AO Int} (hn : s.heap.get? a = some ob) (hi : Is g ob o) (h0 : g.h₀.get? a = none) (hl : a ≠ c.env.locals)
    (hc : ∀ x b, c.env.cells.lookup x = some b -> c.Own x -> b ≠ a) (hH : H.objs a = none) : Rel g c H ⟨S.m, upd S.σ a o⟩ s := by
  refine el_EAAAA R.role ?_; intro ρ r0 r1 r2 r3 r4
  refine { R with sto := ?_, role := ⟨fun b => if b = a then 4 else ρ b, fun b o e => ?_, ?_, fun x b h1 h2 => ?_, fun b o e => ?_, fun b o' e => ?_⟩ }
  · intro b o' e
    unfold upd at e
    dsimp only at e
    split at e
    · rename_i hb; subst hb; (replace e := Option.some.inj e; subst e); exact ⟨ob, hn, hi⟩
    exact R.sto b o' e
  · dsimp only; rw [if_neg (by rintro rfl; rw [h0] at e; exact Mine.ns e)]; exact r0 b o e
  · dsimp only; rw [if_neg (Ne.symm hl)]; exact r1
  · dsimp only; rw [if_neg (hc x b h1 h2)]; exact r2 x b h1 h2
  · dsimp only; rw [if_neg (by rintro rfl; rw [hH] at e; exact Mine.ns e)]; exact r3 b o e
  by_cases hb : b = a
  · dsimp only; rw [if_pos hb]
  dsimp only; rw [if_neg hb]
  refine r4 b o' ?_
  unfold upd at e
  dsimp only at e
  rwa [if_neg hb] at e
structure Fresh (g : Gl Int) (c : Ac) (H : Hid) (S : St Int) (a : Addr) : Prop where
  h0 : g.h₀.get? a = none
  hl : a ≠ c.env.locals
  hc : ∀ x b, c.env.cells.lookup x = some b -> c.Own x -> b ≠ a
  hH : H.objs a = none
  hS : S.σ a = none
theorem Rel.fresh {H : Hid} {s : Shared} (R : Rel g c H S s) (ha : s.heap.get? a = none) : Fresh g c H S a := by
  refine ⟨?_, ?_, fun x b h1 h2 e => ?_, R.free_hid ha, ?_⟩
  · cases z : g.h₀.get? a with
    | none => rfl
    | some o => have := R.keep a o z; rw [ha] at this; exact Mine.ns this
  · rintro rfl
    refine el_EA R.loc ?_; intro m nn_141 _; obtain ⟨oL, _, _, hL, _⟩ := nn_141
    rw [ha] at hL; exact Mine.ns hL
  · subst e
    refine el_EA (R.cel x b h1 h2) ?_; intro u nn_140 _; obtain ⟨oc, hc, _⟩ := nn_140
    rw [ha] at hc; exact Mine.ns hc
  cases q : S.σ a with
  | none => rfl
  | some o' => (refine el_EA (R.sto a o' q) ?_; intro ob' e _); rw [ha] at e; exact Mine.ns e
theorem under_units (A : Around) (C : Addr) (vals : List Value) (kw : List (Str × Value)) : (A.under (.builtin "type.__call__" ⟨.ref C :: vals, kw⟩)).units ≤ A.units + 4 := by
  have h : (Code.builtin "type.__call__" ⟨.ref C :: vals, kw⟩).cUnits = 1 := by kernel_rfl
  exact Nat.add_le_add_left (Nat.le_trans (Nat.le_of_eq h) (by decide)) A.units
theorem under_depth (A : Around) (C : Addr) (vals : List Value) (kw : List (Str × Value)) : (A.under (.builtin "type.__call__" ⟨.ref C :: vals, kw⟩)).depth = A.depth + 1 := rfl
theorem WC_new {C fI : Addr} {as : List Value} {n : Nat} (hd : c.Deep (n + 1)) (hm : makesIn g.K C = true) (hi : findIn g.K (.ref C) "__init__" = some (some (.ref fI))) (hf : isFn g.K (.ref fI) = true)
    (mk : Addr -> AO Int) (hmk : ∀ d, mk d = .inst C d ∨ mk d = .slots C d []) (h : ∀ x dx, S.σ x = none -> S.σ dx = none -> x ≠ dx -> ∀ c' : Ac, c'.env = c.env -> c'.ext = c.ext -> c'.Deep n ->
      WD g c' (.ref fI) (.ref x :: as) ⟨S.m, upd (upd S.σ dx (.ns (fun _ => none) 0)) x (mk dx)⟩ fun v S' => v = .none /\ Q (.ref x) S') : WC g c (.ref C) as S Q := by
  intro us hus H s R
  o_shape
  refine el_EAA R.led ?_; intro m F N' hl
  refine call_cls F R.ok.k N' hm hi hf fun x dx h' F' N' l1 l2 => ?_
  have hxn : s.heap.get? x = none := by
    cases z : s.heap.get? x with
    | none => rfl
    | some o =>
      exfalso
      have := (N' _ (.head _)).2
      by_cases q : x = c.env.locals
      · exact this.1 q
      exact absurd (l1 (x, o) (mem_allobjs.mpr ⟨⟨q, this.2⟩, z⟩)) (Nat.not_lt.mpr (Nat.le_of_lt l2))
  have hdn : s.heap.get? dx = none := by
    cases z : s.heap.get? dx with
    | none => rfl
    | some o =>
      exfalso
      have := (N' _ (.tail _ (.head _))).2
      by_cases q : dx = c.env.locals
      · exact this.1 q
      exact absurd (l1 (dx, o) (mem_allobjs.mpr ⟨⟨q, this.2⟩, z⟩)) (Nat.lt_irrefl _)
  have fx := R.fresh hxn
  have fd := R.fresh hdn
  have ne : x ≠ dx := Nat.ne_of_gt l2
  have R₁ : Rel g c H S { s with heap := h' } := R.backBut (tk := s.toks) hl F' fun p hp => (N' p (.tail _ (.tail _ hp))).1
  have R₂ := R₁.know (a := dx) (o := .ns (fun _ => none) 0) (N' _ (.tail _ (.head _))).1 ⟨[], 0, rfl, (fun e he => nomatch he), fun x => rfl, Nat.le_refl _⟩ fd.h0 fd.hl fd.hc fd.hH
  have hmk' : Is g (instObj C dx) (mk dx) := by
    rcases hmk dx with e | e
    · rw [e]; rfl
    rw [e]; exact ⟨#[], rfl, rfl⟩
  have R₃ := R₂.know (a := x) (o := mk dx) (N' _ (.head _)).1 hmk' fx.h0 fx.hl fx.hc fx.hH
  have hdeep : Ac.Deep ⟨c.A.under (.builtin "type.__call__" ⟨.ref C :: us, []⟩), c.env, c.ext⟩ n := by
    unfold Ac.Deep at hd ⊢
    have := under_units c.A C us []
    have := under_depth c.A C us []
    dsimp only
    lia
  have R₄ := R₃.around (A' := c.A.under (.builtin "type.__call__" ⟨.ref C :: us, []⟩)) (R.ac.around R.ac.hd (hdeep.less (Nat.zero_le _)))
  refine codeAny_mono (h x dx fx.hS fd.hS ne ⟨c.A.under (.builtin "type.__call__" ⟨.ref C :: us, []⟩), c.env, c.ext⟩ rfl rfl hdeep (.ref x :: us) (by rw [List.map_cons, hus]; rfl) H _ R₄) fun r s' q => ?_
  rcases r with e | (v | _ | _ | _) <;> first | exact q.elim | skip
  refine el_EAA q ?_; (try clear q); intro S₁ R₅ q1 q2
  exact ⟨er_none q1, S₁, R₅.unaround R.ac, q2⟩
theorem WGM_inst {C d f : Addr} {m : Str -> Option Value} {k : Nat} {x : Str} (hg : plainGet g.K C x = true) (hf : findIn g.K (.ref C) x = some (some (.ref f))) (ht : isFn g.K (.ref f) = true) (ha : S.σ a = some (.inst C d)) (hd : S.σ d = some (.ns m k)) (hx : m x = none)
    {Q : Value -> List Value -> St Int -> Prop} (h : Q (.ref f) [.ref a] S) : WGM g c (.ref a) x S Q := by
  intro u pl hu H s R
  o_shape
  obtain rfl := er_ref hu
  refine el_EEAAAA (R.inst ha hd) ?_; intro es n I h1 h2 h3 h4
  refine el_EAA R.led ?_; intro m' F N' hl
  refine method_inst F R.ok.k I hg hf ht ?_ ⟨S, R, h⟩
  have := h3 x
  rw [hx] at this
  rw [getL_of h2]
  cases z : nsFind es.toArray x with
  | none => rfl
  | some v => rw [z] at this; exact Mine.sn this
noncomputable def slotAttr (K : Frag) (C : Addr) (x : Str) (i : Nat) : Bool := plainGet K C x && isClsIn K C && (match findIn K (.ref C) x with
  | some (some (.ref p)) => specialIn K (.ref p) "__get__" == some (some (.builtin "member_descriptor.__get__")) && takesIn K (.ref p) == some true && slotIn K p C == some i && typeIn K (.ref p) == some (.type "member_descriptor") && takerIn K C x == some (some (.ref p))
  | _ => false) && findIn K (.ref C) "__setattr__" == some (some (.builtin "object.__setattr__")) && plainOver K C
theorem slotAttr_of {K : Frag} {C : Addr} {x : Str} {i : Nat} (h : slotAttr K C x i = true) : ∃ p, plainGet K C x = true /\ isClsIn K C = true /\ findIn K (.ref C) x = some (some (.ref p)) /\ specialIn K (.ref p) "__get__" = some (some (.builtin "member_descriptor.__get__")) /\ takesIn K (.ref p) = some true /\ slotIn K p C = some i /\
    typeIn K (.ref p) = some (.type "member_descriptor") /\ takerIn K C x = some (some (.ref p)) /\ findIn K (.ref C) "__setattr__" = some (some (.builtin "object.__setattr__")) /\ plainOver K C = true := by
  unfold slotAttr at h
  simp only [Bool.and_eq_true] at h
  refine el_A h ?_; (try clear h); intro nn_139 h5; obtain ⟨⟨⟨h1, h2⟩, h3⟩, h4⟩ := nn_139
  split at h3
  · rename_i p q
    simp only [Bool.and_eq_true, beq_iff_eq] at h3
    refine el_A h3 ?_; (try clear h3); intro nn_138 a5; obtain ⟨⟨⟨a1, a2⟩, a3⟩, a4⟩ := nn_138
    exact ⟨p, h1, h2, q, a1, a2, a3, a4, a5, beq_iff_eq.mp h4, h5⟩
  exact Mine.ft h3
theorem Rel.slots {H : Hid} {s : Shared} (R : Rel g c H S s) {a C d : Addr} {vs : List (Option Value)} {m : Str -> Option Value} {k : Nat} (ha : S.σ a = some (.slots C d vs)) (hd : S.σ d = some (.ns m k)) :
    ∃ sl od, InstAt s.heap a ⟨.ref C, some d, .plain, sl⟩ C (some od) /\ sl.toList.map (·.map er) = vs := by
  refine el_EAEA (R.sto a _ ha) ?_; intro ob h1 sl rfl_137 h6; subst rfl_137
  refine el_EAEEAAA (R.sto d _ hd) ?_; intro ob' h2 es n rfl_136 h3 h4 h5; subst rfl_136
  exact ⟨sl, _, ⟨h1, rfl, rfl, h2⟩, h6⟩
theorem slots_get {sl : Array (Option Value)} {i : Nat} {v : Value} (h : (sl.toList.map (·.map er))[i]? = some (some v)) : ∃ u, (sl[i]?).join = some u /\ er u = v := by
  rw [List.getElem?_map, Option.map_eq_some_iff] at h
  refine el_EA h ?_; (try clear h); intro o h1 h2
  refine el_EA (er_some h2) ?_; intro u rfl_135 e; subst rfl_135
  exact ⟨u, by rw [← Array.getElem?_toList, h1]; rfl, e⟩
theorem WGet_slot {C d : Addr} {m : Str -> Option Value} {k i : Nat} {x : Str} {vs : List (Option Value)} {v : Value} (hk : slotAttr g.K C x i = true) (ha : S.σ a = some (.slots C d vs)) (hd : S.σ d = some (.ns m k)) (hx : vs[i]? = some (some v)) (hv : handedIn v = true) (h : Q v S) : WGet g c (.ref a) x S Q := by
  intro u b hu H s R
  o_shape
  obtain rfl := er_ref hu
  refine el_EEA (R.slots ha hd) ?_; intro sl od I h6
  refine el_EAA R.led ?_; intro m' F N' hl
  refine el_EAAAAAAAAA (slotAttr_of hk) ?_; intro p k1 k2 k3 k4 k5 k6 k7 k8 k9 k10
  refine el_EA (slots_get (sl := sl) (by rw [h6]; exact hx)) ?_; intro y hy e
  exact get_slot F R.ok.k I k1 k2 k3 k4 k5 k6 hy (by rw [← handedIn_er, e]; exact hv) ⟨S, R.toks, fin h e⟩
noncomputable def putSlot (vs : List (Option Value)) (i : Nat) (v : Value) : List (Option Value) := (vs ++ List.replicate (i + 1 - vs.length) none).set i (some v)
theorem WSet_slot {C d : Addr} {m : Str -> Option Value} {k i : Nat} {x : Str} {vs : List (Option Value)} {v : Value} {Q : St Int -> Prop} (hk : slotAttr g.K C x i = true) (ha : S.σ a = some (.slots C d vs)) (hd : S.σ d = some (.ns m k)) (hz : i < 1000)
    (h : Q ⟨S.m, upd S.σ a (.slots C d (putSlot vs i v))⟩) : WSet g c (.ref a) x v S Q := by
  intro u w hu hw H s R
  o_shape
  obtain rfl := er_ref hu
  refine el_EEA (R.slots ha hd) ?_; intro sl od I h6
  refine el_EAA R.led ?_; intro m' F N' hl
  refine el_EAAAAAAAAA (slotAttr_of hk) ?_; intro p k1 k2 k3 k4 k5 k6 k7 k8 k9 k10
  refine el_EA (R.updLed I.at_ ha { (⟨.ref C, some d, .plain, sl⟩ : Obj) with slots := (sl ++ Array.replicate (i + 1 - sl.size) none).setIfInBounds i (some w) }) ?_; intro news' U back
  refine set_slot F R.ok.k N' I k9 k10 k8 k7 k6 hz rfl rfl U fun h' F' N' => ⟨⟨S.m, upd S.σ a (.slots C d (putSlot vs i v))⟩, back hl F' N' ⟨_, rfl, ?_⟩, h⟩
  have hsz : sl.size = vs.length := by rw [← h6]; simp
  unfold putSlot
  rw [← h6, ← hw, hsz]
  simp [List.map_set, hsz.symm]
end
end
section
structure KeyOk (g : Gl Int) (kv : Int -> Value) : Prop where
  is : ∀ k u, er u = kv k -> g.knd.is k u = true
  inv : ∀ k u, g.knd.is k u = true -> er u = kv k
  sc : ∀ k u, er u = kv k -> u.scannable = true
  er : ∀ k, er (kv k) = kv k
  hand : ∀ k, handedIn (kv k) = true
theorem KeyOk.inj {g : Gl Int} {kv : Int -> Value} (K : KeyOk g kv) {j k : Int} (h : kv j = kv k) : j = k :=
  g.knd.inj (kv k) j k (K.is j _ ((K.er k).trans h.symm)) (K.is k _ (K.er k))
section
variable {g : Gl Int} {c : Ac} {S S' : St Int} {Q : Value -> St Int -> Prop} {a b d : Addr} {xs ys : List Value} {kv : Int -> Value} {k : Int} {kvs : List (Int × Value)} {ep : Nat}
noncomputable def erP (p : Int × Value) : Int × Value := (p.1, er p.2)
theorem Rel.dict {H : Hid} {s : Shared} (R : Rel g c H S s) (ha : S.σ d = some (.dict kvs ep)) : ∃ ks ob, s.heap.get? d = some ob /\ s.heap.DictAt g.knd d ks ep /\ ks.map erP = kvs := by
  refine el_EAEEAAAAA (R.sto d _ ha) ?_; intro ob h1 es ks h2 h3 h4 h5 h6 h7
  exact ⟨ks, ob, h1, ⟨ob, es, h1, h2, h3, h4, h5, h6⟩, h7⟩
theorem Is.dict {s : Heap} {ks : List (Int × Value)} (h : s.DictAt g.knd d ks ep) : ∃ ob, s.get? d = some ob /\ Is g ob (.dict (ks.map erP) ep) := by
  refine el_EEAAAAA h ?_; (try clear h); intro ob es h1 h2 h3 h4 h5 h6
  exact ⟨ob, h1, es, ks, h2, h3, h4, h5, h6, rfl⟩
theorem valueAt_er {ks : List (Int × Value)} (k : Int) : valueAt (ks.map erP) k = (valueAt ks k).map er := by
  unfold valueAt
  rw [List.find?_map]
  have : ((fun kv : Int × Value => decide (kv.1 = k)) ∘ erP) = fun kv : Int × Value => decide (kv.1 = k) := rfl
  rw [this, Option.map_map, Option.map_map]
  rfl
theorem stored_er {ks : List (Int × Value)} (k : Int) (v : Value) : stored (ks.map erP) k (er v) = (stored ks k v).map erP := by
  unfold stored
  rw [List.any_map]
  have : ((fun kv : Int × Value => decide (kv.1 = k)) ∘ erP) = fun kv : Int × Value => decide (kv.1 = k) := rfl
  rw [this]
  split
  · rw [List.map_map, List.map_map]
    congr 1
    funext p
    show (if p.1 = k then (p.1, er v) else erP p) = erP (if p.1 = k then (p.1, v) else p)
    split <;> rfl
  rw [List.map_append]; rfl
theorem without_er {ks : List (Int × Value)} (k : Int) : without (ks.map erP) k = (without ks k).map erP := by
  unfold without
  rw [List.filter_map]; rfl
theorem dictAt_new (h : Heap) : (h.push { cls := .type "dict", data := .dict #[] }).DictAt g.knd h.objs.size [] 0 :=
  ⟨_, #[], Heap.get?_push_size _ rfl, ⟨rfl, rfl, rfl⟩, rfl, fun e he => by simp at he, .nil, List.nodup_nil⟩
theorem Rel.dict_put {H : Hid} {s : Shared} (R : Rel g c H S s) {o₀ : AO Int} (ha : S.σ d = some o₀) {h' : Heap} {tk : Tok} {ks : List (Int × Value)} (hm : h'.DictOf g.knd d ks) (hs : Heap.SameBut d s.heap h') :
    ∃ ep', Rel g c H ⟨S.m, upd S.σ d (.dict (ks.map erP) ep')⟩ { s with heap := h', toks := tk } := by
  refine el_E hm.dictAt ?_; intro ep' hm
  refine el_EA (Is.dict (g := g) hm) ?_; intro ob h1 h2
  exact ⟨ep', R.put (tk := tk) hs.extBut ha h1 h2⟩
theorem WE_DictNil {pos : Pos} (h : ∀ d, S.σ d = none -> (d == sysModules) = false -> Q (.ref d) ⟨S.m, upd S.σ d (.dict [] 0)⟩) : WE g c (.Dict [] [] pos) S Q := by
  intro H s R
  o_shape
  refine el_EAA R.led ?_; intro m F N' hl
  refine el_EA (Is.dict (g := g) (dictAt_new (g := g) s.heap)) ?_; intro ob h1 h2
  refine el_A (R.add (tk := s.toks) (h' := s.heap.push { cls := .type "dict", data := .dict #[] }) (o := .dict [] 0) (Heap.ExtBut.push (Heap.ExtBut.refl _ _) _) (size_none _) h1 h2) ?_; intro hn R₂
  exact wpAny_Dict_empty ⟨_, R₂, h _ hn (F.notModules (modules_low R.ok.lim))⟩
theorem WItem_dict {v : Value} (K : KeyOk g kv) (ha : S.σ d = some (.dict kvs ep)) (hv : valueAt kvs k = some v) (h : Q v S) : WItem g c (.ref d) (kv k) S Q := by
  intro u w hu hw H s R
  o_shape
  obtain rfl := er_ref hu
  refine el_EEAA (R.dict ha) ?_; intro ks ob h1 h2 h3
  rw [← h3, valueAt_er] at hv
  refine el_EA (er_some hv) ?_; intro y hy e
  exact wpAny_getItem_of (K.is k w hw) h2.dictOf.mapOf hy ⟨S, R.toks, fin h e⟩
theorem WSub_dict {o i : Expr} {iv : Value} (ha : S.σ d = some (.dict kvs ep)) (hs : ∃ ops : Value -> Value -> List Value, ∀ o' i', subscripted i false o' i' = operate (ops o' i') (getItem o' i')) (h : WItem g c (.ref d) iv S Q) : WV2 g c (subscriptTail o i) (.ref d) iv S Q :=
  WSub_of slot_dict_getitem.lookup (fun H s u R hu => by
    obtain rfl := er_ref hu
    refine el_EEAA (R.dict ha) ?_; intro ks ob h1 h2 h3
    exact h2.dictOf.typeIs) hs h
theorem WSetItem_dict {v : Value} {Q : St Int -> Prop} (K : KeyOk g kv) (ha : S.σ d = some (.dict kvs ep)) (hz : kvs.length ≤ sizeLine) (h : ∀ ep', Q ⟨S.m, upd S.σ d (.dict (stored kvs k v) ep')⟩) : WSetItem g c (.ref d) (kv k) v S Q := by
  intro u j w hu hj hw H s R
  o_shape
  obtain rfl := er_ref hu
  refine el_EEAA (R.dict ha) ?_; intro ks ob h1 h2 h3
  refine wpAny_setItem_pairs (hsz := by rw [← List.length_map (f := erP), h3]; exact hz) (K.is k j hj) h2.dictOf fun h' hmm hs => ?_
  refine el_E (R.dict_put (tk := s.toks + 1) ha hmm hs) ?_; intro ep' R'
  rw [← stored_er, h3, hw] at R'
  exact ⟨_, R', h ep'⟩
theorem WCmp_inD (K : KeyOk g kv) (ha : S.σ d = some (.dict kvs ep)) (lo : (d == sysModules) = false) (h : Q (.bool (valueAt kvs k).isSome) S) : WCmp g c .In (kv k) (.ref d) S Q := by
  intro u v hu hv H s R
  o_shape
  obtain rfl := er_ref hv
  refine el_EEAA (R.dict ha) ?_; intro ks ob h1 h2 h3
  refine wpAny_in_of (K.is k u hu) lo h2.dictOf.mapOf ⟨S, R.toks, ?_⟩
  rw [← h3, valueAt_er, Option.isSome_map] at h
  exact h
theorem WGM_dict {name : Str} {id : String} (slot : Slot "dict" name id) (ty : typeOf (.builtin id) = pure (.type "method_descriptor")) (ha : S.σ d = some (.dict kvs ep)) {Q : Value -> List Value -> St Int -> Prop} (h : Q (.builtin id) [.ref d] S) : WGM g c (.ref d) name S Q := by
  intro u pl hu H s R
  o_shape
  obtain rfl := er_ref hu
  refine el_EEAA (R.dict ha) ?_; intro ks ob h1 h2 h3
  exact getMethod_builtin h2.dictOf.typeIs PySem.F.plainAttrs_dict slot ty h2.dictOf.mapOf.noDict ⟨S, R, h⟩
theorem WC_dictGet (K : KeyOk g kv) (ha : S.σ d = some (.dict kvs ep)) (lo : (d == sysModules) = false) (h : Q ((valueAt kvs k).getD .none) S) : WC g c (.builtin "dict.get") [.ref d, kv k] S Q := by
  intro us hus H s R
  o_shape
  refine el_EEAA (map2 hus) ?_; intro u v rfl_150 hu hv; subst rfl_150
  obtain rfl := er_ref hu
  refine el_EEAA (R.dict ha) ?_; intro ks ob h1 h2 h3
  have hD := h2.dictOf
  refine call_meetsIn PySem.F.slot_dict_get hD.typeIs PySem.F.entry_dict_get (PySem.F.args_dict_get_2 _ _) (meets_dict_get g.knd d (K.is k v hv) lo) ⟨_, hD.mapOf, ?_⟩
  refine ⟨S, R.toks, ?_⟩
  rw [← h3, valueAt_er] at h
  cases q : valueAt ks k with
  | none => rw [q] at h; exact h
  | some y => rw [q] at h; exact h
noncomputable def valsO (d : Addr) : AO Int := .raw fun ob => ob = { cls := .type "dict_values", data := .fields #[.ref d] }
theorem WC_values (ha : S.σ d = some (.dict kvs ep)) (lo : (d == sysModules) = false) (h : ∀ r, S.σ r = none -> Q (.ref r) ⟨S.m, upd S.σ r (valsO d)⟩) : WC g c (.builtin "dict.values") [.ref d] S Q := by
  intro us hus H s R
  o_shape
  refine el_EA (map1 hus) ?_; intro u rfl_149 hu; subst rfl_149
  obtain rfl := er_ref hu
  refine el_EEAA (R.dict ha) ?_; intro ks ob h1 h2 h3
  have hD := h2.dictOf
  refine el_A (R.add (tk := s.toks) (h' := s.heap.push { cls := .type "dict_values", data := .fields #[.ref d] }) (o := valsO d) (Heap.ExtBut.push (Heap.ExtBut.refl _ _) _) (size_none _) (Heap.get?_push_size _ rfl) rfl) ?_; intro hn R₂
  exact call_meetsIn PySem.F.slot_dict_values hD.typeIs PySem.F.entry_dict_values (PySem.F.args_dict_values_1 _) (meets_dict_values g.knd d lo) ⟨⟨ks, hD⟩, ⟨_, R₂, h _ hn⟩⟩
theorem erP_get {ks : List (Int × Value)} {i : Nat} {k : Int} {v : Value} (h : (ks.map erP)[i]? = some (k, v)) : ∃ u, ks[i]? = some (k, u) /\ er u = v := by
  rw [List.getElem?_map, Option.map_eq_some_iff] at h
  refine el_EA h ?_; (try clear h); intro nn_148 h1 h2; obtain ⟨k', u⟩ := nn_148
  cases h2
  exact ⟨u, h1, rfl⟩
theorem erP_none {ks : List (Int × Value)} {i : Nat} (h : (ks.map erP)[i]? = none) : ks[i]? = none := by
  rwa [List.getElem?_map, Option.map_eq_none_iff] at h
noncomputable def itKeys (g : Gl Int) {kv : Int -> Value} (K : KeyOk g kv) (d : Addr) (kvs : List (Int × Value)) (ep : Nat) : ItSpec g (kvs.map fun p => kv p.1) (fun S => S.σ d = some (.dict kvs ep)) where
  St_ i ob := ob.cls = .type "dict_keyiterator" /\ ob.data = .fields #[.ref d, .int i 0, .int kvs.length 0, .int ep 0]
  noCell i ob u h e := by rw [h.2] at e; exact (nomatch e)
  next c H S s it i ob x hH hS R ok hx := by
    refine el_EEAA (R.dict ok) ?_; intro ks ob' h1 h2 h3
    rw [List.getElem?_map, Option.map_eq_some_iff] at hx
    refine el_EA hx ?_; (try clear hx); intro nn_146 hx rfl_147; obtain ⟨k, v⟩ := nn_146; subst rfl_147
    have hl : ks.length = kvs.length := by rw [← h3, List.length_map]
    rw [← h3] at hx
    refine el_EA (erP_get hx) ?_; intro u hx _
    refine wpAny_pyNext_dict_item (it := it) (i := i) ⟨ob, R.hid _ _ hH, hS.1, by rw [hl]; exact hS.2⟩ h2 hx fun key h' hk hit hs => ?_
    refine el_EAA hit ?_; (try clear hit); intro ob' g1 g2 g3
    exact ⟨key, ob', rfl, K.inv k key hk, ⟨g2, by rw [hl] at g3; exact g3⟩, R.turn (tk := s.toks) hH hs.extBut g1 fun u e => by rw [hS.2] at e; exact (nomatch e)⟩
  done c H S s it i ob hH hS R ok hx := by
    refine el_EEAA (R.dict ok) ?_; intro ks ob' h1 h2 h3
    have hl : ks.length = kvs.length := by rw [← h3, List.length_map]
    have hx' : ks[i]? = none := by
      rw [List.getElem?_map, Option.map_eq_none_iff, ← h3] at hx
      exact erP_none hx
    exact wpAny_pyNext_dict_end R.ac.hd ⟨ob, R.hid _ _ hH, hS.1, by rw [hl]; exact hS.2⟩ h2 hx' fun h' hs => ⟨rfl, R.lose (tk := s.toks) hH (fun u e => by rw [hS.2] at e; exact (nomatch e)) hs⟩
  lets c H S s it i ob t v hH hS R := lets_plain (R.hid _ _ hH) (by unfold plainIter; rw [hS.1]; rfl) ⟨ob, hS, by rw [H.put_same hH]; exact R⟩
  again c H S s it i ob P E hH hS R h := by
    have hT : s.TypeIs (.ref it) "dict_keyiterator" := ⟨ob, R.hid _ _ hH, hS.1⟩
    refine wpAny_pyIter_slot hT PySem.F.slot_dict_keyiterator_iter (wpAny_call_entry PySem.F.slot_dict_keyiterator_iter hT PySem.F.entry_dict_keyiterator_iter ?_ (PySem.F.args_dict_keyiterator_iter_1 _))
    show wpAny _ _ (ret (.ref it)) _ _ s
    exact wpAny_pure ⟨_, rfl, "dict_keyiterator", _, hT, PySem.F.slot_dict_keyiterator_next.lookup, h⟩
theorem iter_dict (K : KeyOk g kv) (ha : S.σ d = some (.dict kvs ep)) (lo : (d == sysModules) = false) : Iterable g c (.ref d) (kvs.map fun p => kv p.1) (fun S => S.σ d = some (.dict kvs ep)) S := by
  intro H s u hu R
  obtain rfl := er_ref hu
  refine el_EEAA (R.dict ha) ?_; intro ks ob' h1 h2 h3
  have hl : ks.length = kvs.length := by rw [← h3, List.length_map]
  exact wpAny_pyIter_dict lo h2 ⟨_, _, itKeys g K d kvs ep, rfl, R.free_hid (size_none _), ⟨rfl, by rw [hl]; rfl⟩, R.hide (tk := s.toks) (Heap.ExtBut.push (Heap.ExtBut.refl _ _) _) (size_none _) (Heap.get?_push_size _ rfl)⟩
noncomputable def itVals (g : Gl Int) (d : Addr) (kvs : List (Int × Value)) (ep : Nat) : ItSpec g (kvs.map fun p => p.2) (fun S => S.σ d = some (.dict kvs ep)) where
  St_ i ob := ob.cls = .type "dict_valueiterator" /\ ob.data = .fields #[.ref d, .int i 0, .int kvs.length 0, .int ep 0]
  noCell i ob u h e := by rw [h.2] at e; exact (nomatch e)
  next c H S s it i ob x hH hS R ok hx := by
    refine el_EEAA (R.dict ok) ?_; intro ks ob' h1 h2 h3
    rw [List.getElem?_map, Option.map_eq_some_iff] at hx
    refine el_EA hx ?_; (try clear hx); intro nn_144 hx rfl_145; obtain ⟨k, v⟩ := nn_144; subst rfl_145
    have hl : ks.length = kvs.length := by rw [← h3, List.length_map]
    rw [← h3] at hx
    refine el_EA (erP_get hx) ?_; intro u hx hu
    refine wpAny_pyNext_values_item (it := it) (i := i) ⟨ob, R.hid _ _ hH, hS.1, by rw [hl]; exact hS.2⟩ h2 hx fun h' hit hs => ?_
    refine el_EAA hit ?_; (try clear hit); intro ob' g1 g2 g3
    exact ⟨u, ob', rfl, hu, ⟨g2, by rw [hl] at g3; exact g3⟩, R.turn (tk := s.toks) hH hs.extBut g1 fun u e => by rw [hS.2] at e; exact (nomatch e)⟩
  done c H S s it i ob hH hS R ok hx := by
    refine el_EEAA (R.dict ok) ?_; intro ks ob' h1 h2 h3
    have hl : ks.length = kvs.length := by rw [← h3, List.length_map]
    have hx' : ks[i]? = none := by
      rw [List.getElem?_map, Option.map_eq_none_iff, ← h3] at hx
      exact erP_none hx
    exact wpAny_pyNext_values_end R.ac.hd ⟨ob, R.hid _ _ hH, hS.1, by rw [hl]; exact hS.2⟩ h2 hx' fun h' hs => ⟨rfl, R.lose (tk := s.toks) hH (fun u e => by rw [hS.2] at e; exact (nomatch e)) hs⟩
  lets c H S s it i ob t v hH hS R := lets_plain (R.hid _ _ hH) (by unfold plainIter; rw [hS.1]; rfl) ⟨ob, hS, by rw [H.put_same hH]; exact R⟩
  again c H S s it i ob P E hH hS R h := by
    have hT : s.TypeIs (.ref it) "dict_valueiterator" := ⟨ob, R.hid _ _ hH, hS.1⟩
    refine wpAny_pyIter_slot hT PySem.F.slot_dict_valueiterator_iter (wpAny_call_entry PySem.F.slot_dict_valueiterator_iter hT entry_dict_valueiterator_iter ?_ (PySem.F.args_dict_valueiterator_iter_1 _))
    show wpAny _ _ (ret (.ref it)) _ _ s
    exact wpAny_pure ⟨_, rfl, "dict_valueiterator", _, hT, PySem.F.slot_dict_valueiterator_next.lookup, h⟩
theorem iter_vals {r : Addr} (hr : S.σ r = some (valsO d)) (ha : S.σ d = some (.dict kvs ep)) : Iterable g c (.ref r) (kvs.map fun p => p.2) (fun S => S.σ d = some (.dict kvs ep)) S := by
  intro H s u hu R
  obtain rfl := er_ref hu
  refine el_EEAA (R.dict ha) ?_; intro ks ob' h1 h2 h3
  refine el_EA (R.raw hr) ?_; intro obv h4 h5
  subst h5
  have hl : ks.length = kvs.length := by rw [← h3, List.length_map]
  exact wpAny_pyIter_values ⟨_, h4, rfl, rfl⟩ h2 ⟨_, _, itVals g d kvs ep, rfl, R.free_hid (size_none _), ⟨rfl, by rw [hl]; rfl⟩, R.hide (tk := s.toks) (Heap.ExtBut.push (Heap.ExtBut.refl _ _) _) (size_none _) (Heap.get?_push_size _ rfl)⟩
variable {P : Int -> Bool} {n : Nat}
theorem Rel.set {H : Hid} {s : Shared} (R : Rel g c H S s) (ha : S.σ a = some (.set P n)) : s.heap.SetOf g.knd a P n := by
  refine el_EAEEE (R.sto a _ ha) ?_; intro ob h1 es ep t h2
  exact ⟨ob, es, ep, t, h1, h2⟩
theorem WC_set0 (h : ∀ r, S.σ r = none -> Q (.ref r) ⟨S.m, upd S.σ r (.set (fun _ => false) 0)⟩) : WC g c (.type "set") [] S Q := by
  intro us hus H s R
  o_shape
  obtain rfl := map0 hus
  refine call_set_0 fun led => ?_
  refine el_A (R.add (tk := s.toks) (h' := s.heap.push { cls := .type "set", dict := none, data := .set #[] 0 (.fresh 0 0 led) }) (o := .set (fun _ => false) 0) (Heap.ExtBut.push (Heap.ExtBut.refl _ _) _) (size_none _) (Heap.get?_push_size _ rfl)
    (by (refine el_AEEEAAAA ((setObjOf_fresh (knd := g.knd) led)) ?_; intro h0 es ep t a1 a2 a3 a4 a5); exact ⟨es, ep, t, h0, a1, a2, a3, by rw [a4]; decide, a5, a4⟩)) ?_
  intro hn R₂
  exact ⟨_, R₂, h _ hn⟩
theorem WCmp_inS (K : KeyOk g kv) (ha : S.σ a = some (.set P n)) (h : Q (.bool (P k)) S) : WCmp g c .In (kv k) (.ref a) S Q := by
  intro u v hu hv H s R
  o_shape
  obtain rfl := er_ref hv
  exact wpAny_inSet_of (K.is k u hu) (K.sc k u hu) (R.set ha) ⟨S, R.toks, h⟩
theorem WGM_setAdd (ha : S.σ a = some (.set P n)) {Q : Value -> List Value -> St Int -> Prop} (h : Q (.builtin "set.add") [.ref a] S) : WGM g c (.ref a) (Str.ofString "add") S Q := by
  intro u pl hu H s R
  o_shape
  obtain rfl := er_ref hu
  exact getMethod_set_add (R.set ha) ⟨S, R, h⟩
theorem WC_setAdd (K : KeyOk g kv) (ha : S.σ a = some (.set P n)) (hz : n + 1 < scanBound) (h : Q .none ⟨S.m, upd S.σ a (.set (fun k' => P k' || decide (k' = k)) (if P k then n else n + 1))⟩) : WC g c (.builtin "set.add") [.ref a, kv k] S Q := by
  intro us hus H s R
  o_shape
  refine el_EEAA (map2 hus) ?_; intro u v rfl_143 hu hv; subst rfl_143
  obtain rfl := er_ref hu
  refine call_set_add (K.is k v hv) (K.sc k v hv) (R.set ha) hz fun h' hs hS => ?_
  refine el_EEEEA hS ?_; (try clear hS); intro ob es ep t h1 h2
  exact ⟨_, R.put (tk := s.toks + 1) (o := .set (fun k' => P k' || decide (k' = k)) (if P k then n else n + 1)) hs.extBut ha h1 ⟨es, ep, t, h2⟩, h⟩
end
end
section
section
variable {g : Gl Int} {c : Ac} {S S' : St Int} {Q : Value -> St Int -> Prop} {a b : Addr} {xs ys : List Value}
theorem Ac.Deep.in1 {n : Nat} (hd : c.Deep (n + 1)) : Ac.Deep ⟨c.A.in1, c.env, c.ext⟩ n := by
  unfold Ac.Deep at *
  simp only [Around.in1_depth, Around.in1_units]
  lia
theorem WD_defB {f : Addr} {as : List Value} {body : List Stmt} {scope : Scope} {fd : FuncData} {n : Nat} (hd : c.Deep (n + 1)) (F : FnIs g.K f body scope fd) (hsc : scopeOk scope = true) (Post : List (Str × Value) -> (Addr -> Option (AO Int)) -> Prop)
    (hbind : ∀ us, us.map er = as -> WM g ⟨c.A.in1, c.env, c.ext⟩ (bindArgs fd ⟨us, []⟩) S fun bs S₁ => S₁.m = S.m /\ Post (bs.map fun p => (p.1, er p.2)) S₁.σ)
    (hkind : ∀ B σ, Post B σ -> (B.all fun y => scope.names.lookup y.1 == some .local || scope.names.lookup y.1 == some .cell) = true)
    (h : ∀ B σ, Post B σ -> ∀ c' : Ac, c'.env.scope = scope -> c'.ext = (fun _ => false) -> c'.Deep n -> WXs g c' body ⟨bindM B fun _ => none, σ⟩ fun fl S' => Q (retV fl) ⟨S.m, S'.σ⟩) : WD g c (.ref f) as S Q := by
  intro us hus H s R
  o_shape
  refine el_EEE F.at_ ?_; intro oc od osl ho
  obtain ⟨k1, k2, k3⟩ : scope.kind = .function /\ scope.isCoroutine = false /\ scope.isGenerator = false := by
    simp only [scopeOk, Bool.and_eq_true, beq_iff_eq, Bool.not_eq_true'] at hsc
    exact ⟨hsc.1.1.1, hsc.1.1.2, hsc.1.2⟩
  have hfs := F.scope
  have hd1 : Ac.Deep ⟨c.A.in1, c.env, c.ext⟩ 0 := (hd.in1).less (Nat.zero_le _)
  refine codeAny_call_function R.room (R.in_K _ _ ho) rfl (by rw [hfs]; exact k2) (by rw [hfs]; exact k3) F.body (codeRec_of R.in_K F.cd) ?_
  refine goK (hbind us hus H s (R.around (R.ac.around R.ac.hd hd1))) (fun bs s₁ S₁ R₁' q_ => ?_)
  refine el_A q_ ?_; clear q_; intro hm post
  have R₁ : Rel g c H S₁ s₁ := R₁'.unaround R.ac
  rw [F.clo]
  refine wpAny_newFunctionEnv_cells (by rw [hfs]; exact k1) (fun y hy => ?_) fun env he s' x => ?_
  · rw [hfs]
    have := List.all_eq_true.mp (hkind _ _ post) (y.1, er y.2) (List.mem_map.mpr ⟨y, hy, rfl⟩)
    rcases Bool.or_eq_true_iff.mp this with q | q
    · exact .inl (by simpa using q)
    have q' : scope.names.lookup y.1 = some .cell := by simpa using q
    exact .inr ⟨q', cellsFrom_some _ _ _ (.inl q')⟩
  subst he
  refine el_EA (enter R₁ hd hsc hfs F.gl F.bl (f := f) (bs := bs) x) ?_; intro H' R' back
  refine ⟨R₁.nolimit.keeps x.toInCall.keep, codeAny_func ?_⟩
  refine goK (h _ _ post ⟨c.A.deeper (callEnvC fd s₁.heap.objs.size f), callEnvC fd s₁.heap.objs.size f, fun _ => false⟩ hfs rfl ?_ H' s' R') (fun fl s'' S' R₂ q => ?_)
  · unfold Ac.Deep at hd ⊢
    simp only [Around.deeper]
    exact om01 ‹_›
  refine ⟨⟨S.m, S'.σ⟩, ?_, ?_⟩
  · have := back S' s'' R₂
    rwa [hm] at this
  cases fl <;> exact q
theorem WD_defP {f : Addr} {as : List Value} {B : List (Str × Value)} {body : List Stmt} {scope : Scope} {fd : FuncData} {n : Nat} (hd : c.Deep (n + 1)) (F : FnIs g.K f body scope fd) (hsc : scopeOk scope = true)
    (hbind : ∀ us, us.map er = as -> ∃ bs, peek g.K ⟨g.prog, g.w.params⟩ (bindArgs fd ⟨us, []⟩) = some bs /\ bs.map (fun p => (p.1, er p.2)) = B)
    (hkind : (B.all fun y => scope.names.lookup y.1 == some .local || scope.names.lookup y.1 == some .cell) = true)
    (h : ∀ c' : Ac, c'.env.scope = scope -> c'.ext = (fun _ => false) -> c'.Deep n -> WXs g c' body ⟨bindM B fun _ => none, S.σ⟩ fun fl S' => Q (retV fl) ⟨S.m, S'.σ⟩) : WD g c (.ref f) as S Q := by
  refine WD_defB hd F hsc (fun B' σ => B' = B /\ σ = S.σ) (fun us hus H s R => ?_) (fun B' σ e => by rw [e.1]; exact hkind) (fun B' σ e => by rw [e.1, e.2]; exact h)
  refine el_EA (hbind us hus) ?_; intro bs h1 h2
  exact (Looks.of_peek (M := model g.prog g.w) R.in_K h1).here ⟨S, R, rfl, h2, rfl⟩
theorem WD_defS {f : Addr} {as restE : List Value} {B : Addr -> List (Str × Value)} {body : List Stmt} {scope : Scope} {fd : FuncData} {n : Nat} (hd : c.Deep (n + 1)) (F : FnIs g.K f body scope fd) (hsc : scopeOk scope = true)
    (hbind : ∀ us, us.map er = as -> ∃ (rest : List Value) (bs : Addr -> List (Str × Value)) (gg : Addr -> Option (List (Str × Value))), peek1 g.K ⟨g.prog, g.w.params⟩ (bindArgs fd ⟨us, []⟩) = some (({ cls := .type "tuple", data := .seq rest.toArray } : Obj), gg) /\ (∀ D, gg D = some (bs D)) /\ rest.map er = restE /\ ∀ D, (bs D).map (fun p => (p.1, er p.2)) = B D)
    (hkind : ∀ D, ((B D).all fun y => scope.names.lookup y.1 == some .local || scope.names.lookup y.1 == some .cell) = true)
    (h : ∀ D, S.σ D = none -> ∀ c' : Ac, c'.env.scope = scope -> c'.ext = (fun _ => false) -> c'.Deep n -> WXs g c' body ⟨bindM (B D) fun _ => none, upd S.σ D (.tup restE)⟩ fun fl S' => Q (retV fl) ⟨S.m, S'.σ⟩) : WD g c (.ref f) as S Q := by
  refine WD_defB hd F hsc (fun B' σ => ∃ D, S.σ D = none /\ B' = B D /\ σ = upd S.σ D (.tup restE)) (fun us hus H s R => ?_) (fun B' σ ⟨D, _, e, _⟩ => by rw [e]; exact hkind D) (fun B' σ ⟨D, hD, e, e'⟩ => by rw [e, e']; exact h D hD)
  refine el_EEEAAA (hbind us hus) ?_; intro rest bs gg h1 h2 h3 h4
  refine el_EAA R.led ?_; intro m F' N' hl
  refine wp_of_peek1 F' N' R.in_K rfl (r := bs) (fun D h' F'' N'' l => ?_) _ gg h1 h2
  have hDn : s.heap.get? D = none := by
    cases z : s.heap.get? D with
    | none => rfl
    | some o =>
      exfalso
      have := (N'' _ (.head _)).2
      by_cases q : D = c.env.locals
      · exact this.1 q
      exact absurd (l (D, o) (mem_allobjs.mpr ⟨⟨q, this.2⟩, z⟩)) (Nat.lt_irrefl _)
  refine el_A (R.backNew (tk := s.toks) (a := D) (o := .tup restE) hl F'' N'' hDn (Is.tup (by simpa using h3))) ?_; intro hn R₂
  exact ⟨_, R₂, rfl, D, hn, h4 D, rfl⟩
end
end
section
open Sem (wp)
namespace LI
theorem slot_ga : Slot "list_iterator" "__getattribute__" "object.__getattribute__" :=
  .of (owner := "object") (n := "__getattribute__") (by rw [typeLookup_type, builtinLookup_eq_fast]; kernel_rfl) (by decide +kernel) (by decide +kernel) (by decide +kernel)
    (by first | exact .inl (by decide +kernel) | exact .inr (by decide +kernel)) (by rw [isSubtype_type]; kernel_rfl)
theorem lk_next : typeLookup (.type "list_iterator") "__next__" = pure (some (.builtin "list_iterator.__next__")) := by rw [typeLookup_type, builtinLookup_eq_fast]; kernel_rfl
theorem typeOf_next : typeOf (.builtin "list_iterator.__next__") = pure (.type "wrapper_descriptor") := by show builtinType _ = _; rw [builtinType_eq_fast]; kernel_rfl
theorem slot_wd_get : Slot "wrapper_descriptor" "__get__" "wrapper_descriptor.__get__" :=
  .of (owner := "wrapper_descriptor") (n := "__get__") (by rw [typeLookup_type, builtinLookup_eq_fast]; kernel_rfl) (by decide +kernel) (by decide +kernel) (by decide +kernel)
    (by first | exact .inl (by decide +kernel) | exact .inr (by decide +kernel)) (by rw [isSubtype_type]; kernel_rfl)
theorem entry_wd_get : entryFor table "wrapper_descriptor.__get__" = some Builtin.«wrapper_descriptor.__get__» := entryFor_of_tree (by kernel_rfl)
theorem args_wd_get (a b c : Value) : argsOk "wrapper_descriptor.__get__" ⟨[a, b, c], []⟩ := by unfold argsOk; kernel_rfl
theorem lk_wd_set : typeLookup (.type "wrapper_descriptor") "__set__" = pure none := by rw [typeLookup_type, builtinLookup_eq_fast]; kernel_rfl
theorem lk_wd_del : typeLookup (.type "wrapper_descriptor") "__delete__" = pure none := by rw [typeLookup_type, builtinLookup_eq_fast]; kernel_rfl
theorem sub_owner : isSubtype (.type "list_iterator") (.type (".".intercalate ("list_iterator.__next__".cutAt '.').dropLast)) = pure true := by
  have e0 : "list_iterator.__next__".cutAt '.' = ["list_iterator", "__next__"] := by first | rfl | decide +kernel
  rw [e0, isSubtype_type]; kernel_rfl
theorem entry_ga : entryFor table "object.__getattribute__" = some Builtin.«object.__getattribute__» := entryFor_of_tree (by kernel_rfl)
theorem args_ga (a b : Value) : argsOk "object.__getattribute__" ⟨[a, b], []⟩ := by unfold argsOk; kernel_rfl
end LI
noncomputable abbrev mwObj (it : Addr) : Obj := { cls := .type "method-wrapper", data := .fields #[.builtin "list_iterator.__next__", .ref it] }
section
variable {prog : Program} {w : World} {A : Around} {E : Value -> Shared -> Prop} {h : Heap} {g : Array GenState} {d : Drawn} {t : Nat} {os : OsState} {a : Addr} {vs : Array Value}
theorem next_get {R : Result -> Shared -> Prop} (hx : h.get? a = some { cls := .type "list_iterator", data := .fields vs }) (hq : R (.ok (.ret (.ref h.objs.size))) ⟨h.push (mwObj a), g, d, t, os⟩) :
    codeAny (model prog w) A (.call (.builtin "wrapper_descriptor.__get__") ⟨[.builtin "list_iterator.__next__", .ref a, .type "list_iterator"], []⟩) R ⟨h, g, d, t, os⟩ := by
  have hT : (⟨h, g, d, t, os⟩ : Shared).TypeIs (.ref a) "list_iterator" := ⟨_, hx, rfl⟩
  have hT5 : (⟨h, g, d, t, os⟩ : Shared).TypeIs (.builtin "list_iterator.__next__") "wrapper_descriptor" := LI.typeOf_next
  refine codeAny_call_builtin LI.slot_wd_get.plain LI.entry_wd_get (LI.slot_wd_get.check _ _ _ _ _ _ _ _ hT5 (LI.args_wd_get _ _ _) ?_)
  have L0 : Looks (model prog w) h (typeOf (.ref a)) (.type "list_iterator") := (Looks.ld hx).andThen .now
  have f8 := LI.sub_owner
  repeat (any_goals (first | assumption | wp_step))
theorem next_entry {tk : Tok} {Q : Fin -> Shared -> Prop} (hx : h.get? a = some { cls := .type "list_iterator", data := .fields vs }) (hq : Q (.done (.ret (.ref h.objs.size))) ⟨h.push (mwObj a), g, d, t, os⟩) :
    wpAny (model prog w) A (Builtin.«object.__getattribute__» ⟨[.ref a, .str "__next__" tk], []⟩) Q E ⟨h, g, d, t, os⟩ := by
  have hT : (⟨h, g, d, t, os⟩ : Shared).TypeIs (.ref a) "list_iterator" := ⟨_, hx, rfl⟩
  have hT5 : (⟨h, g, d, t, os⟩ : Shared).TypeIs (.builtin "list_iterator.__next__") "wrapper_descriptor" := LI.typeOf_next
  have f4 := LI.lk_next
  have f5 := LI.typeOf_next
  have f6 := LI.slot_wd_get.lookup
  have f7 := LI.lk_wd_set
  have f8 := LI.lk_wd_del
  repeat (any_goals (first | assumption | wp_step))
  refine next_get hx ?_
  repeat (any_goals (first | assumption | wp_step))
theorem next_by {tk : Tok} {b : Bool} {Q : Value -> Shared -> Prop} (hx : h.get? a = some { cls := .type "list_iterator", data := .fields vs }) (hq : Q (.ref h.objs.size) ⟨h.push (mwObj a), g, d, t, os⟩) :
    wpAny (model prog w) A (getAttrBy (.ref a) (.str "__next__" tk) true b) Q E ⟨h, g, d, t, os⟩ := by
  have hT : (⟨h, g, d, t, os⟩ : Shared).TypeIs (.ref a) "list_iterator" := ⟨_, hx, rfl⟩
  have f2 := LI.slot_ga.lookup
  have f3 := LI.slot_ga.bind (.ref a)
  repeat (any_goals (first | assumption | wp_step))
  rw [show (b && onTheHeap (Value.builtin "object.__getattribute__")) = false by cases b <;> rfl, if_neg Bool.false_ne_true]
  unfold boundAndCalled
  repeat (any_goals (first | assumption | wp_step))
  refine codeAny_call_builtin LI.slot_ga.plain LI.entry_ga (LI.slot_ga.check _ _ _ _ _ _ _ _ hT (LI.args_ga _ _) (next_entry hx ?_))
  repeat (any_goals (first | assumption | wp_step))
theorem mw_call {p it : Addr} {s : Shared} {R : Result -> Shared -> Prop} (ho : s.heap.get? p = some (mwObj it)) (h : codeAny (model prog w) A (.builtin "list_iterator.__next__" ⟨[.ref it], []⟩) R s) :
    codeAny (model prog w) A (.call (.ref p) ⟨[], []⟩) R s := by
  refine codeAny_of_tree ?_
  show wpAny _ _ (callAny (.ref p) _) _ _ _
  refine nd_load ho ?_
  show wpAny _ _ (checkBoundCall "list_iterator.__next__" ⟨[.ref it], []⟩ >>= fun _ => again (.builtin "list_iterator.__next__" ⟨[.ref it], []⟩)) _ _ _
  refine wpAny_bind (m := checkBoundCall "list_iterator.__next__" ⟨[.ref it], []⟩) (wpAny_of_eq (a := ()) (by kernel_rfl) ?_)
  exact wpAny_pure ⟨Code.quiet_builtin _ (by decide +kernel), h⟩
theorem next_item {s : Shared} {it l : Addr} {i : Nat} {items} {x : Value} {Q : Fin -> Shared -> Prop} (hit : s.heap.IsListIter it l i) (hl : s.heap.IsList l items) (hx : items[i]? = some x)
    (hQ : ∀ h', h'.IsListIter it l (i + 1) -> Heap.SameBut it s.heap h' -> Q (.done (.ret x)) { s with heap := h' }) : wpAny (model prog w) A (Builtin.«list_iterator.__next__» ⟨[.ref it], []⟩) Q E s := by
  refine el_EAA (id hit) ?_; intro o ho hc hd
  refine el_EAAE hl ?_; (try clear hl); intro ol hol _ nl hdl
  show wpAny _ _ (field (.ref it) 0 >>= _) _ _ s
  refine wpAny_bind (wpAny_field ho hd (x := .ref l) rfl ?_)
  show wpAny _ _ (if (Value.ref l == Value.none) = true then _ else _) _ _ s
  rw [if_neg (show ¬ ((Value.ref l == Value.none) = true) from Bool.false_ne_true)]
  show wpAny _ _ (field (.ref it) 1 >>= _) _ _ s
  refine wpAny_bind (wpAny_field ho hd (x := .int i 0) rfl ?_)
  show wpAny _ _ (seqItems? (.ref l) >>= _) _ _ s
  refine wpAny_bind (wpAny_seqItems hol hdl ?_)
  simp only [Int.toNat_natCast, hx]
  refine wpAny_bind (wpAny_setField ho hd (by simp) (wpAny_pure (hQ _ ?_ (Heap.SameBut.update ..))))
  exact ⟨_, Heap.get?_update_self _ ho (Obj.isFreed_of_fields (Obj.data_mapFields hd _)), (Obj.cls_mapFields ..).trans hc, by
    rw [Obj.data_mapFields hd]; simp [rawInt]⟩
theorem next_end {s : Shared} {it l : Addr} {i : Nat} {items} {Q : Fin -> Shared -> Prop} (hh : A.handled = none) (hit : s.heap.IsListIter it l i) (hl : s.heap.IsList l items) (hx : items[i]? = none)
    (hE : ∀ h' e vs, (∀ b o, b ≠ it -> s.heap.get? b = some o -> h'.get? b = some o) -> (∃ ob, h'.get? it = some ob) -> s.heap.get? e = none -> h'.get? e = some { cls := .type "StopIteration", data := .fields vs } -> vs[1]? = some .none -> E (.ref e) { s with heap := h' }) :
    wpAny (model prog w) A (Builtin.«list_iterator.__next__» ⟨[.ref it], []⟩) Q E s := by
  refine el_EAA (id hit) ?_; intro o ho hc hd
  refine el_EAAE hl ?_; (try clear hl); intro ol hol _ nl hdl
  show wpAny _ _ (field (.ref it) 0 >>= _) _ _ s
  refine wpAny_bind (wpAny_field ho hd (x := .ref l) rfl ?_)
  show wpAny _ _ (if (Value.ref l == Value.none) = true then _ else _) _ _ s
  rw [if_neg (show ¬ ((Value.ref l == Value.none) = true) from Bool.false_ne_true)]
  show wpAny _ _ (field (.ref it) 1 >>= _) _ _ s
  refine wpAny_bind (wpAny_field ho hd (x := .int i 0) rfl ?_)
  show wpAny _ _ (seqItems? (.ref l) >>= _) _ _ s
  refine wpAny_bind (wpAny_seqItems hol hdl ?_)
  simp only [Int.toNat_natCast, hx]
  refine wpAny_bind (wpAny_rule (wpAny_bind (wpAny_setField ho hd (by simp) ?_)))
  show wpAny _ _ (newExc (.type "StopIteration") [] >>= _) _ _ _
  refine wpAny_bind ?_
  simp only [newExc, newTuple]
  refine wpAny_bind (wpAny_newObj_type ?_ (by size_fits))
  refine wpAny_bind (m := firstArgMember _ _) (wpAny_of_eq (a := Value.none) (by first | rfl | (simp only [firstArgMember]; rfl)) ?_)
  refine wpAny_newObj_type ?_ (by size_fits)
  simp only [raiseNew]
  refine wpAny_bind (wpAny_handled ?_)
  rw [hh]
  have hu : ∀ b o, b ≠ it -> s.heap.get? b = some o -> (s.heap.update it (Obj.mapFields (·.setIfInBounds 0 .none))).get? b = some o := fun b o hb e => (Heap.get?_update_other _ _ (Ne.symm hb)).trans e
  refine wpAny_bind (wpAny_pure (wpAny_throw (hE _ _ _ (fun b o hb e => ?_) ?_ ?_ (Heap.get?_push_size _ rfl) (by kernel_rfl))))
  · exact Heap.get?_push_of_some _ (Heap.get?_push_of_some _ (hu b o hb e))
  · exact ⟨_, Heap.get?_push_of_some _ (Heap.get?_push_of_some _ (Heap.get?_update_self _ ho (Obj.isFreed_of_fields (Obj.data_mapFields hd _))))⟩
  refine Heap.get?_none_of_le ?_
  rw [Heap.size_push, Heap.size_after_update]; exact Nat.le_succ _
end
section
variable {g : Gl Int} {c : Ac} {S S' : St Int} {Q : Value -> St Int -> Prop} {a b : Addr} {xs ys : List Value}
noncomputable def litO (l : Addr) (i : Nat) : AO Int := .raw fun ob => ob.cls = .type "list_iterator" /\ ob.data = .fields #[.ref l, .int i 0]
noncomputable def mwO (it : Addr) : AO Int := .raw fun ob => ob = mwObj it
noncomputable def litX (l : Addr) : AO Int := .raw fun ob => ob = { cls := .type "list_iterator", data := .fields #[.ref l, .int 0 0] }
theorem WC_iter {l : Addr} (hl : S.σ l = some (.list xs)) (h : ∀ it, S.σ it = none -> Q (.ref it) ⟨S.m, upd S.σ it (litX l)⟩) : WC g c (.builtin "iter") [.ref l] S Q := by
  intro us hus H s R
  o_shape
  refine el_EA (map1 hus) ?_; intro u rfl_152 hu; subst rfl_152
  obtain rfl := er_ref hu
  refine el_EEAAA (R.list hl) ?_; intro arr n h1 h2 h3 h4
  refine call_function_entry (by decide +kernel) (by decide +kernel) kdk_entry_iter (kdk_args_iter _) ?_
  unfold Builtin.«iter»
  refine wpAny_bind (m := someArgs "iter" 1 2 _) (wpAny_of_eq (a := [Value.ref l]) (by first | rfl | kernel_rfl!) ?_)
  show wpAny _ _ (pyIter (.ref l) >>= _) _ _ _
  refine wpAny_bind (wpAny_pyIter_list h2 (wpAny_pure ⟨_, rfl, ?_⟩))
  refine el_A (R.add (tk := s.toks) (h' := s.heap.push { cls := .type "list_iterator", data := .fields #[.ref l, .int 0 0] }) (o := litX l) (Heap.ExtBut.push (Heap.ExtBut.refl _ _) _) (size_none _) (Heap.get?_push_size _ rfl) rfl) ?_; intro hn R₃
  exact ⟨_, R₃, h _ hn⟩
theorem WGet_next {it l : Addr} (hi : S.σ it = some (litX l)) (h : ∀ mw, S.σ mw = none -> Q (.ref mw) ⟨S.m, upd (upd S.σ it (litO l 0)) mw (mwO it)⟩) : WGet g c (.ref it) (Str.ofString "__next__") S Q := by
  intro u b hu H s R
  o_shape
  obtain rfl := er_ref hu
  refine el_EA (R.raw hi) ?_; intro ob h1 rfl_151; subst rfl_151
  obtain ⟨hp, gn, dr, tk, os⟩ := s
  have R₁ := R.put (tk := tk) (h' := hp) (o := litO l 0) (Heap.ExtBut.refl _ _) hi h1 ⟨rfl, rfl⟩
  refine wpAny_bind (wpAny_mkText (next_by h1 ?_))
  refine el_A (R₁.add (tk := tk + 1) (h' := hp.push (mwObj it)) (o := mwO it) (Heap.ExtBut.push (Heap.ExtBut.refl _ _) _) (size_none _) (Heap.get?_push_size _ rfl) rfl) ?_; intro hn' R₃
  have hn2 : S.σ hp.objs.size = none := by
    have e : upd S.σ it (litO l 0) hp.objs.size = none := hn'
    unfold upd at e
    split at e
    · exact Mine.sn e
    exact e
  exact ⟨_, R₃, h _ hn2⟩
theorem WE_Attr {value : Expr} {attr : Str} {pos : Pos} (he : ∀ env, eval (.Attribute value attr pos) env = (do
      let o ← eval value env
      standAt pos.atName
      let r ← holding [o] (getAttr o attr true)
      letTemporaryGo value o r
      pure r)) (h : WE g c value S fun v S₁ => WGet g c v attr S₁ Q) : WE g c (.Attribute value attr pos) S Q :=
  fun H s R => Attribute_any_ (goK (h H s R) (fun _ _ _ R₁ h₁ => h₁ _ true rfl H _ R₁)) (he _)
theorem WX_AssignAttr {o e : Expr} {x : Str} {p pos : Pos} {Q : Flow -> St Int -> Prop} (hs : ∀ env, swapsWith e (some (.Attribute o x p)) pos.line env = pure false)
    (h : WE g c e S fun v S₁ => WE g c o S₁ fun ov S₂ => WSet g c ov x v S₂ (Q .next)) : WX g c (.Assign [.Attribute o x p] e pos) S Q := by
  intro H s R
  o_shape
  exact plainObj_wpAny_Assign_Attribute (goK (h H s R) (fun _ _ _ R₁ h₁ => goK (h₁ H _ R₁) (fun _ _ _ R₂ h₂ => h₂ _ _ rfl rfl H _ R₂))) (hs _)
end
end
section
open Sem (wp)
structure UpTo (F : List Addr) (H H' : Hid) : Prop where
  gens : H'.gens = H.gens
  out : ∀ b, b ∉ F -> H'.objs b = H.objs b
  in_ : ∀ b, b ∈ F -> ∃ o sl, H.objs b = some o /\ H'.objs b = some { o with slots := sl }
section
variable {g : Gl Int} {c : Ac} {S S' : St Int} {a b : Addr} {xs ys : List Value} {F : List Addr} {H H' H'' : Hid} {s : Shared}
theorem UpTo.trans (x : UpTo F H H') (y : UpTo F H' H'') : UpTo F H H'' where
  gens := y.gens.trans x.gens
  out b hb := (y.out b hb).trans (x.out b hb)
  in_ b hb := by
    refine el_EEA (x.in_ b hb) ?_; intro o sl h1 h2
    refine el_EEA (y.in_ b hb) ?_; intro o' sl' h3 h4
    rw [h2] at h3; (replace h3 := Option.some.inj h3; subst h3)
    exact ⟨o, sl', h1, h4⟩
structure FrOk (g : Gl Int) (c : Ac) (F : List Addr) (H : Hid) : Prop where
  fr : ∃ outer, c.A.frames = some (c.env :: outer) /\ outer.filterMap (·.frame) = F /\ ∀ env ∈ outer, env.scope.kind ≠ .module /\ ∃ L, env.frame = some L /\ L ∈ F
  me : c.env.frame = some c.env.locals
  hid : ∀ L ∈ F, ∃ o, H.objs L = some o /\ (∀ vs, o.data ≠ .fields vs) /\ g.h₀.get? L = none
theorem FrOk.refl (x : FrOk g c F H) : UpTo F H H := ⟨rfl, fun _ _ => rfl, fun b hb => let ⟨o, h1, _⟩ := x.hid b hb; ⟨o, o.slots, h1, h1⟩⟩
theorem FrOk.upTo (x : FrOk g c F H) (y : UpTo F H H') : FrOk g c F H' := ⟨x.fr, x.me, fun L hL => by
  refine el_EAA (x.hid L hL) ?_; intro o h1 h2 h3
  refine el_EEA (y.in_ L hL) ?_; intro o' sl h4 h5
  rw [h1] at h4; (replace h4 := Option.some.inj h4; subst h4)
  exact ⟨_, h5, h2, h3⟩⟩
theorem FrOk.put (x : FrOk g c F H) {ob : Obj} (ha : H.objs a = none) : FrOk g c F (H.put a ob) := ⟨x.fr, x.me, fun L hL => by
  refine el_EAA (x.hid L hL) ?_; intro o h1 h2 h3
  refine ⟨o, ?_, h2, h3⟩
  unfold Hid.put
  dsimp only
  rw [if_neg (by rintro rfl; rw [ha] at h1; exact Mine.ns h1)]; exact h1⟩
theorem FrOk.not (x : FrOk g c F H) (ha : H.objs a = none) : a ∉ F := fun h => by
  refine el_EA (x.hid a h) ?_; intro o h1 _
  rw [ha] at h1; exact Mine.ns h1
theorem UpTo.put_cut {ob : Obj} (ha : a ∉ F) (hH : H.objs a = none) (x : UpTo F (H.put a ob) H') : UpTo F H (H'.cut a) /\ H' = (H'.cut a).put a ob := by
  have e : H'.objs a = some ob := (x.out a ha).trans (H.put_self a ob)
  refine ⟨⟨x.gens, fun b hb => ?_, fun b hb => ?_⟩, ?_⟩
  · unfold Hid.cut
    dsimp only
    split
    · rename_i q; rw [q, hH]
    rename_i q
    rw [x.out b hb]
    exact if_neg q
  · have q : b ≠ a := fun q => ha (q ▸ hb)
    refine el_EEA (x.in_ b hb) ?_; intro o sl h1 h2
    refine ⟨o, sl, ?_, ?_⟩
    · have : (H.put a ob).objs b = H.objs b := if_neg q
      rw [← this]; exact h1
    exact (if_neg q).trans h2
  cases H' with
  | mk o gs =>
    unfold Hid.put Hid.cut
    congr 1
    funext b
    dsimp only
    split
    · rename_i q; subst q; exact e
    rfl
theorem FrOk.kinds (x : FrOk g c F H) (R : Rel g c H S s) : ∃ outer, c.A.frames = some (c.env :: outer) /\ (c.env :: outer).filterMap (·.frame) = c.env.locals :: F /\ s.heap.FunFrames g.h₀ (c.env :: outer) := by
  refine el_EAA x.fr ?_; intro outer h1 h2 h3
  refine ⟨outer, h1, by rw [List.filterMap_cons, x.me, h2], ?_⟩
  have rest : ∀ l : List Env, (∀ env ∈ l, env.scope.kind ≠ .module /\ ∃ L, env.frame = some L /\ L ∈ F) -> s.heap.FunFrames g.h₀ l := by
    intro l
    induction l with
    | nil => intro _; trivial
    | cons env l ih =>
      intro h
      refine el_AEA (h env (.head _)) ?_; intro k1 L k2 k3
      refine el_EAA (x.hid L k3) ?_; intro o h4 h5 h6
      exact ⟨k1, ⟨L, o, k2, h6, R.hid L o h4, h5⟩, ih fun e he => h e (.tail _ he)⟩
  refine el_EA R.loc ?_; intro m hm hv
  refine Heap.FunFrames.cons (by rw [R.ac.kind]; decide) x.me hm ?_ (rest outer h3)
  exact Heap.get?_none_of_le R.above
theorem Rel.slotsOnly (R : Rel g c H S s) (Fo : FrOk g c F H) {h' : Heap} {tk : Tok} (x : Heap.SlotsOnly (c.env.locals :: F) s.heap h') : ∃ H', UpTo F H H' /\ Rel g c H' S { s with heap := h', toks := tk } := by
  refine el_EAAAA R.role ?_; intro ρ r0 r1 r2 r3 r4
  have inF : ∀ b, b ∈ F -> ∃ o, H.objs b = some o /\ s.heap.get? b = some o := fun b hb => let ⟨o, h1, _⟩ := Fo.hid b hb; ⟨o, h1, R.hid b o h1⟩
  have same : ∀ b i, ρ b = i -> i ≠ 1 -> i ≠ 3 -> h'.get? b = s.heap.get? b := fun b i hb h1 h3 => x.2.1 b (by
    intro q
    rcases List.mem_cons.mp q with q | q
    · rw [q, r1] at hb; exact h1 hb.symm
    · (refine el_EA (inF b q) ?_; intro o e _)
      rw [r3 b o e] at hb; exact h3 hb.symm)
  refine ⟨⟨fun b => if b ∈ F then h'.get? b else H.objs b, H.gens⟩, ⟨rfl, fun b hb => if_neg hb, fun b hb => ?_⟩, ?_⟩
  · (refine el_EA (inF b hb) ?_; intro o h1 h2)
    refine el_E (x.2.2 b o h2) ?_; intro sl h3
    exact ⟨o, sl, h1, (if_pos hb).trans h3⟩
  refine { ok := R.ok, ac := R.ac, above := R.above, os := R.os, bare := R.bare, gen := R.gen, inj := R.inj, keep := ?_, hid := ?_, loc := ?_, cel := ?_, fre := ?_, sto := ?_, role := ⟨ρ, r0, r1, r2, fun b o e => ?_, r4⟩ }
  · exact fun b o e => (same b 0 (r0 b o e) (by decide) (by decide)).trans (R.keep b o e)
  · intro b o e
    dsimp only at e
    split at e
    · exact e
    rename_i hb
    have hs := R.hid b o e
    refine (x.2.1 b fun q => ?_).trans hs
    rcases List.mem_cons.mp q with q | q
    · have := r3 b o e; rw [q, r1] at this; cases this
    exact hb q
  · (refine el_EA R.loc ?_; intro m nn_154 hv; obtain ⟨oL, es, ep, hL, hLd, hLk, hLf⟩ := nn_154)
    refine el_E (x.2.2 _ _ hL) ?_; intro sl h3
    exact ⟨m, ⟨_, es, ep, h3, hLd, hLk, hLf⟩, hv⟩
  · intro y b h1 h2
    refine el_EA (R.cel y b h1 h2) ?_; intro u nn_153 hu; obtain ⟨oc, hc, hd⟩ := nn_153
    exact ⟨u, ⟨oc, (same b 2 (r2 y b h1 h2) (by decide) (by decide)).trans hc, hd⟩, hu⟩
  · intro y b h1 h2 v e
    refine el_EEAA (R.fre y b h1 h2 v e) ?_; intro ob u h3 h4 h5
    by_cases hb : b ∈ F
    · (refine el_E (x.2.2 b _ (R.hid b _ h3)) ?_; intro sl h6)
      exact ⟨_, u, (if_pos hb).trans h6, h4, h5⟩
    exact ⟨ob, u, (if_neg hb).trans h3, h4, h5⟩
  · intro b o e
    refine el_EA (R.sto b o e) ?_; intro ob h1 h2
    exact ⟨ob, (same b 4 (r4 b o e) (by decide) (by decide)).trans h1, h2⟩
  dsimp only at e
  split at e
  · rename_i hb
    refine el_EA (inF b hb) ?_; intro o' h1 _
    exact r3 b o' h1
  exact r3 b o e
theorem goF {g : Gl Int} {c : Ac} {F : List Addr} {H : Hid} {A : Around} {α : Type} {t : Sem α} {Q : α -> St Int -> Prop} {P : α -> Shared -> Prop} {E : Value -> Shared -> Prop} {s : Shared} (h : wpAny (model g.prog g.w) A t (fun u s₁ => ∃ H₁, UpTo F H H₁ /\ ∃ S₁, Rel g c H₁ S₁ s₁ /\ Q u S₁) (fun _ _ => False) s) (k : ∀ u s₁ H₁, UpTo F H H₁ -> ∀ S₁, Rel g c H₁ S₁ s₁ -> Q u S₁ -> P u s₁) : wpAny (model g.prog g.w) A t P E s :=
  wpAny_mono h (fun u s₁ q => q.elim fun H₁ q => q.2.elim fun S₁ r => k u s₁ H₁ q.1 S₁ r.1 r.2) fun _ _ x => x.elim
theorem goU {A : Around} {M : Model} {F : List Addr} {H : Hid} {α : Type} {t : Sem α} {Q : α -> Hid -> Shared -> Prop} {P : α -> Shared -> Prop} {E : Value -> Shared -> Prop} {s : Shared} (h : wpAny M A t (fun u s₁ => ∃ H₁, UpTo F H H₁ /\ Q u H₁ s₁) (fun _ _ => False) s) (k : ∀ u s₁ H₁, UpTo F H H₁ -> Q u H₁ s₁ -> P u s₁) : wpAny M A t P E s :=
  wpAny_mono h (fun u s₁ q => q.elim fun H₁ q => k u s₁ H₁ q.1 q.2) fun _ _ x => x.elim
noncomputable def WMF (g : Gl Int) (c : Ac) {α : Type} (t : Sem α) (S : St Int) (Q : α -> St Int -> Prop) : Prop :=
  ∀ F H s, FrOk g c F H -> Rel g c H S s -> wpAny (model g.prog g.w) c.A t (fun a s' => ∃ H', UpTo F H H' /\ ∃ S', Rel g c H' S' s' /\ Q a S') (fun _ _ => False) s
theorem WMF.of {α : Type} {t : Sem α} {Q : α -> St Int -> Prop} (h : WM g c t S Q) : WMF g c t S Q := fun F H s Fo R => wpAny_mono (h H s R) (fun _ _ q => ⟨H, Fo.refl, q⟩) fun _ _ x => x
theorem WMF.mono {α : Type} {t : Sem α} {Q Q' : α -> St Int -> Prop} (h : WMF g c t S Q) (hQ : ∀ a S', Q a S' -> Q' a S') : WMF g c t S Q' :=
  fun F H s Fo R => goF (h F H s Fo R) (fun _ _ H' u S' R' q => ⟨H', u, S', R', hQ _ _ q⟩)
theorem WMF.le {α : Type} {t : Sem α} {Q : α -> St Int -> Prop} (h : WMF g c t S' Q) (l : Le S' S) : WMF g c t S Q := fun F H s Fo R => h F H s Fo (R.le l.m l.s)
noncomputable def WXF (g : Gl Int) (c : Ac) (st : Stmt) (S : St Int) (Q : Flow -> St Int -> Prop) : Prop := WMF g c (exec st c.env) S fun f S' => Q (erF f) S'
noncomputable def WXsF (g : Gl Int) (c : Ac) (ss : List Stmt) (S : St Int) (Q : Flow -> St Int -> Prop) : Prop := WMF g c (execs ss c.env) S fun f S' => Q (erF f) S'
noncomputable def WEF (g : Gl Int) (c : Ac) (e : Expr) (S : St Int) (Q : Value -> St Int -> Prop) : Prop := WMF g c (eval e c.env) S fun v S' => Q (er v) S'
theorem WXF.of {st : Stmt} {Q : Flow -> St Int -> Prop} (h : WX g c st S Q) : WXF g c st S Q := WMF.of h
theorem WXsF.of {st : List Stmt} {Q : Flow -> St Int -> Prop} (h : WXs g c st S Q) : WXsF g c st S Q := WMF.of h
noncomputable abbrev SeqQF (g : Gl Int) (c : Ac) (ss : List Stmt) (Q : Flow -> St Int -> Prop) (f : Flow) (S₁ : St Int) : Prop := match f with | .next => WXsF g c ss S₁ Q | f => Q f S₁
theorem WXsF_cons {st : Stmt} {ss : List Stmt} {Q : Flow -> St Int -> Prop} (h : WXF g c st S (SeqQF g c ss Q)) : WXsF g c (st :: ss) S Q := by
  intro F H s Fo R
  o_shape
  refine wpAny_execs_cons (goF (h F H s Fo R) (fun f s₁ H₁ u S₁ R₁ h₁ => ?_))
  cases f with
  | next => exact goU (h₁ F H₁ s₁ (Fo.upTo u) R₁) (fun f s₂ H₂ u₂ q => ⟨H₂, u.trans u₂, q⟩)
  | brk => exact ⟨H₁, u, S₁, R₁, h₁⟩
  | cont => exact ⟨H₁, u, S₁, R₁, h₁⟩
  | ret v => exact ⟨H₁, u, S₁, R₁, h₁⟩
theorem WXF_If {t : Expr} {b o : List Stmt} {pos : Pos} {Q : Flow -> St Int -> Prop} (h : WT g c t S fun x S₁ => if x = true then WXsF g c b S₁ Q else WXsF g c o S₁ Q) : WXF g c (.If t b o pos) S Q := by
  intro F H s Fo R
  o_shape
  refine wpAny_If (goK (h H _ R) (fun x s₁ S₁ R₁ h₁ => ?_))
  cases x
  · exact h₁ F H _ Fo R₁
  exact h₁ F H _ Fo R₁
theorem WXF_AssignName {x : Str} {p pos : Pos} {e : Expr} {Q : Flow -> St Int -> Prop} (hs : ∀ env, swapsWith e (some (.Name x p)) pos.line env = pure false) (h : WEF g c e S fun v S₁ => WStore g c x v S₁ (Q .next)) : WXF g c (.Assign [.Name x p] e pos) S Q :=
  fun F H _ Fo R => wpAny_Assign_Name (goF (h F H _ Fo R) (fun _ _ H₁ u _ R₁ h₁ => wpAny_mono (h₁ _ rfl H₁ _ R₁) (fun _ _ q => ⟨H₁, u, q⟩) fun _ _ x => x)) (hs _)
theorem WXF_While {test : Expr} {body orelse : List Stmt} {pos : Pos} {Q : Flow -> St Int -> Prop} (I : Nat -> St Int -> Prop) (n : Nat) (h0 : I n S)
    (turn : ∀ n S, I n S -> WT g c test S fun b S₁ => if b = true then WXsF g c body S₁ (WhileQ I n Q) else WXsF g c orelse S₁ Q) : WXF g c (.While test body orelse pos) S Q := by
  intro F H s Fo R
  o_shape
  let II : Nat -> Shared -> Prop := fun k s' => ∃ H', UpTo F H H' /\ ∃ S', Rel g c H' S' s' /\ I k S'
  refine wpAny_While (codeAny_whileLoop II (fun k s' q_ => ?_) n ⟨H, Fo.refl, S, R, h0⟩)
  refine el_EAEA q_ ?_; clear q_; intro H' u S' R' hI
  refine goK (turn k S' hI H' s' R') (fun b s₁ S₁ R₁ q => ?_)
  cases b with
  | false =>
    rw [if_neg Bool.false_ne_true] at q ⊢
    exact goU (q F H' s₁ (Fo.upTo u) R₁) (fun f s₂ H₂ u₂ q => ⟨H₂, u.trans u₂, q⟩)
  | true =>
    rw [if_pos rfl] at q ⊢
    refine goF (q F H' s₁ (Fo.upTo u) R₁) (fun f s₂ H₂ u₂ S₂ R₂ q₂ => ?_)
    cases f with
    | next => (refine el_EA q₂ ?_; (try clear q₂); intro m hm hI); exact ⟨m, hm, H₂, u.trans u₂, S₂, R₂, hI⟩
    | cont => (refine el_EA q₂ ?_; (try clear q₂); intro m hm hI); exact ⟨m, hm, H₂, u.trans u₂, S₂, R₂, hI⟩
    | brk => exact ⟨H₂, u.trans u₂, S₂, R₂, q₂⟩
    | ret v => exact ⟨H₂, u.trans u₂, S₂, R₂, q₂⟩
inductive ForFPost (g : Gl Int) (c : Ac) (target : Expr) (body : List Stmt) (orelse : List Stmt) (Q : Flow -> St Int -> Prop) (v : Value) (S₁ : St Int) : Prop
  | mk (xs : List Value) (Ok : St Int -> Prop) (h_1 : Iterable g c v xs Ok S₁) (Inv : Nat -> St Int -> Prop) (h_2 : Inv 0 S₁) (h_3 : (∀ i S₂, Inv i S₂ -> Ok S₂)) (h_4 : (∀ i x S₂, xs[i]? = some x -> Inv i S₂ -> WAsg g c target x S₂ fun S₃ => WXsF g c body S₃ (ForQ Inv i Q))) (h_5 : ∀ S₂, Inv xs.length S₂ -> WXsF g c orelse S₂ Q) : ForFPost g c target body orelse Q v S₁
theorem WXF_For {target iter : Expr} {body orelse : List Stmt} {pos : Pos} {Q : Flow -> St Int -> Prop} (hs : ∀ env x, foldedSetIterable iter env x = pure x)
    (h : WE g c iter S (ForFPost g c target body orelse Q)) : WXF g c (.For target iter body orelse pos) S Q := by
  intro F H s Fo R
  o_shape
  refine wpAny_For (goK (h H s R) (fun u s₁ S₁ R₁ q_ => ?_)) (fun x => hs _ x)
  obtain ⟨xs, Ok, hit, Inv, h0, hok, turn, fin⟩ := q_
  refine wpAny_mono (hit H s₁ u rfl R₁) (fun it s₂ q_ => ?_) fun _ _ x => x.elim
  refine el_EEEAAA q_ ?_; clear q_; intro a ob sp e hfree hst R₂
  subst e
  have haF := Fo.not hfree
  let II : Nat -> Shared -> Prop := fun k s' => ∃ i ob S' H', UpTo F H H' /\ H'.objs a = none /\ k + i = xs.length /\ sp.St_ i ob /\ Rel g c (H'.put a ob) S' s' /\ Inv i S'
  refine codeAny_forLoop_any II (fun k s' q_ => ?_) xs.length ⟨0, ob, S₁, H, Fo.refl, hfree, by exact Nat.sub_zero _, hst, R₂, h0⟩
  refine el_EEEEAAAAA q_ ?_; clear q_; intro i ob S' H' up hfree' hk hst R' hI
  have nocell : ∀ ob i, sp.St_ i ob -> ∀ u, ob.data = .cell u -> False := fun ob i h u e => sp.noCell i ob u h e
  have back : ∀ ob i S' s' (H' : Hid), H'.objs a = none -> sp.St_ i ob -> Rel g c (H'.put a ob) S' s' -> Rel g c H' S' s' := fun ob i S' s' H' hf hs R => by
    have := R.lose (tk := s'.toks) (H'.put_self a ob) (nocell ob i hs) (Heap.ExtBut.refl a s'.heap)
    rwa [H'.put_cut a ob hf] at this
  cases hx : xs[i]? with
  | none =>
    refine wpAny_mono (sp.done c _ S' s' a i ob (H'.put_self a ob) hst R' (hok i S' hI) hx) (fun r s₃ q_ => ?_) fun _ _ x => x.elim
    refine el_A q_ ?_; clear q_; intro e R₃
    subst e
    rw [H'.put_cut a ob hfree'] at R₃
    have : i = xs.length := by
      have := List.getElem?_eq_none_iff.mp hx; exact om05 ‹_› ‹_›
    subst this
    exact goU (fin S' hI F H' s₃ (Fo.upTo up) R₃) (fun f s₄ H₄ u₄ q => ⟨H₄, up.trans u₄, q⟩)
  | some x =>
    refine wpAny_mono (sp.next c _ S' s' a i ob x (H'.put_self a ob) hst R' (hok i S' hI) hx) (fun r s₃ q_ => ?_) fun _ _ x => x.elim
    refine el_EEAAA q_ ?_; clear q_; intro u ob' e hu hst' R₃
    subst e
    rw [H'.put_put] at R₃
    refine wpAny_mono (sp.lets c _ S' s₃ a (i + 1) ob' target u (H'.put_self a ob') hst' R₃) (fun _ s₄ q_ => ?_) fun _ _ x => x.elim
    refine el_EA q_ ?_; clear q_; intro ob₂ hst₂ R₄
    rw [H'.put_put] at R₄
    refine goK (turn i x S' hx hI u hu _ s₄ R₄) (fun _ s₅ S₅ R₅ q => ?_)
    refine goF (q F _ s₅ ((Fo.upTo up).put hfree') R₅) (fun f s₆ H₆ u₆ S₆ R₆ q₆ => ?_)
    have hlt : i < xs.length := (List.getElem?_eq_some_iff.mp hx).1
    refine el_A (u₆.put_cut haF hfree') ?_; intro u₇ e₇
    have hf₇ : (H₆.cut a).objs a = none := if_pos rfl
    rw [e₇] at R₆
    cases f with
    | next => exact ⟨k - 1, by exact om06 ‹_› ‹_›, i + 1, ob₂, S₆, _, up.trans u₇, hf₇, by exact om03 ‹_› ‹_›, hst₂, R₆, q₆⟩
    | cont => exact ⟨k - 1, by exact om06 ‹_› ‹_›, i + 1, ob₂, S₆, _, up.trans u₇, hf₇, by exact om03 ‹_› ‹_›, hst₂, R₆, q₆⟩
    | brk => exact ⟨_, up.trans u₇, S₆, back ob₂ _ S₆ s₆ _ hf₇ hst₂ R₆, q₆⟩
    | ret v => exact ⟨_, up.trans u₇, S₆, back ob₂ _ S₆ s₆ _ hf₇ hst₂ R₆, q₆⟩
end
end
section
open Sem (wp)
section
variable {g : Gl Int} {c : Ac} {S S' : St Int} {Q : Value -> St Int -> Prop} {a b : Addr} {xs ys : List Value} {F : List Addr} {H H' H'' : Hid} {s : Shared}
theorem enterF (R : Rel g c H S s) (Fo : FrOk g c F H) {n : Nat} (hd : c.Deep (n + 1)) {f : Addr} {scope : Scope} {fd : FuncData} (hsc : scopeOk scope = true) (hfs : fd.scope = scope) (hgl : fd.globals = mainGlobals) (hbl : fd.builtins = builtinsNs)
    {bs : List (Str × Value)} {s₁ : Shared}
    (x : InCallC s (callEnvC fd s.heap.objs.size f).locals (bindL (callEnvC fd s.heap.objs.size f).kindOf bs fun _ => none) (callEnvC fd s.heap.objs.size f).cells (bindC (callEnvC fd s.heap.objs.size f).kindOf bs fun _ => none) s₁) :
    ∃ H', Rel g ⟨c.A.deeper (callEnvC fd s.heap.objs.size f), callEnvC fd s.heap.objs.size f, fun _ => false⟩ H' ⟨bindM (bs.map fun p => (p.1, er p.2)) fun _ => none, S.σ⟩ s₁ /\
      FrOk g ⟨c.A.deeper (callEnvC fd s.heap.objs.size f), callEnvC fd s.heap.objs.size f, fun _ => false⟩ (c.env.locals :: F) H' /\ (∀ b o, H.objs b = some o -> H'.objs b = some o) /\
      (∀ H'', UpTo (c.env.locals :: F) H' H'' -> ∃ H₂, UpTo F H H₂ /\ (∀ e, H.objs e = none -> H₂.objs e = none) /\
        ∀ (X X₂ : Hid) S' s', (∀ b o, H''.objs b = some o -> X.objs b = some o) -> (∀ b o, X₂.objs b = some o -> H₂.objs b = some o ∨ (H''.objs b = none /\ H'.objs b = none /\ X.objs b = some o)) -> (∀ b o, H₂.objs b = some o -> X₂.objs b = some o) -> X.gens = H''.gens -> X₂.gens = H₂.gens ->
          Rel g ⟨c.A.deeper (callEnvC fd s.heap.objs.size f), callEnvC fd s.heap.objs.size f, fun _ => false⟩ X S' s' -> Rel g c X₂ ⟨S.m, S'.σ⟩ s') := by
  refine el_EAAAA R.role ?_; intro ρ r0 r1 r2 r3 r4
  refine el_EEA x.done ?_; intro h₁ tk rfl_158 hk; subst rfl_158
  subst hfs
  simp only [scopeOk, Bool.and_eq_true, beq_iff_eq, Bool.not_eq_true'] at hsc
  refine el_A hsc ?_; (try clear hsc); intro nn_157 k4; obtain ⟨⟨k1, k2⟩, k3⟩ := nn_157
  refine el_EA R.loc ?_; intro m hm hv
  have hlt : ∀ b o, s.heap.get? b = some o -> b < s.heap.objs.size := fun b o e => Heap.lt_size e
  have cellLt : ∀ y a, (callEnvC fd s.heap.objs.size f).cells.lookup y = some a -> s.heap.objs.size < a := fun y a e => x.above y a (mem_of_lookup e)
  refine el_EEEAAA hm ?_; (try clear hm); intro oL es ep hL hLd hLk hLf
  refine ⟨⟨fun b => if ρ b = 1 ∨ ρ b = 2 then s.heap.get? b else H.objs b, H.gens⟩, ?_, ?_, fun b o e => (if_neg (by rw [r3 b o e]; decide)).trans e, ?_⟩
  · refine { ok := R.ok, ac := ?_, above := ?_, os := R.os, bare := R.bare, gen := R.gen, keep := fun b o e => hk b o (R.keep b o e), hid := ?_, loc := ?_, cel := ?_, inj := ?_, fre := ?_, sto := ?_, role := ?_ }
    · refine { kind := k1, gl := hgl, bl := hbl, hd := R.ac.hd, deep := ?_, cells := fun y hy => ?_, frees := fun y hy => absurd hy (no_free k4 y) }
      · unfold Ac.Deep at hd ⊢
        simp only [Around.deeper]
        exact om02 ‹_›
      exact Option.isSome_iff_exists.mp (cellsFrom_some _ _ _ (.inl hy))
    · exact Nat.le_trans R.above (Nat.le_of_lt (hlt _ _ hL))
    · intro b o e
      dsimp only at e
      split at e
      · exact hk b o e
      exact hk b o (R.hid b o e)
    · exact ⟨_, x.toInCall.ns, fun y v e hy => (bindM_ok (kindOf := (callEnvC fd s.heap.objs.size f).kindOf) bs _ (fun _ => none) (fun _ => none) (fun _ _ e => by exact Mine.ns e) y v e).1 hy⟩
    · intro y a ha hy
      refine ⟨_, x.cell y a ha, fun v e => ?_⟩
      refine el_EA ((bindM_ok (kindOf := (callEnvC fd s.heap.objs.size f).kindOf) bs _ (fun _ => none) (fun _ => none) (fun _ _ e => by cases e) y v e).2 hy.1) ?_; intro u e1 e2
      rw [e1]; exact congrArg some e2
    · intro y z a h1 h2 _ _
      exact name_of_addr x.apart (mem_of_lookup h1) (mem_of_lookup h2)
    · intro y a h1 h2
      exact Mine.ft h2
    · intro a o e
      refine el_EA (R.sto a o e) ?_; intro ob h1 h2
      exact ⟨ob, hk _ _ h1, h2⟩
    refine ⟨fun b => if b = s.heap.objs.size then 1 else if s.heap.objs.size ≤ b then 2 else if ρ b = 0 then 0 else if ρ b = 4 then 4 else 3, fun b o e => ?_, if_pos rfl, fun y a h1 h2 => ?_, fun b o e => ?_, fun b o e => ?_⟩
    · have := hlt b o (R.keep b o e)
      dsimp only
      rw [if_neg (Nat.ne_of_lt this), if_neg (Nat.not_le.mpr this), if_pos (r0 b o e)]
    · have := cellLt y a h1
      dsimp only
      rw [if_neg (Nat.ne_of_gt this), if_pos (Nat.le_of_lt this)]
    · have hz : b < s.heap.objs.size /\ ρ b ≠ 0 /\ ρ b ≠ 4 := by
        dsimp only at e
        split at e
        · rename_i q
          refine ⟨hlt b o e, ?_, ?_⟩ <;> rcases q with q | q <;> rw [q] <;> decide
        refine ⟨hlt b o (R.hid b o e), ?_, ?_⟩ <;> rw [r3 b o e] <;> decide
      dsimp only
      rw [if_neg (Nat.ne_of_lt hz.1), if_neg (Nat.not_le.mpr hz.1), if_neg hz.2.1, if_neg hz.2.2]
    refine el_EA (R.sto b o e) ?_; intro ob h1 _
    have := hlt _ _ h1
    dsimp only
    rw [if_neg (Nat.ne_of_lt this), if_neg (Nat.not_le.mpr this), if_neg (by rw [r4 b o e]; decide), if_pos (r4 b o e)]
  · (refine el_EAA Fo.fr ?_; intro outer f1 f2 f3)
    refine ⟨⟨c.env :: outer, ?_, ?_, fun env he => ?_⟩, rfl, fun L hL' => ?_⟩
    · show c.A.frames.map _ = _
      rw [f1]; rfl
    · rw [List.filterMap_cons, Fo.me, f2]
    · rcases List.mem_cons.mp he with rfl | he
      · exact ⟨by rw [R.ac.kind]; decide, _, Fo.me, .head _⟩
      refine el_AEA (f3 env he) ?_; intro e1 L e2 e3
      exact ⟨e1, L, e2, .tail _ e3⟩
    rcases List.mem_cons.mp hL' with rfl | hL'
    · exact ⟨oL, (if_pos (.inl r1)).trans hL, (fun vs q => by rw [hLd] at q; exact (nomatch q)), Heap.get?_none_of_le R.above⟩
    refine el_EAA (Fo.hid L hL') ?_; intro o h1 h2 h3
    exact ⟨o, by dsimp only; rw [if_neg (by rw [r3 L o h1]; decide)]; exact h1, h2, h3⟩
  intro H'' up
  have inF : ∀ b, b ∈ F -> ρ b = 3 := fun b hb => let ⟨o, h1, _⟩ := Fo.hid b hb; r3 b o h1
  have outE : ∀ b, b ∉ F -> b ≠ c.env.locals -> H''.objs b = if ρ b = 1 ∨ ρ b = 2 then s.heap.get? b else H.objs b := fun b h1 h2 => up.out b (by
    intro q
    rcases List.mem_cons.mp q with q | q
    · exact h2 q
    · exact h1 q)
  refine ⟨⟨fun b => if b ∈ F then H''.objs b else H.objs b, H.gens⟩, ⟨rfl, fun b hb => if_neg hb, fun b hb => ?_⟩, fun e h1 => ?_, fun X X₂ S' s' hX hX₂ hX₃ hg₁ hg₂ R' => ?_⟩
  · (refine el_EEA (up.in_ b (.tail _ hb)) ?_; intro o sl h1 h2)
    refine ⟨o, sl, ?_, (if_pos hb).trans h2⟩
    have : (if ρ b = 1 ∨ ρ b = 2 then s.heap.get? b else H.objs b) = some o := h1
    rwa [if_neg (by rw [inF b hb]; decide)] at this
  · dsimp only
    rw [if_neg (Fo.not h1)]; exact h1
  refine el_EAAAA R'.role ?_; intro ρ' q0 q1 q2 q3 q4
  have hidX : ∀ b o, H''.objs b = some o -> s'.heap.get? b = some o := fun b o e => R'.hid b o (hX b o e)
  have hid' : ∀ b o, ρ b = 2 -> s.heap.get? b = some o -> s'.heap.get? b = some o := fun b o hb e => hidX b o (by
    rw [outE b (fun q => by rw [inF b q] at hb; cases hb) (fun q => by rw [q, r1] at hb; cases hb), if_pos (.inr hb)]; exact e)
  refine el_EEA (up.in_ c.env.locals (.head _)) ?_; intro oL' sl hL1 hL2
  have hL1 : (if ρ c.env.locals = 1 ∨ ρ c.env.locals = 2 then s.heap.get? c.env.locals else H.objs c.env.locals) = some oL' := hL1
  rw [if_pos (.inl r1), hL] at hL1
  (replace hL1 := Option.some.inj hL1; subst hL1)
  have objsF : ∀ b o, X₂.objs b = some o -> s'.heap.get? b = some o /\ ρ' b = 3 /\ (ρ b = 3 ∨ (ρ b ≠ 1 /\ ρ b ≠ 2) ∨ s.heap.get? b = none) := by
    intro b o e
    rcases hX₂ b o e with e | ⟨e1, e2, e3⟩
    · have e : (if b ∈ F then H''.objs b else H.objs b) = some o := e
      split at e
      · rename_i hb; exact ⟨hidX b o e, q3 b o (hX b o e), .inl (inF b hb)⟩
      rename_i hb
      have h3 := r3 b o e
      have hne : b ≠ c.env.locals := fun q => by rw [q, r1] at h3; cases h3
      have := outE b hb hne
      rw [if_neg (by rw [h3]; decide)] at this
      exact ⟨hidX b o (this.trans e), q3 b o (hX b o (this.trans e)), .inl h3⟩
    refine ⟨R'.hid b o e3, q3 b o e3, ?_⟩
    have e2 : (if ρ b = 1 ∨ ρ b = 2 then s.heap.get? b else H.objs b) = none := e2
    split at e2
    · exact .inr (.inr e2)
    rename_i hb; exact .inr (.inl ⟨fun q => hb (.inl q), fun q => hb (.inr q)⟩)
  refine { ok := R.ok, ac := R.ac, above := R.above, os := R'.os, bare := R'.bare, gen := ?_, keep := R'.keep, hid := fun b o e => (objsF b o e).1, loc := ?_, cel := ?_, inj := R.inj, fre := ?_, sto := R'.sto, role := ?_ }
  · intro p hp
    rw [hg₂] at hp
    exact R'.gen p (by rw [hg₁, up.gens]; exact hp)
  · exact ⟨m, ⟨_, es, ep, hidX _ _ hL2, hLd, hLk, hLf⟩, hv⟩
  · intro y a h1 h2
    refine el_EA (R.cel y a h1 h2) ?_; intro u nn_156 hu; obtain ⟨oc, hc, hcd⟩ := nn_156
    exact ⟨u, ⟨oc, hid' _ _ (r2 y a h1 h2) hc, hcd⟩, hu⟩
  · intro y a h1 h2 v e
    refine el_EEAA (R.fre y a h1 h2 v e) ?_; intro ob u h3 h4 h5
    by_cases hb : a ∈ F
    · (refine el_EEA (up.in_ a (.tail _ hb)) ?_; intro o sl e1 e2)
      have e1 : (if ρ a = 1 ∨ ρ a = 2 then s.heap.get? a else H.objs a) = some o := e1
      rw [if_neg (by rw [inF a hb]; decide), h3] at e1
      (replace e1 := Option.some.inj e1; subst e1)
      exact ⟨_, u, hX₃ _ _ ((if_pos hb).trans e2), h4, h5⟩
    exact ⟨ob, u, hX₃ _ _ ((if_neg hb).trans h3), h4, h5⟩
  refine ⟨fun b => if (ρ b = 1 ∨ ρ b = 2) /\ (s.heap.get? b).isSome = true then ρ b else ρ' b, fun b o e => ?_, ?_, fun y a h1 h2 => ?_, fun b o e => ?_, fun b o e => ?_⟩
  · dsimp only
    rw [if_neg (by rw [r0 b o e]; rintro ⟨q | q, _⟩ <;> cases q)]; exact q0 b o e
  · dsimp only
    rw [if_pos ⟨.inl r1, by rw [hL]; rfl⟩]; exact r1
  · (refine el_EA (R.cel y a h1 h2) ?_; intro u nn_155 hu; obtain ⟨oc, hc, hcd⟩ := nn_155)
    have := r2 y a h1 h2
    dsimp only
    rw [if_pos ⟨.inr this, by rw [hc]; rfl⟩]; exact this
  · (refine el_AA (objsF b o e) ?_; intro e1 e2 e3)
    dsimp only
    rw [if_neg ?_]
    · exact e2
    intro q_
    refine el_A q_ ?_; clear q_; intro hb hs
    rcases e3 with e3 | e3 | e3
    · rw [e3] at hb; rcases hb with q | q <;> cases q
    · exact hb.elim e3.1 e3.2
    rw [e3] at hs; exact Mine.ft hs
  dsimp only
  rw [if_neg ?_]
  · exact q4 b o e
  intro q_
  refine el_A q_ ?_; clear q_; intro hb hs
  refine el_E (Option.isSome_iff_exists.mp hs) ?_; intro o' ho'
  rcases hb with hb | hb
  · have hbl : b = c.env.locals ∨ b ≠ c.env.locals := Classical.em _
    rcases hbl with hbl | hbl
    · subst hbl
      have := q3 _ _ (hX _ _ hL2)
      rw [q4 _ o e] at this; cases this
    have := outE b (fun q => by rw [inF b q] at hb; cases hb) hbl
    rw [if_pos (.inl hb), ho'] at this
    have := q3 b o' (hX _ _ this)
    rw [q4 b o e] at this; cases this
  have := outE b (fun q => by rw [inF b q] at hb; cases hb) (fun q => by rw [q, r1] at hb; cases hb)
  rw [if_pos (.inr hb), ho'] at this
  have := q3 b o' (hX _ _ this)
  rw [q4 b o e] at this; cases this
end
end
section
open Sem (wp)
section
variable {M : Model} {A : Around} {E : Value -> Shared -> Prop} {s : Shared}
noncomputable abbrev tbObj (ts : Array Value) : Obj := { cls := .type "traceback", dict := none, data := .fields ts }
theorem entry_new {base : Heap} {env : Env} {outer : List Env} {L e : Addr} {oe : Obj} {vs : Array Value} {head : Value} {hadNext : Bool} {Q : Unit -> Shared -> Prop}
    (hfr : A.frames = some (env :: outer)) (hl : s.heap.FunFrames base (env :: outer)) (hf : env.frame = some L) (he : s.heap.get? e = some oe) (hd : oe.data = .fields vs) (hsz : 1 < vs.size)
    (h : ∀ h₁ ts, Heap.SlotsOnly ((env :: outer).filterMap (·.frame)) s.heap h₁ -> h₁.get? e = some oe -> 3 < ts.size -> ts[3]? = some (rawInt L) ->
      Q () { s with heap := (h₁.push (tbObj ts)).update e (Obj.mapFields (·.setIfInBounds 1 (.ref h₁.objs.size))) }) :
    wpAny M A (do let a ← frameOf env; let pl ← entryPlaceOf L hadNext; let b ← EntryCells.newEntry head a .none (rawInt L) .none pl; setField (.ref e) 1 b) Q E s := by
  have hene : e ∉ (env :: outer).filterMap (·.frame) := fun hm => by
    refine el_AEA (hl.mem hm) ?_; intro _ o ho hnf
    rw [he] at ho; injection ho with ho; subst ho; exact hnf vs hd
  refine wpAny_bind (wpAny_frameOf_fun hfr hl hf fun h₁ hs₁ => ?_)
  refine wpAny_bind (wpAny_entryPlaceOf fun pl hpl => ?_)
  unfold EntryCells.newEntry newFields
  refine wpAny_bind (wpAny_newObj_type ?_ (hpl.sizeOk5 _ _ _ _ _))
  have he₁ : h₁.get? e = some oe := (hs₁.2.1 e hene).trans he
  have he₂ := Heap.get?_push_of_some (h := h₁) (tbObj ([head, .ref L, .none, rawInt L, .none] ++ (if pl.isEmpty then List.replicate 6 Value.none else pl)).toArray) he₁
  refine wpAny_setField he₂ hd hsz ?_
  exact h h₁ _ hs₁ he₁ (by simp only [List.size_toArray, List.length_append, List.length_cons, List.length_nil] <;> lia) (by first | (simp; done) | (rcases hpl with rfl | ⟨_, _, _, _, _, _, _, rfl⟩ <;> simp))
end
section
variable {g : Gl Int} {c : Ac} {S S' : St Int} {Q : Value -> St Int -> Prop} {a b : Addr} {xs ys : List Value} {F : List Addr} {H H' H'' : Hid} {s : Shared}
structure Fly0 (g : Gl Int) (c : Ac) (H : Hid) (S : St Int) (s : Shared) (e : Addr) (cls : Value) : Prop where
  no : H.objs e = none
  ob : ∃ oe vs, oe.cls = cls /\ oe.data = .fields vs /\ vs[1]? = some .none /\ Rel g c (H.put e oe) S s
structure Fly1 (g : Gl Int) (c : Ac) (H : Hid) (S : St Int) (s : Shared) (e : Addr) (cls : Value) : Prop where
  no : H.objs e = none
  ob : ∃ oe vs T oT ts, H.objs T = none /\ T ≠ e /\ oe.cls = cls /\ oe.data = .fields vs /\ vs[1]? = some (.ref T) /\ oT.data = .fields ts /\ 3 < ts.size /\ ts[3]? = some .none /\ Rel g c ((H.put e oe).put T oT) S s
theorem Rel.unput (R : Rel g c (H.put a ob) S s) (hH : H.objs a = none) (hc : ∀ u, ob.data = .cell u -> False) : Rel g c H S s := by
  have := R.lose (tk := s.toks) (H.put_self a ob) hc (Heap.ExtBut.refl a s.heap)
  rwa [H.put_cut a ob hH] at this
theorem Fly1.land {e : Addr} {cls : Value} (x : Fly1 g c H S s e cls) : Rel g c H S s := by
  obtain ⟨hn, oe, vs, T, oT, ts, h1, h2, h3, h4, h5, h6, h7, h8, R⟩ := x
  have hT : (H.put e oe).objs T = none := (if_neg h2).trans h1
  exact (R.unput hT (fun u q => by rw [h6] at q; exact (nomatch q))).unput hn (fun u q => by rw [h4] at q; exact (nomatch q))
theorem Hid.put_comm {H : Hid} {a b : Addr} {o p : Obj} (h : a ≠ b) : (H.put a o).put b p = (H.put b p).put a o := by
  unfold Hid.put
  congr 1
  funext x
  dsimp only
  by_cases h1 : x = a
  · rw [if_pos h1, if_neg (by rw [h1]; exact h), if_pos h1]
  rw [if_neg h1]
  by_cases h2 : x = b
  · rw [if_pos h2, if_neg h1]
  rw [if_neg h2, if_neg h1]
theorem Rel.turnP {ob ob' : Obj} (R : Rel g c (H.put a ob) S s) {h' : Heap} {tk : Tok} (hk : Heap.ExtBut a s.heap h') (hn : h'.get? a = some ob') (hc : ∀ u, ob.data = .cell u -> False) : Rel g c (H.put a ob') S { s with heap := h', toks := tk } := by
  have : Rel g c ((H.put a ob).put a ob') S { s with heap := h', toks := tk } := R.turn (H.put_self a ob) hk hn hc
  rwa [H.put_put] at this
theorem setFlight1 {A : Around} {e : Addr} {cls : Value} {E : Value -> Shared -> Prop} {Q : Unit -> Shared -> Prop} (x : Fly1 g c H S s e cls) (h : ∀ s', Fly1 g c H S s' e cls -> Q () s') : wpAny (model g.prog g.w) A (setFlight (.ref e) none) Q E s := by
  obtain ⟨hn, oe, vs, T, oT, ts, h1, h2, h3, h4, h5, h6, h7, h8, R⟩ := x
  have hT : (H.put e oe).objs T = none := (if_neg h2).trans h1
  have ge : ((H.put e oe).put T oT).objs e = some oe := (if_neg (Ne.symm h2)).trans (H.put_self e oe)
  have gT : ((H.put e oe).put T oT).objs T = some oT := Hid.put_self _ _ _
  unfold setFlight
  refine wpAny_bind (wpAny_field (R.hid _ _ ge) h4 h5 ?_)
  rw [if_pos (show (Value.ref T != Value.none) = true from by simp)]
  refine wpAny_setField (R.hid _ _ gT) h6 h7 (h _ ⟨hn, oe, vs, T, oT.mapFields (·.setIfInBounds 3 .none), _, h1, h2, h3, h4, h5, Obj.data_mapFields h6 _, by simpa using h7, by simp [h7], ?_⟩)
  exact R.turnP (tk := s.toks) ((Heap.SameBut.update ..).extBut) (Heap.get?_update_self _ (R.hid _ _ gT) (Obj.isFreed_of_fields (Obj.data_mapFields h6 _))) (fun u q => by rw [h6] at q; exact (nomatch q))
theorem note0 {A : Around} {e : Addr} {cls : Value} {E : Value -> Shared -> Prop} {Q : Unit -> Shared -> Prop} (hA : A.frames = c.A.frames) (Fo : FrOk g c F H) (x : Fly0 g c H S s e cls)
    (h : ∀ H' s', UpTo F H H' -> Fly1 g c H' S s' e cls -> Q () s') : wpAny (model g.prog g.w) A (noteFrame (.ref e) c.env) (fun _ s₁ => wpAny (model g.prog g.w) A (setFlight (.ref e) none) Q E s₁) E s := by
  obtain ⟨hn, oe, vs, h3, h4, h5, R⟩ := x
  have Fo' : FrOk g c F (H.put e oe) := Fo.put hn
  refine el_EAA (Fo'.kinds R) ?_; intro outer f1 f2 f3
  have ge : (H.put e oe).objs e = some oe := H.put_self e oe
  have hsz : 1 < vs.size := (Array.getElem?_eq_some_iff.mp h5).1
  unfold noteFrame
  simp only [Fo.me]
  refine wpAny_bind (wpAny_field (R.hid _ _ ge) h4 h5 ?_)
  rw [if_neg (by decide)]
  refine entry_new (hA.trans f1) f3 Fo.me (R.hid _ _ ge) h4 hsz fun h₁ ts hs₁ he₁ hts h3t => ?_
  rw [f2] at hs₁
  refine el_EA (R.slotsOnly (tk := s.toks) Fo' hs₁) ?_; intro H₁ u₁ R₁
  refine el_A (u₁.put_cut (Fo.not hn) hn) ?_; intro u₂ e₂
  rw [e₂] at R₁
  generalize hH₂ : H₁.cut e = H₂ at *
  have hn₂ : H₂.objs e = none := by rw [← hH₂]; exact if_pos rfl
  have hT₁ : h₁.get? h₁.objs.size = none := size_none _
  have R₂ : Rel g c ((H₂.put e oe).put h₁.objs.size (tbObj ts)) S { s with heap := h₁.push (tbObj ts) } := R₁.hide (tk := s.toks) (ob := tbObj ts) (h' := h₁.push (tbObj ts)) (Heap.ExtBut.push (Heap.ExtBut.refl _ _) _) (size_none _) (Heap.get?_push_size _ rfl)
  have hTfree : (H₂.put e oe).objs h₁.objs.size = none := R₁.free_hid (size_none _)
  have hTe : h₁.objs.size ≠ e := fun q => by rw [q, H₂.put_self] at hTfree; exact Mine.sn hTfree
  have hTH : H₂.objs h₁.objs.size = none := (if_neg hTe).symm.trans hTfree
  rw [Hid.put_comm (Ne.symm hTe)] at R₂
  have R₃ := R₂.turnP (tk := s.toks) (h' := (h₁.push (tbObj ts)).update e (Obj.mapFields (·.setIfInBounds 1 (.ref h₁.objs.size)))) ((Heap.SameBut.update ..).extBut) (Heap.get?_update_self _ (Heap.get?_push_of_some _ he₁) (Obj.isFreed_of_fields (Obj.data_mapFields h4 _))) (fun u q => by rw [h4] at q; exact (nomatch q))
  rw [Hid.put_comm hTe] at R₃
  have hd₃ := Obj.data_mapFields h4 (·.setIfInBounds 1 (Value.ref h₁.objs.size))
  -- the flight is unset
  have gT : ((H₂.put e (oe.mapFields (·.setIfInBounds 1 (.ref h₁.objs.size)))).put h₁.objs.size (tbObj ts)).objs h₁.objs.size = some (tbObj ts) := Hid.put_self _ _ _
  have ge' : ((H₂.put e (oe.mapFields (·.setIfInBounds 1 (.ref h₁.objs.size)))).put h₁.objs.size (tbObj ts)).objs e = some (oe.mapFields (·.setIfInBounds 1 (.ref h₁.objs.size))) := (if_neg (Ne.symm hTe)).trans (Hid.put_self _ _ _)
  unfold setFlight
  refine wpAny_bind (wpAny_field (R₃.hid _ _ ge') hd₃ (x := .ref h₁.objs.size) (by simp [hsz]) ?_)
  rw [if_pos (show (Value.ref h₁.objs.size != Value.none) = true from by simp)]
  refine wpAny_setField (R₃.hid _ _ gT) rfl hts (h H₂ _ u₂ ⟨hn₂, _, _, h₁.objs.size, (tbObj ts).mapFields (·.setIfInBounds 3 .none), _, hTH, hTe, (Obj.cls_mapFields ..).trans h3, hd₃, by simp [hsz], Obj.data_mapFields rfl _, by simpa using hts, by simp [hts], ?_⟩)
  exact R₃.turnP (tk := s.toks) ((Heap.SameBut.update ..).extBut) (Heap.get?_update_self _ (R₃.hid _ _ gT) (Obj.isFreed_of_fields (Obj.data_mapFields rfl _))) (fun u q => by exact (nomatch q))
theorem note1 {A : Around} {e : Addr} {cls : Value} {E : Value -> Shared -> Prop} {Q : Unit -> Shared -> Prop} (hA : A.frames = c.A.frames) (Fo : FrOk g c F H) (x : Fly1 g c H S s e cls)
    (h : ∀ H' s', UpTo F H H' -> Fly1 g c H' S s' e cls -> Q () s') : wpAny (model g.prog g.w) A (noteFrame (.ref e) c.env) (fun _ s₁ => wpAny (model g.prog g.w) A (setFlight (.ref e) none) Q E s₁) E s := by
  obtain ⟨hn, oe, vs, T₀, oT₀, ts₀, k1, k2, h3, h4, h5, k6, k7, k8, R₀⟩ := x
  have Fo' : FrOk g c F (H.put e oe) := Fo.put hn
  have kT : (H.put e oe).objs T₀ = none := (if_neg k2).trans k1
  have gT₀ : ((H.put e oe).put T₀ oT₀).objs T₀ = some oT₀ := Hid.put_self _ _ _
  have ge₀ : ((H.put e oe).put T₀ oT₀).objs e = some oe := (if_neg (Ne.symm k2)).trans (H.put_self e oe)
  have hsz : 1 < vs.size := (Array.getElem?_eq_some_iff.mp h5).1
  unfold noteFrame
  simp only [Fo.me]
  refine wpAny_bind (wpAny_field (R₀.hid _ _ ge₀) h4 h5 ?_)
  rw [if_pos (show (Value.ref T₀ != Value.none) = true from by simp)]
  refine wpAny_bind (wpAny_field (R₀.hid _ _ gT₀) k6 k8 ?_)
  rw [if_neg (show ¬ ((Value.none == rawInt c.env.locals) = true) from by simp [rawInt])]
  refine wpAny_bind (wpAny_setField (R₀.hid _ _ gT₀) k6 k7 ?_)
  have R := (R₀.turnP (tk := s.toks) (h' := s.heap.update T₀ (Obj.mapFields (·.setIfInBounds 3 .none))) ((Heap.SameBut.update ..).extBut) (Heap.get?_update_self _ (R₀.hid _ _ gT₀) (Obj.isFreed_of_fields (Obj.data_mapFields k6 _))) (fun u q => by rw [k6] at q; exact (nomatch q))).unput kT (fun u q => by rw [Obj.data_mapFields k6] at q; exact (nomatch q))
  have ge : (H.put e oe).objs e = some oe := H.put_self e oe
  refine el_EAA (Fo'.kinds R) ?_; intro outer f1 f2 f3
  generalize hs' : ({ s with heap := s.heap.update T₀ (Obj.mapFields (·.setIfInBounds 3 .none)), toks := s.toks } : Shared) = s₀ at *
  refine entry_new (hA.trans f1) f3 Fo.me (R.hid _ _ ge) h4 hsz fun h₁ ts hs₁ he₁ hts h3t => ?_
  rw [f2] at hs₁
  refine el_EA (R.slotsOnly (tk := s₀.toks) Fo' hs₁) ?_; intro H₁ u₁ R₁
  refine el_A (u₁.put_cut (Fo.not hn) hn) ?_; intro u₂ e₂
  rw [e₂] at R₁
  generalize hH₂ : H₁.cut e = H₂ at *
  have hn₂ : H₂.objs e = none := by rw [← hH₂]; exact if_pos rfl
  have hT₁ : h₁.get? h₁.objs.size = none := size_none _
  have R₂ : Rel g c ((H₂.put e oe).put h₁.objs.size (tbObj ts)) S { s₀ with heap := h₁.push (tbObj ts) } := R₁.hide (tk := s₀.toks) (ob := tbObj ts) (h' := h₁.push (tbObj ts)) (Heap.ExtBut.push (Heap.ExtBut.refl _ _) _) (size_none _) (Heap.get?_push_size _ rfl)
  have hTfree : (H₂.put e oe).objs h₁.objs.size = none := R₁.free_hid (size_none _)
  have hTe : h₁.objs.size ≠ e := fun q => by rw [q, H₂.put_self] at hTfree; exact Mine.sn hTfree
  have hTH : H₂.objs h₁.objs.size = none := (if_neg hTe).symm.trans hTfree
  rw [Hid.put_comm (Ne.symm hTe)] at R₂
  have R₃ := R₂.turnP (tk := s₀.toks) (h' := (h₁.push (tbObj ts)).update e (Obj.mapFields (·.setIfInBounds 1 (.ref h₁.objs.size)))) ((Heap.SameBut.update ..).extBut) (Heap.get?_update_self _ (Heap.get?_push_of_some _ he₁) (Obj.isFreed_of_fields (Obj.data_mapFields h4 _))) (fun u q => by rw [h4] at q; exact (nomatch q))
  rw [Hid.put_comm hTe] at R₃
  have hd₃ := Obj.data_mapFields h4 (·.setIfInBounds 1 (Value.ref h₁.objs.size))
  -- the flight is unset
  have gT : ((H₂.put e (oe.mapFields (·.setIfInBounds 1 (.ref h₁.objs.size)))).put h₁.objs.size (tbObj ts)).objs h₁.objs.size = some (tbObj ts) := Hid.put_self _ _ _
  have ge' : ((H₂.put e (oe.mapFields (·.setIfInBounds 1 (.ref h₁.objs.size)))).put h₁.objs.size (tbObj ts)).objs e = some (oe.mapFields (·.setIfInBounds 1 (.ref h₁.objs.size))) := (if_neg (Ne.symm hTe)).trans (Hid.put_self _ _ _)
  unfold setFlight
  refine wpAny_bind (wpAny_field (R₃.hid _ _ ge') hd₃ (x := .ref h₁.objs.size) (by simp [hsz]) ?_)
  rw [if_pos (show (Value.ref h₁.objs.size != Value.none) = true from by simp)]
  refine wpAny_setField (R₃.hid _ _ gT) rfl hts (h H₂ _ u₂ ⟨hn₂, _, _, h₁.objs.size, (tbObj ts).mapFields (·.setIfInBounds 3 .none), _, hTH, hTe, (Obj.cls_mapFields ..).trans h3, hd₃, by simp [hsz], Obj.data_mapFields rfl _, by simpa using hts, by simp [hts], ?_⟩)
  exact R₃.turnP (tk := s₀.toks) ((Heap.SameBut.update ..).extBut) (Heap.get?_update_self _ (R₃.hid _ _ gT) (Obj.isFreed_of_fields (Obj.data_mapFields rfl _))) (fun u q => by exact (nomatch q))
end
end
section
open Sem (wp)
section
variable {M : Model} {A : Around} {E : Value -> Shared -> Prop} {s : Shared}
theorem callWith_mw {pos : Pos} {mw it : Addr} {Q : Value -> Shared -> Prop} (hm : s.heap.get? mw = some (mwObj it)) (h : wpAny M A (call (.ref mw) []) Q E s) : wpAny M A (callWith pos (.ref mw) [] [] []) Q E s := by
  unfold callWith
  refine wpAny_bind (wpAny_holding (evalArgs_nil3 (wpAny_bind (wpAny_standAt ?_))))
  refine wpAny_bind (m := keeperOf (.ref mw)) ?_
  unfold keeperOf
  refine wpAny_bind (wpAny_load hm ?_)
  refine wpAny_pure (a := Keeper.machine) ?_
  exact wpAny_bind (wpAny_mono h (fun r s₂ hr => wpAny_bind (wpAny_holding (wpAny_point (wpAny_pure hr)))) fun _ _ x => x)
end
theorem stop_exc : isSubtype (.type "StopIteration") (.type "BaseException") = pure true := by rw [isSubtype_type]; kernel_rfl
theorem stop_meta : isSubtype (.type ((Manifest.find? "StopIteration").elim "type" fun x => x.metatype)) (.type "tuple") = pure false := by rw [isSubtype_type]; kernel_rfl
theorem stop_self : isSubtype (.type "StopIteration") (.type "StopIteration") = pure true := by rw [isSubtype_type]; kernel_rfl
theorem boot_stop : bootBuiltins "StopIteration" = some (.type "StopIteration") := by decide +kernel
section
variable {g : Gl Int} {c : Ac} {S S' : St Int} {Q : Value -> St Int -> Prop} {a b : Addr} {xs ys : List Value} {F : List Addr} {H H' H'' : Hid} {s : Shared}
noncomputable def WXsM (g : Gl Int) (c : Ac) (ss : List Stmt) (S : St Int) (Q : Flow -> St Int -> Prop) : Prop :=
  ∀ (e : Addr) H s, Rel g c H S s -> wpAny (model g.prog g.w) (c.A.mark (some (.ref e))) (execs ss c.env) (fun f s' => ∃ S', Rel g c H S' s' /\ Q (erF f) S') (fun _ _ => False) s
theorem Rel.nameA {A : Around} (R : Rel g c H S s) {x : Str} {v : Value} {E P : Value -> Shared -> Prop} (hv : S.m x = some v) (hk : isVar c.env.scope x = true) (h : ∀ u, er u = v -> P u s) {pos : Pos} :
    wpAny (model g.prog g.w) A (eval (.Name x pos) c.env) P E s := by
  refine el_AA (isVar_kind hk) ?_; intro hk h1 hn
  refine wpAny_Name ?_ h1
  rcases hk with hk | hk | hk
  · (refine el_EA R.loc ?_; intro m hm hl)
    refine el_EA (hl x v hv hk) ?_; intro u hu he
    exact wpAny_loadName_local R.ac.kind hk hm hu (h u he)
  · (refine el_E (R.ac.cells x hk) ?_; intro a ha)
    cases hx : c.ext x with
    | false =>
      refine el_EA (R.cel x a ha ⟨hk, hx⟩) ?_; intro u hu he
      have := he v hv
      cases u with
      | none => exact Mine.ns this
      | some u => exact wpAny_loadName_cell R.ac.kind hk ha hu (h u (Option.some.inj this))
    | true =>
      refine el_EEAA (R.fre x a ha hx v hv) ?_; intro ob u hm hd he
      exact wpAny_loadName_cell R.ac.kind hk ha ⟨ob, R.hid _ _ hm, hd⟩ (h u he)
  refine el_AE (R.ac.frees x hk) ?_; intro hx a ha
  refine el_EEAA (R.fre x a ha hx v hv) ?_; intro ob u hm hd he
  exact wpAny_loadName_free R.ac.kind hk ha ⟨ob, R.hid _ _ hm, hd⟩ (h u he) hn
theorem popA {A : Around} {E P : Value -> Shared -> Prop} {n : Str} {np apos pos : Pos} {st : Addr} {x : Value} {pl : Env -> Sem Bool} (R : Rel g c H S s)
    (he : ∀ env, eval (.Call (.Attribute (.Name n np) (Str.ofString "pop") apos) [] [] pos) env = (do
      let ov ← eval (.Name n np) env
      standAt apos.atName
      let (f, first) ← holding [ov] (getMethod ov (Str.ofString "pop") (pl env))
      callWith pos f first (backTo pos (starEach [] env)) []))
    (hk : isVar c.env.scope n = true) (hv : S.m n = some (.ref st)) (hst : S.σ st = some (.list (xs ++ [x]))) (hz : xs.length + 1 ≤ sizeLine)
    (h : ∀ v s', er v = x -> Rel g c H ⟨S.m, upd S.σ st (.list xs)⟩ s' -> P v s') : wpAny (model g.prog g.w) A (eval (.Call (.Attribute (.Name n np) (Str.ofString "pop") apos) [] [] pos) c.env) P E s := by
  refine MethodCall_ (pl := pl c.env) (R.nameA hv hk fun u hu => ?_) (he _)
  obtain rfl := er_ref hu
  refine el_EEAAA (R.list hst) ?_; intro arr n h1 h2 h3 h4
  refine el_EAA R.led ?_; intro m Fv N' hl
  refine kl_method N' (mem_allobjs.mpr ⟨⟨R.sto_ne hst, R.sto_new hst⟩, h1⟩ : (st, listOf arr n) ∈ _) PySem.F.slot_list_pop PySem.F.type_list_pop ?_
  refine callWith_builtin rfl (evalArgs_nil3 ?_)
  obtain ⟨ys, y, e1, e2, e3⟩ : ∃ ys y, arr.toList = ys ++ [y] /\ ys.map er = xs /\ er y = x := by
    refine el_EEAA (List.map_eq_append_iff.mp h3) ?_; intro ys l e1 e2 e3
    refine el_EA (map1 e3) ?_; intro y rfl_160 e4; subst rfl_160
    exact ⟨ys, y, e1, e2, e4⟩
  refine el_EA (R.updLed h1 hst (listOf ys.toArray (n + 1))) ?_; intro news' U back
  exact kl_pop Fv N' (by rw [e1]; exact kl_last_eq ys y) U (by rw [e1]; simpa [← e2] using hz) (fun h' F' N' => h y _ e3 (back hl F' N' (Is.list (by simpa using e2))))
theorem delA {A : Around} {E : Value -> Shared -> Prop} {P : Unit -> Shared -> Prop} {kv : Int -> Value} {k : Int} {kvs : List (Int × Value)} {ep : Nat} {d : Addr} {j : Value} (K : KeyOk g kv) (R : Rel g c H S s) (ha : S.σ d = some (.dict kvs ep)) (hz : kvs.length ≤ sizeLine) (hk : (valueAt kvs k).isSome = true) (hj : er j = kv k)
    (h : ∀ ep' s', Rel g c H ⟨S.m, upd S.σ d (.dict (without kvs k) ep')⟩ s' -> P () s') : wpAny (model g.prog g.w) A (delItem (.ref d) j) P E s := by
  refine el_EEAA (R.dict ha) ?_; intro ks ob h1 h2 h3
  have hD := h2.dictOf
  unfold delItem
  try with_reducible refine wpAny_holding ?_
  refine wpAny_bind (wpAny_sequenceKey hD.typeIs (by decide) ?_)
  refine wpAny_bind (wpAny_callSpecial?_slot (name := Str.ofString "__delitem__") hD.typeIs PySem.F.slot_dict_delitem
    (call_meetsIn PySem.F.slot_dict_delitem hD.typeIs PySem.F.entry_dict_delitem (PySem.F.args_dict_delitem_2 _ _) (meets_dict_delitem_pairs g.knd d (K.is k j hj)) ⟨ks, hD, (by rw [← List.length_map (f := erP), h3]; exact hz), (by
      rw [← h3, valueAt_er, Option.isSome_map] at hk; exact hk), fun h' hmm hs => ?_⟩))
  refine el_E (R.dict_put (tk := s.toks + 1) ha hmm hs) ?_; intro ep' R'
  rw [← without_er, h3] at R'
  exact wpAny_pure (h ep' _ R')
theorem WXsM_pops {kv : Int -> Value} {k : Int} {kvs : List (Int × Value)} {ep : Nat} {D T I : Addr} {y : Value} {nd nt ni : Str} {p₀ p₁ p₂ p₃ p₄ p₅ p₆ p₇ p₈ p₉ : Pos} {pl₁ pl₂ : Env -> Sem Bool} {Q : Flow -> St Int -> Prop} (K : KeyOk g kv)
    (he₁ : ∀ env, eval (.Call (.Attribute (.Name nt p₁) (Str.ofString "pop") p₂) [] [] p₃) env = (do
      let ov ← eval (.Name nt p₁) env
      standAt p₂.atName
      let (f, first) ← holding [ov] (getMethod ov (Str.ofString "pop") (pl₁ env))
      callWith p₃ f first (backTo p₃ (starEach [] env)) []))
    (he₂ : ∀ env, eval (.Call (.Attribute (.Name ni p₆) (Str.ofString "pop") p₇) [] [] p₈) env = (do
      let ov ← eval (.Name ni p₆) env
      standAt p₇.atName
      let (f, first) ← holding [ov] (getMethod ov (Str.ofString "pop") (pl₂ env))
      callWith p₈ f first (backTo p₈ (starEach [] env)) []))
    (hs : ∀ env, swapsWith (.Call (.Attribute (.Name ni p₆) (Str.ofString "pop") p₇) [] [] p₈) none p₉.line env = pure false)
    (kd : isVar c.env.scope nd = true) (kt : isVar c.env.scope nt = true) (ki : isVar c.env.scope ni = true)
    (vd : S.m nd = some (.ref D)) (vt : S.m nt = some (.ref T)) (vi : S.m ni = some (.ref I))
    (hD : S.σ D = some (.dict kvs ep)) (hT : S.σ T = some (.list (xs ++ [kv k]))) (hI : S.σ I = some (.list (ys ++ [y]))) (hTI : T ≠ I)
    (hz : kvs.length ≤ sizeLine) (hx : xs.length + 1 ≤ sizeLine) (hy : ys.length + 1 ≤ sizeLine) (hk : (valueAt kvs k).isSome = true)
    (h : ∀ ep', Q .next ⟨S.m, upd (upd (upd S.σ T (.list xs)) D (.dict (without kvs k) ep')) I (.list ys)⟩) :
    WXsM g c [.Delete [.Subscript (.Name nd p₄) (.Call (.Attribute (.Name nt p₁) (Str.ofString "pop") p₂) [] [] p₃) p₅] p₀, .Expr (.Call (.Attribute (.Name ni p₆) (Str.ofString "pop") p₇) [] [] p₈) p₉] S Q := by
  intro e H s R
  o_shape
  have hDT : D ≠ T := fun q => by rw [q, hT] at hD; exact (nomatch hD)
  have hDI : D ≠ I := fun q => by rw [q, hI] at hD; exact (nomatch hD)
  refine wpAny_execs_cons (wpAny_Delete (wpAny_deleteEach_cons (delete_Subscript (R.nameA vd kd fun u hu => popA (pl := pl₁) R he₁ kt vt hT hx fun v s₁ hv R₁ => ?_))))
  obtain rfl := er_ref hu
  refine delA K R₁ (show upd S.σ T _ D = _ from (if_neg hDT).trans hD) hz hk hv fun ep' s₂ R₂ => wpAny_deleteEach_nil ?_
  refine wpAny_execs_cons ?_
  have hi : interactive c.env = false := by
    unfold interactive
    rw [R.ac.kind]
    rfl
  rw [exec_Expr c.env _ _ hi (hs _)]
  refine wpAny_bind (wpAny_standAt (wpAny_bind (popA (pl := pl₂) R₂ he₂ ki vi (show upd (upd S.σ T _) D _ I = _ from (if_neg (Ne.symm hDI)).trans ((if_neg (Ne.symm hTI)).trans hI)) hy fun v s₃ hv R₃ => wpAny_dropValue (wpAny_execs_nil ⟨_, R₃, h ep'⟩))))
/-
theorem eval_next {E P : Value -> Shared -> Prop} {o i : Expr} {sp cp : Pos}
    (h : WE g c (.Subscript o i sp) S fun v S₁ => ∃ mw it l n, v = .ref mw /\ S₁.σ mw = some (mwO it) /\ S₁.σ it = some (litO l n) /\ ∃ xs, S₁.σ l = some (.list xs) /\
      (∀ x, xs[n]? = some x -> ∀ H u s', er u = x -> Rel g c H ⟨S₁.m, upd S₁.σ it (litO l (n + 1))⟩ s' -> P u s') /\ (xs[n]? = none -> ∀ H s' e, Fly0 g c H ⟨S₁.m, upd S₁.σ it (.raw fun _ => True)⟩ s' e (.type "StopIteration") -> E (.ref e) s')) -/
theorem WXF_TryNext {x : Str} {xp sp cp apos bp tp hpos pos : Pos} {o i : Expr} {b₀ : Stmt} {suite : List Stmt} {Q : Flow -> St Int -> Prop} {sc : Scope} (hsc : c.env.scope = sc) (hext : c.ext = fun _ => false) (hx : isOwn sc x = true)
    (hstop : isGlob sc (Str.ofString "StopIteration") = true) (hg : nsIn g.K mainGlobals (Str.ofString "StopIteration") = some none)
    (hsw : ∀ env, swapsWith (.Call (.Subscript o i sp) [] [] cp) (some (.Name x xp)) apos.line env = pure false)
    (h : WE g c (.Subscript o i sp) S fun v S₁ => ∃ mw it l n, v = .ref mw /\ S₁.σ mw = some (mwO it) /\ S₁.σ it = some (litO l n) /\ ∃ xs, S₁.σ l = some (.list xs) /\
      (∀ y, xs[n]? = some y -> Q .brk ⟨setv S₁.m x y, upd S₁.σ it (litO l (n + 1))⟩) /\ (xs[n]? = none -> WXsM g c (b₀ :: suite) ⟨S₁.m, upd S₁.σ it (.raw fun _ => True)⟩ Q)) :
    WXF g c (.Try [.Assign [.Name x xp] (.Call (.Subscript o i sp) [] [] cp) apos, .Break bp] [.ExceptHandler (some (.Name (Str.ofString "StopIteration") tp)) none (b₀ :: suite) hpos] [] [] pos) S Q := by
  intro F H s Fo R
  o_shape
  refine wpAny_Try_except (wpAny_execs_cons (wpAny_Assign_Name (Call_ (goK (h H s R) (fun u s₁ S₁ R₁ q_ => ?_))) (hsw _)))
  refine el_EEEEAAAEAA q_ ?_; clear q_; intro mw it l n hu hmw hit xs hl h1 h2
  obtain rfl := er_ref hu
  refine el_EA (R₁.raw hmw) ?_; intro omw gmw rfl_159; subst rfl_159
  refine el_EAA (R₁.raw hit) ?_; intro oit git hc hd
  refine el_EEAAA (R₁.list hl) ?_; intro arr k l1 l2 l3 l4
  refine callWith_mw gmw (wpAny_call (mw_call gmw (codeAny_builtin entry_listiter_next ?_)))
  cases hn : xs[n]? with
  | some y =>
    refine el_EA (get_er (arr := arr) (by rw [l3]; exact hn)) ?_; intro z e1 e2
    refine next_item ⟨oit, git, hc, hd⟩ l2 e1 fun h' hit' hs => ?_
    refine el_EAA hit' ?_; (try clear hit'); intro ob' g1 g2 g3
    have R₂ := R₁.put (tk := s₁.toks) (o := litO l (n + 1)) hs.extBut hit g1 ⟨g2, g3⟩
    refine goK (W_StoreS (c := c) hsc hext hx (h1 y hn) z e2 H _ R₂) (fun _ s₃ S₃ R₃ q => ?_)
    exact wpAny_execs_cons (wpAny_Break ⟨H, Fo.refl, S₃, R₃, q⟩)
  | none =>
    refine next_end R₁.ac.hd ⟨oit, git, hc, hd⟩ l2 (nthNone (by rw [l3]; exact hn)) fun h' e vs hk ⟨ob', hob'⟩ hfr he hvs => ?_
    have R₂ : Rel g c H ⟨S₁.m, upd S₁.σ it (.raw fun _ => True)⟩ { s₁ with heap := h' } := R₁.put (tk := s₁.toks) (fun b o' hb eo => hk b o' hb eo) hit hob' trivial
    have fr := R₁.fresh hfr
    have hne : e ≠ it := fun q => by rw [q, git] at hfr; exact Mine.sn hfr
    have R₃ : Rel g c (H.put e { cls := .type "StopIteration", data := .fields vs }) ⟨S₁.m, upd S₁.σ it (.raw fun _ => True)⟩ { s₁ with heap := h' } := by
      refine el_EAAAA R₂.role ?_; intro ρ r0 r1 r2 r3 r4
      refine { R₂ with hid := fun b o' eo => ?_, fre := fun y b k1 k2 v ev => ?_, role := ⟨fun b => if b = e then 3 else ρ b, fun b o' eo => ?_, ?_, fun y b k1 k2 => ?_, fun b o' eo => ?_, fun b o' eo => ?_⟩ }
      · unfold Hid.put at eo
        dsimp only at eo
        split at eo
        · rename_i q; subst q; (replace eo := Option.some.inj eo; subst eo); exact he
        exact R₂.hid b o' eo
      · (refine el_EEAA (R₂.fre y b k1 k2 v ev) ?_; intro ob u k3 k4 k5)
        refine ⟨ob, u, (if_neg ?_).trans k3, k4, k5⟩
        rintro rfl
        rw [fr.hH] at k3; exact Mine.ns k3
      · dsimp only; rw [if_neg (by rintro rfl; rw [fr.h0] at eo; exact Mine.ns eo)]; exact r0 b o' eo
      · dsimp only; rw [if_neg (Ne.symm fr.hl)]; exact r1
      · dsimp only; rw [if_neg (fr.hc y b k1 k2)]; exact r2 y b k1 k2
      · dsimp only
        split
        · rfl
        rename_i q
        refine r3 b o' ?_
        unfold Hid.put at eo
        dsimp only at eo
        rwa [if_neg q] at eo
      dsimp only
      rw [if_neg ?_]
      · exact r4 b o' eo
      rintro rfl
      have eo : upd S₁.σ it _ b = some o' := eo
      unfold upd at eo
      rw [if_neg hne, fr.hS] at eo
      exact Mine.ns eo
    refine note0 rfl Fo ⟨fr.hH, _, vs, rfl, rfl, hvs, R₃⟩ fun H₁ s₃ up fly => ?_
    refine wpAny_handleBy_builtin stop_exc stop_meta stop_self ?_
    have R₄ := fly.land
    refine el_A (isGlob_kind (sc := c.env.scope) (by rw [hsc]; exact hstop)) ?_; intro kk kd
    refine Name_function_global R₄.ac.kind kk (loadGlobal_builtin (by rw [R₄.ac.gl]; exact R₄.ok.gl.keeps R₄.keep) (mg_none_of R₄.ok.k R₄.ok.gl hg) (by rw [R₄.ac.bl]; exact R₄.ok.bl.keeps R₄.keep) ((R₄.ok.bi _ (by decide)).trans boot_stop) ?_) kd
    have fly' := fly
    obtain ⟨hno, oe, vs', T, oT, ts, q1, q2, q3, q4, q5, q6, q7, q8, R₅⟩ := fly'
    have ge : ((H₁.put e oe).put T oT).objs e = some oe := (if_neg (Ne.symm q2)).trans (H₁.put_self e oe)
    refine ⟨rfl, ⟨oe, R₅.hid _ _ ge, q3⟩, ?_⟩
    rw [if_pos rfl]
    refine setFlight1 fly fun s₅ fly₅ => ?_
    have R₆ := fly₅.land
    refine goK (h2 hn e H₁ s₅ R₆) (fun f s₆ S₆ R₇ q => ⟨H₁, up, S₆, R₇, q⟩)
end
end
section
open Sem (wp)
section
variable {g : Gl Int} {c : Ac} {S S' : St Int} {Q : Value -> St Int -> Prop} {a b : Addr} {xs ys : List Value} {F : List Addr} {H H' H'' : Hid} {s : Shared}
noncomputable def WMX (g : Gl Int) (c : Ac) {α : Type} (cls : Value) (t : Sem α) (S : St Int) (Q : α -> St Int -> Prop) (QE : St Int -> Prop) : Prop :=
  ∀ F H s, FrOk g c F H -> Rel g c H S s -> wpAny (model g.prog g.w) c.A t (fun a s' => ∃ H', UpTo F H H' /\ ∃ S', Rel g c H' S' s' /\ Q a S')
    (fun e s' => ∃ ea H' S', e = .ref ea /\ UpTo F H H' /\ Fly0 g c H' S' s' ea cls /\ QE S') s
theorem WMX.of {α : Type} {cls : Value} {t : Sem α} {Q : α -> St Int -> Prop} {QE : St Int -> Prop} (h : WMF g c t S Q) : WMX g c cls t S Q QE := fun F H s Fo R => wpAny_mono (h F H s Fo R) (fun _ _ q => q) fun _ _ x => x.elim
noncomputable def WXX (g : Gl Int) (c : Ac) (cls : Value) (st : Stmt) (S : St Int) (Q : Flow -> St Int -> Prop) (QE : St Int -> Prop) : Prop := WMX g c cls (exec st c.env) S (fun f S' => Q (erF f) S') QE
noncomputable def WXsX (g : Gl Int) (c : Ac) (cls : Value) (ss : List Stmt) (S : St Int) (Q : Flow -> St Int -> Prop) (QE : St Int -> Prop) : Prop := WMX g c cls (execs ss c.env) S (fun f S' => Q (erF f) S') QE
theorem WXX.of {cls : Value} {st : Stmt} {Q : Flow -> St Int -> Prop} {QE : St Int -> Prop} (h : WXF g c st S Q) : WXX g c cls st S Q QE := WMX.of h
theorem WXsX.of {cls : Value} {ss : List Stmt} {Q : Flow -> St Int -> Prop} {QE : St Int -> Prop} (h : WXsF g c ss S Q) : WXsX g c cls ss S Q QE := WMX.of h
theorem WXsX_cons {cls : Value} {st : Stmt} {ss : List Stmt} {Q : Flow -> St Int -> Prop} {QE : St Int -> Prop} (h : WXX g c cls st S (fun f S₁ => match f with | .next => WXsX g c cls ss S₁ Q QE | f => Q f S₁) QE) : WXsX g c cls (st :: ss) S Q QE := by
  intro F H s Fo R
  o_shape
  refine wpAny_execs_cons (wpAny_mono (h F H s Fo R) (fun f s₁ q_ => ?_) fun _ _ x => x)
  refine el_EAEA q_ ?_; clear q_; intro H₁ u S₁ R₁ h₁
  cases f with
  | next => exact wpAny_mono (h₁ F H₁ s₁ (Fo.upTo u) R₁) (fun f s₂ ⟨H₂, u₂, q⟩ => ⟨H₂, u.trans u₂, q⟩) fun _ _ ⟨ea, H₂, S₂, e, u₂, q⟩ => ⟨ea, H₂, S₂, e, u.trans u₂, q⟩
  | brk => exact ⟨H₁, u, S₁, R₁, h₁⟩
  | cont => exact ⟨H₁, u, S₁, R₁, h₁⟩
  | ret v => exact ⟨H₁, u, S₁, R₁, h₁⟩
theorem WXX_If {cls : Value} {t : Expr} {b o : List Stmt} {pos : Pos} {Q : Flow -> St Int -> Prop} {QE : St Int -> Prop} (h : WT g c t S fun x S₁ => if x = true then WXsX g c cls b S₁ Q QE else WXsX g c cls o S₁ Q QE) : WXX g c cls (.If t b o pos) S Q QE := by
  intro F H s Fo R
  o_shape
  refine wpAny_If (goK (h H _ R) (fun x s₁ S₁ R₁ h₁ => ?_))
  cases x
  · exact h₁ F H _ Fo R₁
  exact h₁ F H _ Fo R₁
noncomputable def WDX (g : Gl Int) (c : Ac) (cls : Value) (f : Value) (as : List Value) (S : St Int) (Q : Value -> St Int -> Prop) (QE : St Int -> Prop) : Prop :=
  ∀ us, us.map er = as -> ∀ F H s, FrOk g c F H -> Rel g c H S s -> codeAny (model g.prog g.w) c.A (.call f ⟨us, []⟩) (fun r s' => match r with
    | .ok (.ret v) => ∃ H', UpTo F H H' /\ ∃ S', Rel g c H' S' s' /\ Q (er v) S'
    | .ok _ => False
    | .error e => ∃ ea H' S', e = .ref ea /\ UpTo F H H' /\ Fly1 g c H' S' s' ea cls /\ QE S') s
noncomputable def WCX (g : Gl Int) (c : Ac) (cls : Value) (f : Value) (as : List Value) (S : St Int) (Q : Value -> St Int -> Prop) (QE : St Int -> Prop) : Prop :=
  ∀ us, us.map er = as -> ∀ F H s, FrOk g c F H -> Rel g c H S s -> wpAny (model g.prog g.w) c.A (call f us) (fun v s' => ∃ H', UpTo F H H' /\ ∃ S', Rel g c H' S' s' /\ Q (er v) S')
    (fun e s' => ∃ ea H' S', e = .ref ea /\ UpTo F H H' /\ Fly1 g c H' S' s' ea cls /\ QE S') s
theorem WCX.ofD {cls f : Value} {as : List Value} {QE : St Int -> Prop} (h : WDX g c cls f as S Q QE) : WCX g c cls f as S Q QE := fun us hu F H s Fo R => wpAny_call (codeAny_mono (h us hu F H s Fo R) fun r s' q => by
  rcases r with e | (v | _ | _ | _) <;> first | exact q | exact q.elim)
theorem WCX.drop {cls f : Value} {as : List Value} {QE : St Int -> Prop} (h : WCX g c cls f as S (fun v S' => ∃ S'', Le S'' S' /\ Q v S'') (fun S' => ∃ S'', Le S'' S' /\ QE S'')) : WCX g c cls f as S Q QE := fun us hu F H s Fo R =>
  wpAny_mono (h us hu F H s Fo R) (fun v s' ⟨H', u, S₁, R₁, S₂, l, q⟩ => ⟨H', u, S₂, R₁.le l.m l.s, q⟩) fun e s' ⟨ea, H', S₁, e', u, fly, S₂, l, q⟩ => ⟨ea, H', S₂, e', u, by
    obtain ⟨hn, oe, vs, T, oT, ts, h1, h2, h3, h4, h5, h6, h7, h8, R⟩ := fly
    exact ⟨hn, oe, vs, T, oT, ts, h1, h2, h3, h4, h5, h6, h7, h8, R.le l.m l.s⟩, q⟩
theorem WDX_def {cls : Value} {f : Addr} {as : List Value} {B : List (Str × Value)} {body : List Stmt} {scope : Scope} {fd : FuncData} {n : Nat} {QE : St Int -> Prop} (hd : c.Deep (n + 1)) (Fn : FnIs g.K f body scope fd) (hsc : scopeOk scope = true)
    (hbind : ∀ us, us.map er = as -> ∃ bs, bindArgs fd ⟨us, []⟩ = pure bs /\ bs.map (fun p => (p.1, er p.2)) = B)
    (hkind : (B.all fun y => scope.names.lookup y.1 == some .local || scope.names.lookup y.1 == some .cell) = true)
    (h : ∀ c' : Ac, c'.env.scope = scope -> c'.ext = (fun _ => false) -> c'.Deep n -> WXsX g c' cls body ⟨bindM B fun _ => none, S.σ⟩ (fun fl S' => Q (retV fl) ⟨S.m, S'.σ⟩) (fun S' => QE ⟨S.m, S'.σ⟩)) : WDX g c cls (.ref f) as S Q QE := by
  intro us hus F H s Fo R
  o_shape
  refine el_EA (hbind us hus) ?_; intro bs hb rfl_162; subst rfl_162
  refine el_EEE Fn.at_ ?_; intro oc od osl ho
  obtain ⟨k1, k2, k3⟩ : scope.kind = .function /\ scope.isCoroutine = false /\ scope.isGenerator = false := by
    simp only [scopeOk, Bool.and_eq_true, beq_iff_eq, Bool.not_eq_true'] at hsc
    exact ⟨hsc.1.1.1, hsc.1.1.2, hsc.1.2⟩
  have hfs := Fn.scope
  refine codeAny_call_cells R.room (R.in_K _ _ ho) rfl R.nolimit (codeRec_of R.in_K Fn.cd) Fn.body hb Fn.clo (fun y hy => ?_) (fun s₁ x => ?_) (by rw [hfs]; exact k2) (by rw [hfs]; exact k3) (by rw [hfs]; exact k1)
  · rw [hfs]
    have := List.all_eq_true.mp hkind (y.1, er y.2) (List.mem_map.mpr ⟨y, hy, rfl⟩)
    rcases Bool.or_eq_true_iff.mp this with q | q
    · exact .inl (by simpa using q)
    have q' : scope.names.lookup y.1 = some .cell := by simpa using q
    exact .inr ⟨q', cellsFrom_some _ _ _ (.inl q')⟩
  refine el_EAAA (enterF R Fo hd hsc hfs Fn.gl Fn.bl x) ?_; intro H' R' Fo' incl back
  refine wpAny_mono (h ⟨c.A.deeper (callEnvC fd s.heap.objs.size f), callEnvC fd s.heap.objs.size f, fun _ => false⟩ hfs rfl ?_ _ H' s₁ Fo' R') (fun fl s' q_ => ?_) fun e s' q_ => ?_
  · unfold Ac.Deep at hd ⊢
    simp only [Around.deeper]
    exact om01 ‹_›
  · (refine el_EAEA q_ ?_; clear q_; intro H₁ u₁ S' R₂ q)
    refine el_EAA (back H₁ u₁) ?_; intro H₂ u₂ fresh bk
    refine ⟨H₂, u₂, ⟨S.m, S'.σ⟩, bk H₁ H₂ S' s' (fun _ _ e => e) (fun _ _ e => .inl e) (fun _ _ e => e) rfl rfl R₂, ?_⟩
    cases fl <;> exact q
  refine el_EEEAAA q_ ?_; clear q_; intro ea H₁ S' e' u₁ fly q
  subst e'
  unfold leaving
  refine wpAny_bind (note0 (c := ⟨c.A.deeper (callEnvC fd s.heap.objs.size f), callEnvC fd s.heap.objs.size f, fun _ => false⟩) rfl (Fo'.upTo u₁) fly fun H₂ s₂ u₂ fly₂ => ?_)
  obtain ⟨hn, oe, vs, T, oT, ts, h1, h2, h3, h4, h5, h6, h7, h8, R₃⟩ := fly₂
  refine el_EAA (back H₂ (u₁.trans u₂)) ?_; intro H₃ u₃ fresh bk
  have none' : ∀ z, H₂.objs z = none -> H'.objs z = none := fun z hz => by
    by_cases q : z ∈ c.env.locals :: F
    · (refine el_EEA ((u₁.trans u₂).in_ z q) ?_; intro o sl _ e2)
      rw [hz] at e2; exact Mine.ns e2
    rw [← (u₁.trans u₂).out z q]; exact hz
  have none₂ : ∀ z, H₂.objs z = none -> H.objs z = none := fun z hz => by
    cases q : H.objs z with
    | none => rfl
    | some o => have := none' z hz; rw [incl z o q] at this; exact Mine.sn this
  have hn₃ : H₃.objs ea = none := fresh _ (none₂ _ hn)
  have hT₃ : H₃.objs T = none := fresh _ (none₂ _ h1)
  refine ⟨ea, H₃, ⟨S.m, S'.σ⟩, rfl, u₃, ⟨hn₃, oe, vs, T, oT, ts, hT₃, h2, h3, h4, h5, h6, h7, h8, ?_⟩, q⟩
  refine bk ((H₂.put ea oe).put T oT) ((H₃.put ea oe).put T oT) S' s₂ (fun b o e => ?_) (fun b o e => ?_) (fun b o e => ?_) rfl rfl R₃
  · have n1 : b ≠ T := by rintro rfl; rw [h1] at e; exact Mine.ns e
    have n2 : b ≠ ea := by rintro rfl; rw [hn] at e; exact Mine.ns e
    exact (if_neg n1).trans ((if_neg n2).trans e)
  · by_cases n1 : b = T
    · subst n1
      rw [Hid.put_self] at e
      exact .inr ⟨h1, none' _ h1, by rw [Hid.put_self]; exact e⟩
    by_cases n2 : b = ea
    · subst n2
      have e : (H₃.put b oe).objs b = some o := (if_neg n1).symm.trans e
      rw [Hid.put_self] at e
      exact .inr ⟨hn, none' _ hn, (if_neg n1).trans ((Hid.put_self _ _ _).trans e)⟩
    exact .inl ((if_neg n2).symm.trans ((if_neg n1).symm.trans e))
  have n1 : b ≠ T := by rintro rfl; rw [hT₃] at e; exact Mine.ns e
  have n2 : b ≠ ea := by rintro rfl; rw [hn₃] at e; exact Mine.ns e
  exact (if_neg n1).trans ((if_neg n2).trans e)
theorem Rel.hideNew {ob : Obj} {e : Addr} (R₂ : Rel g c H S s) (fr : Fresh g c H S e) (he : s.heap.get? e = some ob) : Rel g c (H.put e ob) S s := by
  refine el_EAAAA R₂.role ?_; intro ρ r0 r1 r2 r3 r4
  refine { R₂ with hid := fun b o' eo => ?_, fre := fun y b k1 k2 v ev => ?_, role := ⟨fun b => if b = e then 3 else ρ b, fun b o' eo => ?_, ?_, fun y b k1 k2 => ?_, fun b o' eo => ?_, fun b o' eo => ?_⟩ }
  · unfold Hid.put at eo
    dsimp only at eo
    split at eo
    · rename_i q; subst q; (replace eo := Option.some.inj eo; subst eo); exact he
    exact R₂.hid b o' eo
  · (refine el_EEAA (R₂.fre y b k1 k2 v ev) ?_; intro ob u k3 k4 k5)
    refine ⟨ob, u, (if_neg ?_).trans k3, k4, k5⟩
    rintro rfl
    rw [fr.hH] at k3; exact Mine.ns k3
  · dsimp only; rw [if_neg (by rintro rfl; rw [fr.h0] at eo; exact Mine.ns eo)]; exact r0 b o' eo
  · dsimp only; rw [if_neg (Ne.symm fr.hl)]; exact r1
  · dsimp only; rw [if_neg (fr.hc y b k1 k2)]; exact r2 y b k1 k2
  · dsimp only
    split
    · rfl
    rename_i q
    refine r3 b o' ?_
    unfold Hid.put at eo
    dsimp only at eo
    rwa [if_neg q] at eo
  dsimp only
  rw [if_neg ?_]
  · exact r4 b o' eo
  rintro rfl
  rw [fr.hS] at eo
  exact Mine.ns eo
theorem WEF_Meth {o : Expr} {name : Str} {apos pos : Pos} {args : List Expr} {pl : Env -> Sem Bool}
    (he : ∀ env, eval (.Call (.Attribute o name apos) args [] pos) env = (do
      let ov ← eval o env
      standAt apos.atName
      let (f, first) ← holding [ov] (getMethod ov name (pl env))
      callWith pos f first (backTo pos (starEach args env)) [])) (hargs : args = [])
    (h : WE g c o S fun ov S₁ => WGM g c ov name S₁ fun f first S₂ => Keeps g.K f = true /\ WCX g c .none f first S₂ Q fun _ => False) : WEF g c (.Call (.Attribute o name apos) args [] pos) S Q := by
  subst hargs
  exact fun F H s Fo R => MethodCall_ (pl := pl c.env) (wpAny_mono (h H _ R) (fun _ _ ⟨_, R₁, h₁⟩ => wpAny_mono (h₁ _ _ rfl H _ R₁) (fun fx s₂ ⟨S₂, R₂, hk, h₂⟩ => by
    obtain ⟨f, first⟩ := fx
    have e : er f = f := (keeps_er hk f rfl).symm
    have h₂ : WCX g c .none (er f) (first.map er) S₂ Q fun _ => False := h₂
    have hk : Keeps g.K (er f) = true := hk
    rw [e] at h₂ hk
    refine keeps_cw hk rfl (evalArgs_nil3 ⟨R₂.in_K, ?_⟩)
    rw [List.append_nil]
    exact wpAny_mono (h₂ first rfl F H s₂ Fo R₂) (fun _ _ q => q) fun e s' ⟨_, _, _, _, _, _, q⟩ => q.elim) fun _ _ x => x.elim) fun _ _ x => x.elim) (he _)
theorem WEF_Call {f : Str} {p pos : Pos} {e : Expr} {rest : List Expr} (hs : (e :: rest).all notStar = true) (h : WE g c (.Name f p) S fun fv S₁ => Keeps g.K fv = true /\ WEs g c (e :: rest) S₁ fun vs S₂ => WCX g c .none fv vs S₂ Q fun _ => False) : WEF g c (.Call (.Name f p) (e :: rest) [] pos) S Q :=
  fun F H s Fo R => wpAny_Call_NameR (wpAny_mono (h H _ R) (fun fv s₁ ⟨S₁, R₁, hk, h₁⟩ => by
    have e' : er fv = fv := (keeps_er hk fv rfl).symm
    rw [e'] at hk h₁
    refine el_A (Bool.and_eq_true_iff.mp (by simpa using hs : (notStar e && rest.all notStar) = true)) ?_; intro h1 h2
    have hp := starEach_plain (pos := pos) (env := c.env) hs
    have := h₁ pos H s₁ R₁
    rw [starEach_notStar h1] at this hp ⊢
    exact keeps_cw hk hp (evalArgs_plain (goK this (fun vs s₂ S₂ R₂ q => ⟨R₂.in_K, wpAny_mono (q vs rfl F H s₂ Fo R₂) (fun _ _ q => q) fun e s' ⟨_, _, _, _, _, _, q⟩ => q.elim⟩)))) fun _ _ x => x.elim)
structure ExcOk (g : Gl Int) (x : Str) (C : Addr) : Prop where
  bound : nsIn g.K mainGlobals x = some (some (.ref C))
  exc : excIn g.K C [.type "ValueError", .type "Exception", .type "BaseException", .type "object"] "ValueError.__new__" = true
theorem ExcOk.own {x : Str} {C : Addr} (E : ExcOk g x C) (R : Rel g c H S s) : OwnCls x C [.type "ValueError", .type "Exception", .type "BaseException", .type "object"] "ValueError.__new__" g.mg g.h₀ :=
  R.ok.tr.elim fun _ h => h.elim fun _ T => own_of_in R.ok.k T E.bound E.exc
theorem WXX_Raise {x : Str} {C : Addr} {np cpos pos : Pos} {e₀ : Expr} {rest : List Expr} {Q : Flow -> St Int -> Prop} {QE : St Int -> Prop} (E : ExcOk g x C) (hk : isGlob c.env.scope x = true) (hs : (e₀ :: rest).all notStar = true)
    (h : WEs g c (e₀ :: rest) S fun vs S₂ => vs.length ≤ sizeLine /\ QE S₂) : WXX g c (.ref C) (.Raise (some (.Call (.Name x np) (e₀ :: rest) [] cpos)) none pos) S Q QE := by
  intro F H s Fo R
  o_shape
  refine el_A (isGlob_kind hk) ?_; intro kk kd
  have O := E.own R
  refine el_EEEEEEEEEEEEEEEEEAAA O.obj ?_; intro tl Nn nm q bs hdct sn sub ab col dd k0 k1 k2 k3 k5 mN hC hN hni T
  refine el_A (Bool.and_eq_true_iff.mp (by simpa using hs : (notStar e₀ && rest.all notStar) = true)) ?_; intro h1 h2
  have hp := starEach_plain (pos := cpos) (env := c.env) hs
  refine wpAny_Raise_call_subT (C := C) (nm := nm) (q := q) (N := Nn) (bs := bs) (bm := tl) (hdct := hdct) (sn := sn) (sub := sub) (ab := ab) (col := col) (dd := dd) (k0 := k0) (k1 := k1) (k2 := k2) (k3 := k3) (k5 := k5)
    PySem.F.excBase_ValueError (mN := mN) (T.hasType PySem.F.excBase_ValueError.hasBase) R.ac.hd hp hni (Name_function_global R.ac.kind kk (loadGlobal_global (by rw [R.ac.gl]; exact R.ok.gl.keeps R.keep) (mg_of R.ok.k R.ok.gl E.bound) ⟨rfl, ?_⟩) kd)
  have := h cpos H s R
  rw [starEach_notStar h1] at this ⊢
  refine evalArgs_plain (goK this (fun vs s₂ S₂ R₂ q_ => ?_))
  refine el_A q_ ?_; clear q_; intro hz q
  refine ⟨rfl, by simpa using hz, R₂.keep _ _ hC, hN.keeps R₂.keep, T.keeps R₂.keep, fun h' e hm => ?_⟩
  refine el_EAA hm.there ?_; intro t ht _ _
  have R₃ : Rel g c H S₂ { s₂ with heap := h' } := R₂.grow (tk := s₂.toks) hm.keeps
  have fr := R₂.fresh hm.new
  exact ⟨e, H, S₂, rfl, Fo.refl, ⟨fr.hH, _, _, rfl, rfl, rfl, R₃.hideNew fr ht⟩, q⟩
end
end
section
open Sem (wp)
section
variable {g : Gl Int} {c : Ac} {S S' : St Int} {Q : Value -> St Int -> Prop} {a b : Addr} {xs ys : List Value} {F : List Addr} {H H' H'' : Hid} {s : Shared}
theorem WXF_TryOwn {x name : Str} {C : Addr} {o : Expr} {apos cp ep np hpos pos : Pos} {restB : List Stmt} {b₀ : Stmt} {suite : List Stmt} {pl : Env -> Sem Bool} {Q : Flow -> St Int -> Prop} (X : ExcOk g x C) (hk : isGlob c.env.scope x = true)
    (he : ∀ env, eval (.Call (.Attribute o name apos) [] [] cp) env = (do
      let ov ← eval o env
      standAt apos.atName
      let (f, first) ← holding [ov] (getMethod ov name (pl env))
      callWith cp f first (backTo cp (starEach [] env)) []))
    (hs : ∀ env, swapsWith (.Call (.Attribute o name apos) [] [] cp) none ep.line env = pure false)
    (h : WE g c o S fun ov S₁ => WGM g c ov name S₁ fun f first S₂ => Keeps g.K f = true /\ WCX g c (.ref C) f first S₂ (fun _ S₃ => WXs g c restB S₃ fun fl S₄ => fl = .next /\ Q .next S₄) fun S₃ => WXsM g c (b₀ :: suite) S₃ Q) :
    WXF g c (.Try (.Expr (.Call (.Attribute o name apos) [] [] cp) ep :: restB) [.ExceptHandler (some (.Name x np)) none (b₀ :: suite) hpos] [] [] pos) S Q := by
  intro F H s Fo R
  o_shape
  have hi : interactive c.env = false := by
    unfold interactive
    rw [R.ac.kind]
    rfl
  refine wpAny_Try_except (wpAny_execs_cons ?_)
  rw [exec_Expr c.env _ _ hi (hs _)]
  refine wpAny_bind (wpAny_standAt (wpAny_bind (MethodCall_ (pl := pl c.env) (goK (h H _ R) (fun _ _ _ R₁ h₁ => goK (h₁ _ _ rfl H _ R₁) (fun fx s₂ S₂ R₂ q_ => ?_))) (he _))))
  refine el_A q_ ?_; clear q_; intro hk h₂
  obtain ⟨f, first⟩ := fx
  have e : er f = f := (keeps_er hk f rfl).symm
  have h₂ : WCX g c (.ref C) (er f) (first.map er) S₂ (fun _ S₃ => WXs g c restB S₃ fun fl S₄ => fl = .next /\ Q .next S₄) fun S₃ => WXsM g c (b₀ :: suite) S₃ Q := h₂
  have hk : Keeps g.K (er f) = true := hk
  rw [e] at h₂ hk
  refine keeps_cw hk rfl (evalArgs_nil3 ⟨R₂.in_K, ?_⟩)
  rw [List.append_nil]
  refine wpAny_mono (h₂ first rfl F H s₂ Fo R₂) (fun v s₃ ⟨H₃, u₃, S₃, R₃, q⟩ => wpAny_dropValue ?_) fun e s₃ q_ => ?_
  · refine goK (q H₃ s₃ R₃) (fun fl s₄ S₄ R₄ q_ => ?_)
    refine el_A q_ ?_; clear q_; intro e₄ q₄
    cases fl with
    | next => exact wpAny_execs_nil ⟨H₃, u₃, S₄, R₄, q₄⟩
    | brk => exact (nomatch e₄)
    | cont => exact (nomatch e₄)
    | ret v => exact (nomatch e₄)
  refine el_EEEAAA q_ ?_; clear q_; intro ea H₃ S₃ e' u₃ fly q
  subst e'
  refine note1 rfl (Fo.upTo u₃) fly fun H₄ s₄ u₄ fly₄ => ?_
  have R₄ := fly₄.land
  refine el_A (isGlob_kind (sc := c.env.scope) ‹_›) ?_; intro kk kd
  refine el_EEEEEEEEEEEEEEEEEAAA ((X.own R₄).obj) ?_; intro tl Nn nm qn bs hdct sn sub ab col dd k0 k1 k2 k3 k5 mN hC hN hni TL
  refine wpAny_handleBy_cons (codeAny_handlers_test (Name_function_global R₄.ac.kind kk (loadGlobal_global (by rw [R₄.ac.gl]; exact R₄.ok.gl.keeps R₄.keep) (mg_of R₄.ok.k R₄.ok.gl X.bound) ?_) kd)) (by intro q; exact (nomatch q))
  have fly' := fly₄
  obtain ⟨hno, oe, vs', T, oT, ts, q1, q2, q3, q4, q5, q6, q7, q8, R₅⟩ := fly'
  have ge : ((H₄.put ea oe).put T oT).objs ea = some oe := (if_neg (Ne.symm q2)).trans (H₄.put_self ea oe)
  obtain ⟨hp, gn, dr, tk, os⟩ := s₄
  refine wpAny_excMatches_sub_self (R₅.keep _ _ hC) (R₅.hid _ _ ge) q3 (TL.hasType PySem.F.excBase_ValueError.hasBase) (codeAny_handlers_suite ?_)
  refine setFlight1 fly₄ fun s₅ fly₅ => ?_
  have R₆ := fly₅.land
  exact goK (q ea H₄ s₅ R₆) (fun f s₆ S₆ R₇ q => ⟨H₄, u₃.trans u₄, S₆, R₇, q⟩)
theorem WXsM_set {x : Str} {px pos p : Pos} {k : Nat} {bv : Bool} {Q : Flow -> St Int -> Prop} (hk : isOwn c.env.scope x = true) (hx : c.ext = fun _ => false) (hs : ∀ env, swapsWith (.Constant (.bool bv) k p) (some (.Name x px)) pos.line env = pure false)
    (h : Q .next ⟨setv S.m x (.bool bv), S.σ⟩) : WXsM g c [.Assign [.Name x px] (.Constant (.bool bv) k p) pos] S Q := by
  intro e H s R
  o_shape
  refine wpAny_execs_cons (wpAny_Assign_Name (wpAny_Constant_bool ?_) (hs _))
  have hx : c.ext x = false := by rw [hx]
  rcases isOwn_kind hk with kk | kk
  · (refine el_EA R.loc ?_; intro m hm hl)
    refine wpAny_storeName_local kk hm (fun h' hn hs => wpAny_execs_nil ?_) (by show (c.env.scope.kind == .class || (c.env.scope.kind == .module && c.env.locals != c.env.globals)) = false; rw [R.ac.kind]; rfl)
    exact ⟨⟨setv S.m x (.bool bv), S.σ⟩, R.setLoc (tk := s.toks + 1) hl kk hx hn hs, h⟩
  refine el_E (R.ac.cells x kk) ?_; intro a ha
  refine el_EA (R.cel x a ha ⟨kk, hx⟩) ?_; intro u₀ hu₀ _
  refine wpAny_storeName_cell R.ac.kind kk ha hu₀ fun h' hn hs => wpAny_execs_nil ?_
  exact ⟨⟨setv S.m x (.bool bv), S.σ⟩, R.setCell (tk := s.toks) ⟨kk, hx⟩ ha hn hs, h⟩
end
end
section
open Sem (wp)
section
variable {g : Gl Int} {c : Ac} {S S' : St Int} {Q : Value -> St Int -> Prop} {a b : Addr} {xs ys : List Value} {F : List Addr} {H H' H'' : Hid} {s : Shared}
theorem WX_Assign2 {t₁ t₂ value : Expr} {pos : Pos} {Q : Flow -> St Int -> Prop} (he : ∀ env, (assignEach [t₁, t₂] env).map (·.2) = [assign t₁ env, assign t₂ env]) (hw : ∀ env, swappedStores [t₁, t₂] value env = pure none)
    (h : WE g c value S fun v S₁ => WAsg g c t₁ v S₁ fun S₂ => WAsg g c t₂ v S₂ (Q .next)) : WX g c (.Assign [t₁, t₂] value pos) S Q :=
  fun H s R => wpAny_Assign_two (goK (h H s R) (fun u _ _ R₁ h₁ => goK (h₁ u rfl H _ R₁) (fun _ _ _ R₂ h₂ => h₂ u rfl H _ R₂))) (he _) (hw _)
theorem WAsg_Sub {o i : Expr} {p : Pos} {v : Value} {Q : St Int -> Prop} (hi : ∀ (l u : Option Expr) (q : Pos), i ≠ .Slice l u none q) (h : WE g c o S fun ov S₁ => WE g c i S₁ fun iv S₂ => WSetItem g c ov iv v S₂ Q) : WAsg g c (.Subscript o i p) v S Q := by
  intro u hu H s R
  o_shape
  rw [assign_Subscript]
  refine wpAny_bind (wpAny_holding (goK (h H s R) (fun ov s₁ S₁ R₁ h₁ => wpAny_bind (wpAny_holding (goK (h₁ H _ R₁) (fun iv s₂ S₂ R₂ h₂ => wpAny_bind (wpAny_standAt (wpAny_bind (wpAny_holding (wpAny_mono (h₂ ov iv u rfl rfl hu H _ R₂) (fun _ s₃ q => ?_) fun _ _ x => x.elim))))))))))
  exact wpAny_releaseD q
theorem meets_bool_list (a : Addr) (arr : Array Value) (hz : (arr.size : Int) < 2 ^ 63) :
    Meets (Builtin.«bool.__new__» ⟨[.type "bool", .ref a], []⟩) (fun _ R s => s.heap.IsList a arr /\ R (.ok (.ret (.bool (!arr.isEmpty)))) { s with toks := s.toks + 1 + 1 }) :=
  Meets.of_wp fun prog w A R s hs => by
    refine el_A hs ?_; (try clear hs); intro hl hs
    obtain ⟨hp, g, d, tk, os⟩ := s
    have f1 := F.conv_sub_bool
    repeat (any_goals (first | assumption | with_reducible apply wpAny_truthy_list hl hz | wp_step))
    all_goals first | exact ⟨_, rfl, hs⟩ | skip
theorem WC_boolL (ha : S.σ a = some (.list xs)) (hz : (xs.length : Int) < 2 ^ 63) (h : Q (.bool (!xs.isEmpty)) S) : WC g c (.type "bool") [.ref a] S Q := by
  intro us hu H s R
  o_shape
  refine el_EA (map1 hu) ?_; intro u rfl_181 hu1; subst rfl_181
  obtain rfl := er_ref hu1
  refine el_EEAAA (R.list ha) ?_; intro arr n h1 h2 h3 h4
  refine call_bool_1 (meets_bool_list a arr (by rw [h4]; exact hz)) ⟨h2, rfl, S, R.toks, ?_⟩
  have : arr.isEmpty = xs.isEmpty := by rw [← h3]; cases arr with | mk l => cases l <;> rfl
  rw [this]; exact h
theorem WC_clear' (ha : S.σ a = some (.list xs)) (hz : xs.length ≤ sizeLine) (h : Q .none ⟨S.m, upd S.σ a (.list [])⟩) : WC g c (.builtin "list.clear") [.ref a] S Q := by
  intro us hu H s R
  o_shape
  refine el_EA (map1 hu) ?_; intro u rfl_180 hu1; subst rfl_180
  obtain rfl := er_ref hu1
  refine el_EEAAA (R.list ha) ?_; intro arr n h1 h2 h3 h4
  obtain ⟨n', hn'⟩ : ∃ n', Obj.mapSeq (fun _ => #[]) (listOf arr n) = listOf #[] n' := ⟨_, rfl⟩
  have R' := R.put (tk := s.toks) (h' := s.heap.update a (Obj.mapSeq fun _ => #[])) (Heap.SameBut.update ..).extBut ha (Heap.get?_update_self _ h1 (by rw [hn']; rfl)) (o := .list []) ⟨#[], n', hn', rfl⟩
  exact call_meets PySem.F.slot_list_clear ⟨_, h1, rfl⟩ PySem.F.entry_list_clear (PySem.F.args_list_clear_1 _) (PySem.AutoSeq1.list_clear_list_0 a arr n (by rw [h4]; exact hz)) ⟨h1, _, R', h⟩
end
end
section
section
variable {g : Gl Int} {c : Ac} {S S' : St Int}
theorem W_CW0S {K : Frag} {f : Value} {first : List Value} {Q : Value -> St Int -> Prop} (hK : g.K = K) (hk : Keeps K f = true) (h : WC g c f first S Q) : WCW g c f first [] S Q := W_CW0 (by rw [hK]; exact hk) h
end
end
section
open Sem (wp)
section
variable {M : Model} {A : Around} {Φ : End -> Shared -> Prop} {c : Code} {fs : List Frame} {s : Shared}
noncomputable def Seg1 (M : Model) (A : Around) (Φ : End -> Shared -> Prop) (c : Code) (t : Sem Fin) (fs : List Frame) (s : Shared) : Prop :=
  ∀ Γ p, Γ.code = c -> Γ.Woken A -> ∃ e s', Runs M Γ p t fs s e s' /\ e.quiet = true /\ Φ e s'
theorem seg1_wrap {α : Type} {m : Sem α} {K : α -> Sem Fin} {H : Value -> Sem Fin} {gd lv}
    (h : wpAny M (A.over c fs) m (fun a s' => Seg1 M A Φ c (K a) fs s') (fun x s' => Seg1 M A Φ c (H x) fs s') s) : Seg1 M A Φ c (m.wrap K H gd lv) fs s := by
  rintro Γ p rfl hΓ
  exact runs_wrap_of_wp K H gd lv m (Φ := fun e s' => e.quiet = true /\ Φ e s') (h (Γ.over fs) p (hΓ.over fs)) (fun a p' s' h' => h' Γ p' rfl hΓ) (fun x p' s' h' => h' Γ p' rfl hΓ)
theorem seg1_at {p' : Pos} {k : Unit -> Sem Fin} (h : Seg1 M A Φ c (k ()) fs s) : Seg1 M A Φ c (.at p' k) fs s :=
  seg1_wrap (m := standAt p') (K := k) (H := .raise) (gd := id) (lv := id) (wpAny_standAt h)
theorem seg1_point {l : List Value} {k : Unit -> Sem Fin} (h : Seg1 M A Φ c (k ()) fs s) : Seg1 M A Φ c (.point l k) fs s :=
  seg1_wrap (m := point) (K := k) (H := .raise) (gd := id) (lv := fun _ => l) (wpAny_point h)
theorem seg1_call {c' : Code} {h g l} {k : Result -> Sem Fin} (hc : ∀ p, Seg1 M A Φ c' (M.den c') (.ret k h g l c p [] :: fs) s) : Seg1 M A Φ c (.call c' h g l k) fs s := by
  rintro Γ p rfl hΓ
  refine el_EEA (hc p (Γ.goto c') p rfl (hΓ.goto c')) ?_; intro e s' hr he
  exact ⟨e, s', runs_call_seg hr, he⟩
theorem seg1_leaf {k h g l c₁ p₁ kp} (r : Result) (hk : Seg1 M A Φ c₁ (k r) fs s) : Seg1 M A Φ c (leafOf r) (.ret k h g l c₁ p₁ kp :: fs) s := by
  rintro Γ p rfl hΓ
  refine el_EEA (hk (Γ.goto c₁) p₁ rfl (hΓ.goto c₁)) ?_; intro e s' hr he
  exact ⟨e, s', Runs.pop r hr, he⟩
theorem seg1_again {c' : Code} (hq : c'.quiet = true) (hc : Seg1 M A Φ c' (M.den c') fs s) : Seg1 M A Φ c (.pure (.again c')) fs s := by
  rintro Γ p rfl hΓ
  refine el_EEA (hc (Γ.goto c') p rfl (hΓ.goto c')) ?_; intro e s' hr he
  exact ⟨e, s', Runs.head (c₁ := c') (fun _ _ x => .again hq x) hr, he⟩
theorem seg1_end (r : Result) (h : Φ (.ret r) s) : Seg1 M A Φ c (leafOf r) [] s := by
  rintro Γ p rfl _
  exact ⟨.ret r, s, Runs.leaf r, rfl, h⟩
theorem seg1_yield {v g l} {k : Resume -> Sem Fin} (hfs : splitAtGen fs = none) (hg : g = false) (hfg : fs.any Frame.guarded = false)
    (h : ∀ p, Φ (.susp v g l k c p fs) s) : Seg1 M A Φ c (.yield v g l k) fs s := by
  rintro Γ p rfl _
  exact ⟨_, s, Runs.yield' fs hfs, by simp [End.quiet, hg, hfg], h p⟩
theorem Seg1.mono {Φ' : End -> Shared -> Prop} {t : Sem Fin} (h : Seg1 M A Φ c t fs s) (hΦ : ∀ e s', Φ e s' -> Φ' e s') : Seg1 M A Φ' c t fs s := fun Γ p h1 h2 =>
  let ⟨e, s', h3, h4, h5⟩ := h Γ p h1 h2; ⟨e, s', h3, h4, hΦ e s' h5⟩
noncomputable def Run1 (M : Model) (A : Around) (gs : GenState) (r : Resume) (Φ : End -> Shared -> Prop) (s : Shared) : Prop :=
  match gs with
  | .fresh c => r = .send .none /\ Seg1 M A Φ c (M.den c) [] s
  | .suspended k _ c _ fs _ => Seg1 M A Φ c (k r) fs s
  | _ => False
theorem resume1 {E : Value -> Shared -> Prop} {g : Nat} {gs : GenState} {r : Resume} {l : List Value} {α : Type} {k : GenResult -> Sem α} {Q : α -> Shared -> Prop} (hg : s.gens[g]? = some gs)
    (hgo : Run1 M A gs r Φ (s.setGen g .running))
    (h : ∀ e s₁, e.quiet = true -> Φ e s₁ -> wpAny M A (k e.result) Q E (s₁.setGen g e.genState)) : wpAny M A (.resume g r l k) Q E s := by
  intro Γ p hΓ
  rw [Sem.wp_resume]
  cases gs with
  | fresh c =>
    refine el_A hgo ?_; (try clear hgo); intro rfl_182 hs; subst rfl_182
    refine el_EEAA (hs (Γ.wake c p) p rfl (hΓ.wake c p)) ?_; intro e₁ s₁ hr hq he
    exact ⟨_, _, by unfold Wakes; rw [hg]; exact ⟨e₁, s₁, hr, hq, rfl, rfl⟩, h e₁ s₁ hq he Γ p hΓ⟩
  | suspended k₀ l₀ c₀ p₀ fs₀ cl =>
    refine el_EEAA (hgo (Γ.wake c₀ p) p₀ rfl (hΓ.wake c₀ p)) ?_; intro e₁ s₁ hr hq he
    exact ⟨_, _, by unfold Wakes; rw [hg]; exact ⟨e₁, s₁, hr, hq, rfl, rfl⟩, h e₁ s₁ hq he Γ p hΓ⟩
  | running => exact hgo.elim
  | finished => exact hgo.elim
end
section
variable {prog : Program} {w : World} {A : Around} {E : Value -> Shared -> Prop} {s : Shared} {Φ : End -> Shared -> Prop}
theorem next_gen {a : Addr} {g : Nat} {gs : GenState} {Q : Option Value -> Shared -> Prop} (hh : A.handled = none) (hl : s.heap.NoLimit) (hroom : A.depth < recursionLimit)
    (hg : s.heap.IsGen a g) (hgs : s.gens[g]? = some gs) (hgo : Run1 (model prog w) A.in1 gs (.send .none) Φ (s.setGen g .running))
    (hΦ : ∀ e s₁, e.quiet = true -> Φ e s₁ -> (∃ v l k c p fs g', e = .susp v g' l k c p fs /\ Q (some v) (s₁.setGen g e.genState)) ∨
      (e = .ret (.ok (.ret .none)) /\ ∀ h', (∀ b o, s₁.heap.get? b = some o -> h'.get? b = some o) -> Q none { s₁.setGen g .finished with heap := h' })) :
    wpAny (model prog w) A (pyNext (.ref a)) Q E s := by
  unfold pyNext
  refine wpAny_bind (wpAny_attempt (wpAny_callSpecial?_slot (name := Str.ofString "__next__") hg.typeIs slot_gen_next
    (wpAny_call_entry slot_gen_next hg.typeIs entry_gen_next ?_ (args_gen_next _))))
  show wpAny _ _ (Builtin.Generator.genWake (.ref a) (.send .none)) _ _ s
  unfold Builtin.Generator.genWake
  refine wpAny_bind (wpAny_holding (wpAny_genNumber hg (wpAny_bind (wpAny_genState hgs ?_))))
  cases gs with
  | running => exact hgo.elim
  | finished => exact hgo.elim
  | _ =>
    refine wpAny_bind (wpAny_roomToWake hl hroom ?_)
    show wpAny _ _ (.resume g (.send .none) [] _) _ _ s
    refine resume1 hgs hgo fun e s₁ hq hφ => ?_
    rcases hΦ e s₁ hq hφ with ⟨v, l, k, c, p, fs, g', rfl, hQ⟩ | ⟨rfl, hQ⟩
    · exact wpAny_pure ⟨v, rfl, wpAny_pure hQ⟩
    show wpAny _ _ (newExc (.type "StopIteration") [] >>= _) _ _ _
    refine wpAny_bind ?_
    simp only [newExc, newTuple]
    refine wpAny_bind (wpAny_newObj_type ?_ (by size_fits))
    refine wpAny_bind (m := firstArgMember _ _) (wpAny_of_eq (a := Value.none) (by first | rfl | (simp only [firstArgMember]; rfl)) ?_)
    refine wpAny_newObj_type ?_ (by size_fits)
    simp only [raiseNew]
    refine wpAny_bind (wpAny_bind (wpAny_handled ?_))
    rw [show A.in1.handled = none from hh]
    refine wpAny_throw ?_
    refine wpAny_bind (wpAny_isInstance (T := "StopIteration") (b := true) ⟨_, Heap.get?_push_size _ rfl, rfl⟩ isSubtype_stop ?_)
    exact wpAny_pure (hQ _ fun b o hb => Heap.get?_push_of_some _ (Heap.get?_push_of_some _ hb))
end
end
section
open Sem (wp)
section
variable {M : Model} {A : Around} {Φ : End -> Shared -> Prop} {c : Code} {fs : List Frame} {s : Shared} {env : Env}
  {K : Flow -> Sem Fin} {H : Value -> Sem Fin} {gd : Bool -> Bool} {lv : List Value -> List Value}
theorem seg1_execs_nil (h : Seg1 M A Φ c (K .next) fs s) : Seg1 M A Φ c ((execs [] env).wrap K H gd lv) fs s := h
theorem seg1_execs_cons {st : Stmt} {rest : List Stmt}
    (h : Seg1 M A Φ c ((exec st env).wrap (fun f => match f with | .next => (execs rest env).wrap K H gd lv | f => K f) H gd lv) fs s) :
    Seg1 M A Φ c ((execs (st :: rest) env).wrap K H gd lv) fs s := by rw [execs_cons_wrap]; exact h
theorem seg1_plain {st : Stmt} (h : wpAny M (A.over c fs) (exec st env) (fun f s' => Seg1 M A Φ c (K f) fs s') (fun _ _ => False) s) : Seg1 M A Φ c ((exec st env).wrap K H gd lv) fs s :=
  seg1_wrap (wpAny_mono h (fun _ _ x => x) fun _ _ x => x.elim)
theorem seg1_If {test : Expr} {body orelse : List Stmt} {pos : Pos}
    (h : wpAny M (A.over c fs) (isTrue test env (eval test env)) (fun b s' => Seg1 M A Φ c ((execs (if b = true then body else orelse) env).wrap K H gd lv) fs s') (fun _ _ => False) s) :
    Seg1 M A Φ c ((exec (.If test body orelse pos) env).wrap K H gd lv) fs s := by
  rw [exec_If]
  show Seg1 M A Φ c (.at pos fun _ => (isTrue test env (eval test env) >>= fun b => if b = true then execs body env else execs orelse env).wrap K H gd lv) fs s
  refine seg1_at ?_
  rw [Sem.bind_eq_wrap', Sem.wrap_wrap]
  refine seg1_wrap (wpAny_mono h (fun b s' hb => ?_) fun _ _ x => x.elim)
  cases b with
  | true => exact hb
  | false => exact hb
theorem seg1_Yield {e : Expr} {ypos pos : Pos} (hfs : splitAtGen fs = none) (hgd : gd false = false) (hfg : fs.any Frame.guarded = false)
    (h : wpAny M (A.over c fs) (eval e env) (fun v s' => ∀ k : Resume -> Sem Fin, (∀ x, (∀ a, x ≠ .ref a) -> k (.send x) = K .next) -> ∀ l p, Φ (.susp v false l k c p fs) s') (fun _ _ => False) s)
    (hco : env.scope.isCoroutine = false) (hi : interactive env = false) :
    Seg1 M A Φ c ((exec (.Expr (.Yield (some e) ypos) pos) env).wrap K H gd lv) fs s := by
  rw [exec_Expr env _ pos hi rfl]
  show Seg1 M A Φ c (.at pos fun _ => ((eval e env >>= fun v => (standAt ypos >>= fun _ => yieldOut env v)) >>= fun x =>
    dropValue (.Yield (some e) ypos) pos x).wrap K H gd lv) fs s
  have hy : ∀ v, yieldOut env v = yieldValue v := fun v => by simp only [yieldOut, hco, Bool.false_eq_true, if_false]
  simp only [hy]
  refine seg1_at ?_
  rw [Sem.bind_eq_wrap', Sem.bind_eq_wrap', Sem.wrap_wrap, Sem.wrap_wrap]
  refine seg1_wrap (wpAny_mono h (fun v s' h' => ?_) fun _ _ x => x.elim)
  refine seg1_at ?_
  refine seg1_yield hfs hgd hfg fun p => ?_
  show Φ (.susp v (gd false) _ _ c p fs) s'
  rw [hgd]
  refine h' _ (fun x hx => ?_) _ p
  cases x <;> first | rfl | exact absurd rfl (hx _)
theorem seg1_For {target iter : Expr} {body orelse : List Stmt} {pos : Pos} (hs : ∀ x, foldedSetIterable iter env x = pure x)
    (h : wpAny M (A.over c fs) (eval iter env) (fun x s₁ => wpAny M (A.over c fs) (pyIter x) (fun it s₂ =>
      ∀ (k : Result -> Sem Fin) p, (∀ f, k (.ok f) = K f) -> Seg1 M A Φ (.forLoop target it body orelse env) (M.den (.forLoop target it body orelse env)) (.ret k none (gd false) (lv []) c p [] :: fs) s₂) (fun _ _ => False) s₁) (fun _ _ => False) s) :
    Seg1 M A Φ c ((exec (.For target iter body orelse pos) env).wrap K H gd lv) fs s := by
  rw [exec_For]
  rw [Sem.bind_eq_wrap', Sem.wrap_wrap]
  refine seg1_wrap (wpAny_standAt ?_)
  rw [Sem.bind_eq_wrap', Sem.wrap_wrap]
  refine seg1_wrap (wpAny_mono h (fun x s₁ h₁ => ?_) fun _ _ x => x.elim)
  rw [hs, Sem.bind_eq_wrap', Sem.wrap_wrap]
  refine seg1_wrap (wpAny_pure ?_)
  rw [Sem.bind_eq_wrap', Sem.wrap_wrap]
  refine seg1_wrap (wpAny_standAt ?_)
  rw [Sem.bind_eq_wrap', Sem.wrap_wrap]
  refine seg1_wrap (wpAny_holding (wpAny_mono h₁ (fun it s₂ h₂ => ?_) fun _ _ x => x.elim))
  exact seg1_call fun p => h₂ _ p fun f => rfl
end
section
variable {prog : Program} {w : World} {A : Around} {Φ : End -> Shared -> Prop} {fs : List Frame} {s : Shared} {env : Env}
noncomputable abbrev turnK (target : Expr) (it : Value) (body orelse : List Stmt) (env : Env) (f : Flow) : Sem Fin := match f with
  | .next | .cont => .pure (.again (.forLoop target it body orelse env))
  | .brk => .pure (.done .next)
  | .ret v => .pure (.done (.ret v))
theorem seg1_forLoop {target : Expr} {it : Value} {body orelse : List Stmt}
    (h : wpAny (model prog w) (A.over (.forLoop target it body orelse env) fs) (pyNext it) (fun r s₁ => match r with
      | none => ∀ (Hx : Value -> Sem Fin), Seg1 (model prog w) A Φ (.block orelse env) ((execs orelse env).wrap (fun f => .pure (.done f)) Hx id id) fs s₁
      | some v => wpAny (model prog w) (A.over (.forLoop target it body orelse env) fs) (letOwnedTupleGo target it v) (fun _ s₂ => wpAny (model prog w) (A.over (.forLoop target it body orelse env) fs) (assign target env v) (fun _ s₃ =>
          ∀ (Hx : Value -> Sem Fin), Seg1 (model prog w) A Φ (.forLoop target it body orelse env) ((execs body env).wrap (turnK target it body orelse env) Hx id id) fs s₃) (fun _ _ => False) s₂) (fun _ _ => False) s₁) (fun _ _ => False) s) :
    Seg1 (model prog w) A Φ (.forLoop target it body orelse env) ((model prog w).den (.forLoop target it body orelse env)) fs s := by
  show Seg1 _ A Φ _ ((forTurn target it body orelse env).onRaise (fun x => do noteFrame x env; theTreesLotGoes x)) fs s
  unfold forTurn
  rw [Sem.onRaise_eq_wrap]
  show Seg1 _ A Φ _ (.at target.pos fun _ => (((pyNext it).onRaise (fun _ => standAt { target.pos with line := 0 }) >>= fun r => _).wrap _ _ id id)) fs s
  refine seg1_at ?_
  rw [Sem.bind_eq_wrap', Sem.wrap_wrap]
  refine seg1_wrap (wpAny_onRaise (wpAny_mono h (fun r s₁ h₁ => ?_) fun _ _ x => x.elim))
  cases r with
  | none =>
    refine seg1_again rfl ?_
    show Seg1 _ A Φ _ (((execs orelse env).onRaise (fun x => do noteFrame x env; theTreesLotGoes x)) >>= fun f => pure (Fin.done f)) fs s₁
    rw [Sem.onRaise_eq_wrap, Sem.bind_eq_wrap', Sem.wrap_wrap]
    exact h₁ _
  | some v =>
    show Seg1 _ A Φ _ ((letOwnedTupleGo target it v >>= fun _ => assign target env v >>= fun _ => execs body env >>= fun f => _).wrap _ _ id id) fs s₁
    rw [Sem.bind_eq_wrap', Sem.wrap_wrap]
    refine seg1_wrap (wpAny_mono h₁ (fun _ s₂ h₂ => ?_) fun _ _ x => x.elim)
    rw [Sem.bind_eq_wrap', Sem.wrap_wrap]
    refine seg1_wrap (wpAny_mono h₂ (fun _ s₃ h₃ => ?_) fun _ _ x => x.elim)
    rw [Sem.bind_eq_wrap', Sem.wrap_wrap]
    rw [Sem.wrap_congr (execs body env) _ _ (K' := turnK target it body orelse env) (fun f => by cases f <;> rfl) (fun _ => rfl)]
    exact h₃ _
end
end
section
section
variable {g : Gl Int} {c : Ac} {S S' : St Int} {Q : Value -> St Int -> Prop} {a b : Addr} {xs ys : List Value}
noncomputable def siO (x : Str) : AO Int := .raw fun ob => ob.cls = .type "str_ascii_iterator" /\ ∃ t, ob.data = .fields #[.str x t, .int 0 0]
theorem WC_enumS {x : Str} (hx : x.cps.all (· < 128) = true) (h : ∀ e it, S.σ e = none -> S.σ it = none -> e ≠ it -> Q (.ref e) ⟨S.m, upd (upd S.σ it (siO x)) e (enumO it)⟩) : WC g c (.type "enumerate") [.str x 0] S Q := by
  intro us hu H s R
  o_shape
  refine el_EA (map1 hu) ?_; intro u rfl_188 hu1; subst rfl_188
  refine el_E (er_str hu1) ?_; intro t rfl_187; subst rfl_187
  refine call_enumerate_str fun h' hE hI hz hk => ?_
  refine el_EAA hI ?_; (try clear hI); intro obI g1 g2 g3
  have g2 : obI.cls = .type "str_ascii_iterator" := by rw [g2]; unfold strIterType; rw [if_pos hx]
  have n1 : s.heap.get? (s.heap.objs.size + 1) = none := by
    cases q : s.heap.get? (s.heap.objs.size + 1) with
    | none => rfl
    | some o => exact absurd (Heap.lt_size q) (Nat.not_lt.mpr (Nat.le_succ _))
  -- both are new at once: hide both, then reveal them
  have R₁ : Rel g c ((H.put s.heap.objs.size obI).put (s.heap.objs.size + 1) (enumOb s.heap.objs.size 0 .none)) S { s with heap := h', toks := s.toks } := by
    refine R.rehide (fun b o hb q => hk b o q) (fun b o q => ?_) (fun b o q hb => ?_) (fun p hp => hp) (fun b o u q hu => ?_)
    · have q : (if b = s.heap.objs.size + 1 then some (enumOb s.heap.objs.size 0 .none) else if b = s.heap.objs.size then some obI else H.objs b) = some o := q
      by_cases q1 : b = s.heap.objs.size + 1
      · rw [if_pos q1] at q; (replace q := Option.some.inj q; subst q); rw [q1]; exact hE
      rw [if_neg q1] at q
      by_cases q2 : b = s.heap.objs.size
      · rw [if_pos q2] at q; (replace q := Option.some.inj q; subst q); rw [q2]; exact g1
      rw [if_neg q2] at q; exact hk b o (R.hid b o q)
    · have q : (if b = s.heap.objs.size + 1 then some (enumOb s.heap.objs.size 0 .none) else if b = s.heap.objs.size then some obI else H.objs b) = some o := q
      by_cases q1 : b = s.heap.objs.size + 1
      · rw [q1]; exact n1
      rw [if_neg q1] at q
      by_cases q2 : b = s.heap.objs.size
      · rw [q2]; exact size_none _
      rw [if_neg q2, hb] at q; exact Mine.ns q
    show (if b = s.heap.objs.size + 1 then some (enumOb s.heap.objs.size 0 .none) else if b = s.heap.objs.size then some obI else H.objs b) = some o
    have := Heap.lt_size (R.hid b o q)
    rw [if_neg (Nat.ne_of_lt (Nat.lt_succ_of_lt this)), if_neg (Nat.ne_of_lt this)]; exact q
  refine el_A (R₁.reveal (o := enumO s.heap.objs.size) (Hid.put_self _ _ _) (fun u q => by cases q) rfl) ?_; intro d1 R₂
  have f2 : ((H.put s.heap.objs.size obI).put (s.heap.objs.size + 1) (enumOb s.heap.objs.size 0 .none)).cut (s.heap.objs.size + 1) = H.put s.heap.objs.size obI := by
    refine Hid.put_cut _ _ _ ?_
    show (if s.heap.objs.size + 1 = s.heap.objs.size then some obI else H.objs (s.heap.objs.size + 1)) = none
    rw [if_neg (Nat.succ_ne_self _)]; exact R.free_hid n1
  rw [f2] at R₂
  refine el_A (R₂.reveal (o := siO x) (Hid.put_self _ _ _) (fun u q => by rw [g3] at q; cases q) ⟨g2, t, g3⟩) ?_; intro d2 R₃
  rw [Hid.put_cut _ _ _ (R.free_hid (size_none _))] at R₃
  have d2 : S.σ s.heap.objs.size = none := by
    have : upd S.σ (s.heap.objs.size + 1) (enumO s.heap.objs.size) s.heap.objs.size = none := d2
    unfold upd at this
    rwa [if_neg (Ne.symm (Nat.succ_ne_self _))] at this
  refine ⟨⟨S.m, upd (upd S.σ s.heap.objs.size (siO x)) (s.heap.objs.size + 1) (enumO s.heap.objs.size)⟩, R₃.le (fun _ _ q => q) (fun b o q => ?_), h (s.heap.objs.size + 1) s.heap.objs.size d1 d2 (Nat.succ_ne_self _)⟩
  show upd (upd S.σ (s.heap.objs.size + 1) _) s.heap.objs.size _ b = some o
  have q : upd (upd S.σ s.heap.objs.size _) (s.heap.objs.size + 1) _ b = some o := q
  unfold upd at q ⊢
  by_cases q1 : b = s.heap.objs.size
  · rw [if_pos q1]; rw [q1, if_neg (Ne.symm (Nat.succ_ne_self _)), if_pos rfl] at q; exact q
  rw [if_neg q1] at q ⊢; exact q
noncomputable def enumStepS (x y : Str) (z : Str) (i : Nat) (S : St Int) : St Int := ⟨setv (setv S.m x (.int i 0)) y (.str ⟨#[z.cps.getD i 0]⟩ 0), S.σ⟩
noncomputable def turnsEnumS (g : Gl Int) (c : Ac) (H : Hid) (x y : Str) (px py pt : Pos) (k : Nat) (e it : Addr) (z : Str) (he : H.objs e = none) (hi : H.objs it = none) (hne : e ≠ it)
    (hx : isOwn c.env.scope x = true) (hy : isOwn c.env.scope y = true) (ex : c.ext x = false) (ey : c.ext y = false) : Turns g c H (.Tuple [.Name x px, .Name y py] k pt) (.ref e) z.cps.size (enumStepS x y z) (fun _ => True) where
  P i H' := ∃ old obI, H'.objs e = some (enumOb it i old) /\ H'.objs it = some obI /\ obI.cls = .type "str_ascii_iterator" /\ (∃ t, obI.data = .fields #[.str z t, .int i 0]) /\ (∀ b, b ≠ e -> b ≠ it -> H'.objs b = H.objs b) /\ H'.gens = H.gens
  back i H' S s hP R := by
    refine el_EEAAAAA hP ?_; (try clear hP); intro old obI h1 h2 h3 nn_186 h5 h6; obtain ⟨t, h4⟩ := nn_186
    refine R.drop (fun a o q => ?_) (fun p hp => by rw [h6]; exact hp) (fun a ob u q hu => ?_)
    · rw [h5 a (by rintro rfl; rw [he] at q; exact Mine.ns q) (by rintro rfl; rw [hi] at q; exact Mine.ns q)]; exact q
    by_cases q1 : a = e
    · rw [q1, h1] at q; (replace q := Option.some.inj q; subst q); exact (nomatch hu)
    by_cases q2 : a = it
    · rw [q2, h2] at q; (replace q := Option.some.inj q; subst q); rw [h4] at hu; exact (nomatch hu)
    rw [← h5 a q1 q2]; exact q
  turn i H' S s hlt hP R ok := by
    refine el_EEAAAAA hP ?_; (try clear hP); intro old obI h1 h2 h3 nn_185 h5 h6; obtain ⟨t, h4⟩ := nn_185
    refine wpAny_pyNext_enum_itemD (Draws.strAscii (A := c.A.in1) R.ac.hd it z t) (R.hid _ _ h1) ⟨obI, R.hid _ _ h2, h3, h4⟩ hlt hne (by simp [hne]) fun v h' tk hv hE hSt hT hz hk => ?_
    refine ⟨_, rfl, wpAny_letOwnedTupleGo_enum hE fun h'' hE' hs => ?_⟩
    refine el_EAA hSt ?_; (try clear hSt); intro obI' g1 g2 g3
    refine el_EEA hv ?_; (try clear hv); intro ch tc hv rfl_184; subst rfl_184
    have hse : s.heap.objs.size ≠ e := Nat.ne_of_gt (Heap.lt_size (R.hid _ _ h1))
    have R' : Rel g c ((H'.put e (enumOb it (i + 1 : Nat) (.str ⟨#[ch]⟩ tc))).put it obI') S { s with heap := h'', toks := tk + 1 } := by
      refine R.rehide (fun b o hb q => ?_) (fun b o q => ?_) (fun b o q hb => ?_) (fun p hp => hp) (fun b o u q hu => ?_)
      · have q1 : b ≠ e := by rintro rfl; rw [h1] at hb; exact Mine.sn hb
        have q2 : b ≠ it := by rintro rfl; rw [h2] at hb; exact Mine.sn hb
        exact hs.extBut b o q1 (hk b o q1 q2 q)
      · have q : (if b = it then some obI' else if b = e then some (enumOb it (i + 1 : Nat) (.str ⟨#[ch]⟩ tc)) else H'.objs b) = some o := q
        by_cases q1 : b = it
        · rw [if_pos q1] at q; (replace q := Option.some.inj q; subst q); rw [q1]; exact hs.extBut it _ (Ne.symm hne) g1
        rw [if_neg q1] at q
        by_cases q2 : b = e
        · rw [if_pos q2] at q; (replace q := Option.some.inj q; subst q); rw [q2]; exact hE'
        rw [if_neg q2] at q
        exact hs.extBut b o q2 (hk b o q2 q1 (R.hid b o q))
      · have q : (if b = it then some obI' else if b = e then some (enumOb it (i + 1 : Nat) (.str ⟨#[ch]⟩ tc)) else H'.objs b) = some o := q
        by_cases q1 : b = it
        · rw [q1, h2] at hb; exact Mine.sn hb
        rw [if_neg q1] at q
        by_cases q2 : b = e
        · rw [q2, h1] at hb; exact Mine.sn hb
        rw [if_neg q2, hb] at q; exact Mine.ns q
      show (if b = it then some obI' else if b = e then some (enumOb it (i + 1 : Nat) (.str ⟨#[ch]⟩ tc)) else H'.objs b) = some o
      by_cases q1 : b = it
      · rw [q1, h2] at q; (replace q := Option.some.inj q; subst q); rw [h4] at hu; exact (nomatch hu)
      rw [if_neg q1]
      by_cases q2 : b = e
      · rw [q2, h1] at q; (replace q := Option.some.inj q; subst q); exact (nomatch hu)
      rw [if_neg q2]; exact q
    have ht'' : h''.IsTuple s.heap.objs.size #[.int i tk, .str ⟨#[ch]⟩ tc] := ⟨_, hs.extBut _ _ hse hT, rfl, _, rfl⟩
    refine wpAny_assign_Tuple R.ac.hd ht'' rfl rfl fun h₃ hk₃ => ?_
    have R'' : Rel g c ((H'.put e (enumOb it (i + 1 : Nat) (.str ⟨#[ch]⟩ tc))).put it obI') S { s with heap := h₃, toks := tk + 1 } := R'.grow (tk := tk + 1) fun b o q => hk₃ b o (Nat.ne_of_lt (Heap.lt_size q)) q
    have hvx : er (.str ⟨#[ch]⟩ tc) = .str ⟨#[z.cps.getD i 0]⟩ 0 := by
      rw [show z.cps.getD i 0 = ch by rw [Array.getD_eq_getD_getElem?, hv]; rfl]; rfl
    show wpAny _ _ (assignInOrder [fun v => assign (.Name x px) c.env v, fun v => assign (.Name y py) c.env v] [.int i tk, .str ⟨#[ch]⟩ tc]) _ _ _
    refine assignInOrder_cons (goK (WAsg_Name (Q := fun S₁ => S₁ = ⟨setv S.m x (.int i 0), S.σ⟩) (W_Store hx ex rfl) (.int i tk) rfl _ _ R'') (fun _ s₁ S₁ R₁ q => ?_))
    subst q
    refine assignInOrder_cons (goK (WAsg_Name (Q := fun S₁ => S₁ = enumStepS x y z i S) (W_Store hy ey rfl) (.str ⟨#[ch]⟩ tc) hvx _ _ R₁) (fun _ s₂ S₂ R₂ q => ?_))
    subst q
    refine assignInOrder_nil ⟨(H'.put e (enumOb it (i + 1 : Nat) (.str ⟨#[ch]⟩ tc))).put it obI', ⟨.str ⟨#[ch]⟩ tc, obI', ?_, Hid.put_self _ _ _, g2, ⟨t, g3⟩, fun b q1 q2 => ?_, h6⟩, R₂⟩
    · show (if e = it then some obI' else (H'.put e _).objs e) = _
      rw [if_neg hne, Hid.put_self]
    show (if b = it then some obI' else if b = e then some (enumOb it (i + 1 : Nat) (.str ⟨#[ch]⟩ tc)) else H'.objs b) = _
    rw [if_neg q2, if_neg q1]; exact h5 b q1 q2
  done H' S s hP R ok := by
    refine el_EEAAAAA hP ?_; (try clear hP); intro old obI h1 h2 h3 nn_183 h5 h6; obtain ⟨t, h4⟩ := nn_183
    refine wpAny_pyNext_enum_endD (Draws.strAscii (A := c.A.in1) R.ac.hd it z t) (R.hid _ _ h1) ⟨obI, R.hid _ _ h2, h3, h4⟩ fun h' hk => ⟨rfl, ?_⟩
    have := R.rehide (H' := H) (tk := s.toks) (h' := h') (fun b o hb q => ?_) (fun b o q => ?_) (fun b o q hb => ?_) (fun p hp => by rw [h6]; exact hp) (fun b o u q hu => ?_)
    · exact this
    · exact hk b o (by rintro rfl; rw [h2] at hb; exact Mine.sn hb) q
    · have q1 : b ≠ e := by rintro rfl; rw [he] at q; exact Mine.ns q
      have q2 : b ≠ it := by rintro rfl; rw [hi] at q; exact Mine.ns q
      exact hk b o q2 (R.hid b o (by rw [h5 b q1 q2]; exact q))
    · have q1 : b ≠ e := by rintro rfl; rw [he] at q; exact Mine.ns q
      have q2 : b ≠ it := by rintro rfl; rw [hi] at q; exact Mine.ns q
      rw [h5 b q1 q2, q] at hb; exact Mine.sn hb
    have q1 : b ≠ e := by rintro rfl; rw [h1] at q; (replace q := Option.some.inj q; subst q); exact (nomatch hu)
    have q2 : b ≠ it := by rintro rfl; rw [h2] at q; (replace q := Option.some.inj q; subst q); rw [h4] at hu; exact (nomatch hu)
    rw [← h5 b q1 q2]; exact q
end
end
section
open Sem (wp)
section
variable {g : Gl Int} {c : Ac} {S S' : St Int} {A : Around} {env : Env} {ext : Str -> Bool}
theorem okG_func {body : List Stmt} {env₂ : Env} (h : Ac.Ok ⟨A, env, ext⟩) (hd : Ac.Deep ⟨A, env, ext⟩ 1) : Ac.Ok ⟨A.over (.func body env₂) [], env, ext⟩ := by
  refine ⟨h.kind, h.gl, h.bl, h.hd, ?_, h.cells, h.frees⟩
  have w : Code.weight (.func body env₂) = 1 := rfl
  have u : Code.cUnits (.func body env₂) = 3 := rfl
  unfold Ac.Deep at hd ⊢
  show A.depth + 0 + Code.weight (.func body env₂) + 4 * 0 + 20 < _ /\ A.units + 0 + Code.cUnits (.func body env₂) + 20 * 0 + 100 < _
  rw [w, u]
  dsimp only at hd
  lia
theorem okG_loop {body body₂ orelse : List Stmt} {target : Expr} {it : Value} {env₂ : Env} {k : Result -> Sem Fin} {gd : Bool} {l kp : List Value} {p : Pos} (h : Ac.Ok ⟨A, env, ext⟩) (hd : Ac.Deep ⟨A, env, ext⟩ 1) :
    Ac.Ok ⟨A.over (.forLoop target it body₂ orelse env₂) [.ret k none gd l (.func body env₂) p kp], env, ext⟩ := by
  refine ⟨h.kind, h.gl, h.bl, ?_, ?_, h.cells, h.frees⟩
  · exact h.hd
  have w : Code.weight (.func body env₂) = 1 := rfl
  have u : Code.cUnits (.func body env₂) = 3 := rfl
  have w2 : Code.weight (.forLoop target it body₂ orelse env₂) = 0 := rfl
  have u2 : Code.cUnits (.forLoop target it body₂ orelse env₂) = 0 := rfl
  unfold Ac.Deep at hd ⊢
  show A.depth + frameCount [((.func body env₂ : Code), p)] + Code.weight (.forLoop target it body₂ orelse env₂) + 4 * 0 + 20 < _ /\ A.units + unitsOf [((.func body env₂ : Code), p)] + Code.cUnits (.forLoop target it body₂ orelse env₂) + 20 * 0 + 100 < _
  rw [frameCount_cons, unitsOf_cons, w, u, w2, u2]
  show A.depth + (1 + 0) + 0 + 4 * 0 + 20 < _ /\ A.units + (3 + 0) + 0 + 20 * 0 + 100 < _
  dsimp only at hd
  lia
theorem seg1_func {prog : Program} {w : World} {Φ : End -> Shared -> Prop} {fs : List Frame} {s : Shared} {body : List Stmt}
    (h : ∀ Hx : Value -> Sem Fin, Seg1 (model prog w) A Φ (.func body env) ((execs body env).wrap (fun f => .pure (.done (.ret (match f with | .ret v => v | _ => .none)))) Hx id id) fs s) :
    Seg1 (model prog w) A Φ (.func body env) ((model prog w).den (.func body env)) fs s := by
  show Seg1 (model prog w) A Φ (.func body env) (.point [] fun _ => ((execs body env).onRaise (leaving env)) >>= _) fs s
  refine seg1_point ?_
  rw [Sem.onRaise_eq_wrap, Sem.bind_eq_wrap', Sem.wrap_wrap]
  rw [Sem.wrap_congr (execs body env) _ _ (K' := fun f => .pure (.done (.ret (match f with | .ret v => v | _ => .none)))) (fun f => by cases f <;> rfl) (fun _ => rfl)]
  exact h _
end
end
section
open Sem (wp)
section
noncomputable def EP (z : Str) (e it : Addr) (i : Nat) (H H' : Hid) : Prop :=
  ∃ old obI, H'.objs e = some (enumOb it i old) /\ H'.objs it = some obI /\ obI.cls = .type "str_ascii_iterator" /\ (∃ t, obI.data = .fields #[.str z t, .int i 0]) /\ (∀ b, b ≠ e -> b ≠ it -> H'.objs b = H.objs b) /\ H'.gens = H.gens
noncomputable abbrev yv (z : Str) (i : Nat) : List Value := [.int i 0, .str ⟨#[z.cps.getD i 0]⟩ 0]
noncomputable def GPost (g : Gl Int) (A : Around) (env : Env) (MOK : St Int -> Prop) (z : Str) (e it : Addr) : Nat -> Hid -> End -> Shared -> Prop
  | 0, H, en, s' => en = .ret (.ok (.ret .none)) /\ ∃ S' : St Int, Rel g ⟨A, env, fun _ => false⟩ H S' s'
  | k + 1, H, en, s' => (∃ T l kk c p fs, en = .susp (.ref T) false l kk c p fs /\ ∃ (H'' : Hid) (S' : St Int), EP z e it (z.cps.size - k) H H'' /\ Rel g ⟨A, env, fun _ => false⟩ H'' S' s' /\ MOK S' /\ S'.σ T = some (.tup (yv z (z.cps.size - (k + 1))))) /\
      ∀ (H₂ H₂' : Hid) (s₂ : Shared) (S₂ : St Int), H₂.objs e = none -> H₂.objs it = none -> EP z e it (z.cps.size - k) H₂ H₂' -> Rel g ⟨A, env, fun _ => false⟩ H₂' S₂ s₂ -> MOK S₂ -> Run1 (model g.prog g.w) A en.genState (.send .none) (GPost g A env MOK z e it k H₂) s₂
structure GenBody (g : Gl Int) (A : Around) (env : Env) (MOK : St Int -> Prop) (z : Str) (x y : Str) (target : Expr) (body rest fbody : List Stmt) : Prop where
  ok : Ac.Ok ⟨A, env, fun _ => false⟩
  deep : Ac.Deep ⟨A, env, fun _ => false⟩ 1
  tgt : ∃ px py k pt, target = .Tuple [.Name x px, .Name y py] k pt
  hx : isOwn env.scope x = true
  hy : isOwn env.scope y = true
  body_ : ∀ (i : Nat) (S : St Int), i < z.cps.size -> MOK S -> ∀ (e : Addr) (kk : Result -> Sem Fin) (l : List Value) (p : Pos) (H : Hid) (s : Shared) (Hx : Value -> Sem Fin) (Φ : End -> Shared -> Prop), Rel g ⟨A, env, fun _ => false⟩ H (enumStepS x y z i S) s ->
    (∀ T S' s' l' k' p', Rel g ⟨A, env, fun _ => false⟩ H S' s' -> S'.σ T = some (.tup (yv z i)) -> MOK S' -> k' (.send .none) = .pure (.again (.forLoop target (.ref e) body [] env)) ->
      Φ (.susp (.ref T) false l' k' (.forLoop target (.ref e) body [] env) p' [.ret kk none false l (.func fbody env) p []]) s') ->
    Seg1 (model g.prog g.w) A Φ (.forLoop target (.ref e) body [] env) ((execs body env).wrap (turnK target (.ref e) body [] env) Hx id id) [.ret kk none false l (.func fbody env) p []] s
  rest_ : ∀ S, MOK S -> WXs g ⟨A.over (.func fbody env) [], env, fun _ => false⟩ rest S fun f _ => f = .next
variable {g : Gl Int} {A : Around} {env : Env} {MOK : St Int -> Prop} {z x y : Str} {target : Expr} {body rest fbody : List Stmt} {e it : Addr}
theorem gen_loop (B : GenBody g A env MOK z x y target body rest fbody) (hne : e ≠ it) {Hx : Value -> Sem Fin} :
    ∀ (k : Nat), k ≤ z.cps.size -> ∀ (H H' : Hid) (s : Shared) (S : St Int) (kk : Result -> Sem Fin) (l : List Value) (p : Pos), kk (.ok .next) = (execs rest env).wrap (fun f => .pure (.done (.ret (match f with | .ret v => v | _ => .none)))) Hx id id ->
      H.objs e = none -> H.objs it = none -> EP z e it (z.cps.size - k) H H' -> Rel g ⟨A, env, fun _ => false⟩ H' S s -> MOK S ->
      Seg1 (model g.prog g.w) A (GPost g A env MOK z e it k H) (.forLoop target (.ref e) body [] env) ((model g.prog g.w).den (.forLoop target (.ref e) body [] env)) [.ret kk none false l (.func fbody env) p []] s := by
  refine el_EEEE B.tgt ?_; intro px py kt pt rfl_189; subst rfl_189
  intro k
  induction k with
  | zero =>
    intro hk H H' s S kk l p hkk he hi ep R mok
    have R₁ : Rel g ⟨A.over (.forLoop (.Tuple [.Name x px, .Name y py] kt pt) (.ref e) body [] env) [.ret kk none false l (.func fbody env) p []], env, fun _ => false⟩ H' S s := R.around (okG_loop B.ok B.deep)
    refine seg1_forLoop (wpAny_mono ((turnsEnumS g ⟨A.over (.forLoop (.Tuple [.Name x px, .Name y py] kt pt) (.ref e) body [] env) [.ret kk none false l (.func fbody env) p []], env, fun _ => false⟩ H x y px py pt kt e it z he hi hne B.hx B.hy rfl rfl).done H' S s ep R₁ trivial) (fun r s₁ q_ => ?_) fun _ _ x => x.elim)
    refine el_A q_ ?_; clear q_; intro hr R₂
    subst hr
    intro Hx₂
    refine seg1_execs_nil (seg1_leaf (.ok .next) ?_)
    rw [hkk]
    refine seg1_wrap (goK (B.rest_ S mok H s₁ (R₂.around (okG_func B.ok B.deep))) (fun f s₂ S' R₃ hf => ?_))
    cases f with
    | next => exact seg1_end (.ok (.ret .none)) ⟨rfl, S', R₃.around B.ok⟩
    | brk => exact (nomatch hf)
    | cont => exact (nomatch hf)
    | ret v => exact (nomatch hf)
  | succ k ih =>
    intro hk H H' s S kk l p hkk he hi ep R mok
    have R₁ : Rel g ⟨A.over (.forLoop (.Tuple [.Name x px, .Name y py] kt pt) (.ref e) body [] env) [.ret kk none false l (.func fbody env) p []], env, fun _ => false⟩ H' S s := R.around (okG_loop B.ok B.deep)
    have hlt : z.cps.size - (k + 1) < z.cps.size := by omega
    have hs : z.cps.size - (k + 1) + 1 = z.cps.size - k := by exact om45 ‹_›
    refine seg1_forLoop (wpAny_mono ((turnsEnumS g ⟨A.over (.forLoop (.Tuple [.Name x px, .Name y py] kt pt) (.ref e) body [] env) [.ret kk none false l (.func fbody env) p []], env, fun _ => false⟩ H x y px py pt kt e it z he hi hne B.hx B.hy rfl rfl).turn (z.cps.size - (k + 1)) H' S s hlt ep R₁ trivial) (fun r s₁ q_ => ?_) fun _ _ x => x.elim)
    refine el_EA q_ ?_; clear q_; intro v hr h
    subst hr
    refine wpAny_mono h (fun _ s₂ h₂ => wpAny_mono h₂ (fun _ s₃ ⟨H'', hP'', R₃⟩ Hx₂ => ?_) fun _ _ x => x) fun _ _ x => x
    have hP'' : EP z e it (z.cps.size - k) H H'' := by rw [← hs]; exact hP''
    refine B.body_ (z.cps.size - (k + 1)) S hlt mok e kk l p H'' s₃ Hx₂ _ (R₃.around B.ok) fun T S' s' l' k' p' R' hT mok' hk' => ⟨⟨T, l', k', _, p', _, rfl, H'', S', hP'', R', mok', hT⟩, fun H₂ H₂' s₂' S₂ he₂ hi₂ ep₂ R₂ mok₂ => ?_⟩
    show Seg1 _ _ _ _ (k' (.send .none)) _ _
    rw [hk']
    exact seg1_again rfl (ih (by exact Nat.le_of_lt ‹_›) H₂ H₂' s₂' S₂ kk l p hkk he₂ hi₂ ep₂ R₂ mok₂)
end
end
section
open Sem (wp)
section
variable {g : Gl Int} {c : Ac} {S S' SG : St Int} {H H' H₁ : Hid} {s s₁ : Shared} {A : Around} {env : Env} {gi : Nat} {gs gs' : GenState}
noncomputable def HB (g : Gl Int) (s : Shared) (O : Addr -> Prop) [DecidablePred O] (gens : List (Nat × GenState)) : Hid := ⟨fun b => if O b ∨ (g.h₀.get? b).isSome = true then none else s.heap.get? b, gens⟩
theorem AllBare.set {gens : Array GenState} (x : AllBare gens) (hb : gs.bare = true) : AllBare (gens.setIfInBounds gi gs) := fun y hy => by
  obtain ⟨i, hi, rfl⟩ := Array.mem_iff_getElem.mp hy
  rw [Array.getElem_setIfInBounds (by simpa using hi)]
  split
  · exact hb
  exact x _ (Array.getElem_mem _)
theorem gens_other {k : Nat} (h : k ≠ gi) : (s.setGen gi gs).gens[k]? = s.gens[k]? := by simp [Shared.setGen, Ne.symm h]
theorem Rel.intoGen (R : Rel g c H' S s) (ok : Ac.Ok ⟨A, env, fun _ => false⟩) (hc : env.cells = []) (above : g.h₀.objs.size ≤ env.locals) {m : Str -> Option Value}
    (hL : ∃ m₀, s.heap.Ns env.locals m₀ /\ ∀ x v, m x = some v -> env.kindOf x = some .local -> ∃ u, m₀ x = some u /\ er u = v) (hgi : s.gens[gi]? = some gs) {gensR : List (Nat × GenState)} (hg : ∀ p ∈ gensR, s.gens[p.1]? = some p.2 /\ p.1 ≠ gi) :
    Rel g ⟨A, env, fun _ => false⟩ (HB g s (fun b => b = env.locals) ((gi, .running) :: gensR)) ⟨m, fun _ => none⟩ (s.setGen gi .running) := by
  have hlk : ∀ x a, env.cells.lookup x = some a -> False := fun x a e => by rw [hc] at e; exact Mine.ns e
  refine { ok := R.ok, ac := ok, above := above, keep := R.keep, os := R.os, bare := AllBare.set R.bare rfl, gen := fun p hp => ?_, hid := fun b o e => ?_, loc := hL, cel := fun x a e => (hlk x a e).elim, inj := fun x y a e => (hlk x a e).elim, fre := fun x a e => (hlk x a e).elim, sto := (fun b o e => nomatch e), role := ⟨fun b => if (g.h₀.get? b).isSome = true then 0 else if b = env.locals then 1 else 3, fun b o e => ?_, ?_, fun x a e => (hlk x a e).elim, fun b o e => ?_, (fun b o e => nomatch e)⟩ }
  · rcases List.mem_cons.mp hp with rfl | hp
    · exact setGen_self hgi
    refine el_A (hg p hp) ?_; intro h1 h2
    rw [gens_other h2]; exact h1
  · unfold HB at e
    dsimp only at e
    split at e
    · exact Mine.ns e
    exact e
  · dsimp only; rw [if_pos (by rw [e]; rfl)]
  · dsimp only
    rw [if_neg (by rw [Heap.get?_none_of_le above]; decide), if_pos rfl]
  unfold HB at e
  dsimp only at e ⊢
  split at e
  · exact Mine.ns e
  rename_i q
  rw [not_or] at q
  rw [if_neg q.2, if_neg q.1]
theorem Rel.outGen (R : Rel g c H' S s) (R₁ : Rel g ⟨A, env, fun _ => false⟩ H₁ SG s₁) (hc : env.cells = []) {O : Addr -> Prop} [DecidablePred O] {e it T : Addr} {o : AO Int} {gensR : List (Nat × GenState)}
    (hO : ∀ b, O b -> (H'.objs b).isSome = true /\ ∀ ob u, H'.objs b = some ob -> ob.data = .cell u -> False) (hOL : O env.locals)
    (h₁ : ∀ b, b ≠ e -> b ≠ it -> H₁.objs b = (HB g s O ((gi, .running) :: gensR)).objs b) (h₂ : H₁.gens = (gi, .running) :: gensR) (he : (H₁.objs e).isSome = true) (hi : (H₁.objs it).isSome = true)
    (hne : ∀ b, b = e ∨ b = it -> O b ∨ s.heap.get? b = none) (hT : SG.σ T = some o) (hgs : gs'.bare = true) (hgr : ∀ p ∈ gensR, p.1 ≠ gi) :
    S.σ T = none /\ Rel g c ⟨fun b => if b = env.locals ∨ b = e ∨ b = it then s₁.heap.get? b else if O b then none else H'.objs b, (gi, gs') :: gensR⟩ ⟨S.m, upd S.σ T o⟩ (s₁.setGen gi gs') := by
  refine el_EAAAA R.role ?_; intro ρ r0 r1 r2 r3 r4
  refine el_EAAAA R₁.role ?_; intro q q0 q1 q2 q3 q4
  have O3 : ∀ b, O b -> ρ b = 3 := fun b hb => by
    refine el_E (Option.isSome_iff_exists.mp (hO b hb).1) ?_; intro ob h
    exact r3 b ob h
  have own3 : ∀ b, (b = env.locals ∨ b = e ∨ b = it) -> ∀ ob, s.heap.get? b = some ob -> ρ b = 3 := fun b hb ob hob => by
    rcases hb with rfl | hb
    · exact O3 _ hOL
    rcases hne b hb with h | h
    · exact O3 b h
    rw [hob] at h; cases h
  -- what is not the generator's own stands
  have keep : ∀ b ob, ρ b ≠ 3 ∨ ¬ (b = env.locals ∨ b = e ∨ b = it) /\ ¬ O b -> s.heap.get? b = some ob -> s₁.heap.get? b = some ob := fun b ob hb hob => by
    have hno : ¬ O b := fun h => by
      rcases hb with hb | hb
      · exact hb (O3 b h)
      exact hb.2 h
    have hn2 : ¬ (b = env.locals ∨ b = e ∨ b = it) := fun h => by
      rcases hb with hb | hb
      · exact hb (own3 b h ob hob)
      exact hb.1 h
    rw [not_or, not_or] at hn2
    cases h0 : g.h₀.get? b with
    | some ob' =>
      have := R.keep b ob' h0
      rw [hob] at this; (replace this := Option.some.inj this; subst this)
      exact R₁.keep b _ h0
    | none =>
      refine R₁.hid b ob ?_
      rw [h₁ b hn2.2.1 hn2.2.2]
      unfold HB
      dsimp only
      rw [if_neg (by rw [h0]; rintro (h | h); exact hno h; exact Mine.ft h)]; exact hob
  have eT : T ≠ e := fun h => by
    refine el_E (Option.isSome_iff_exists.mp he) ?_; intro ob h'
    have := q3 e ob h'
    rw [← h, q4 T o hT] at this; cases this
  have iT : T ≠ it := fun h => by
    refine el_E (Option.isSome_iff_exists.mp hi) ?_; intro ob h'
    have := q3 it ob h'
    rw [← h, q4 T o hT] at this; cases this
  have LT : T ≠ env.locals := fun h => by
    have := q4 T o hT
    rw [h, q1] at this; cases this
  have T0 : g.h₀.get? T = none := by
    cases h : g.h₀.get? T with
    | none => rfl
    | some ob => have := q0 T ob h; rw [q4 T o hT] at this; cases this
  have OT : s.heap.get? T = none ∨ O T := by
    cases h : s.heap.get? T with
    | none => exact .inl rfl
    | some ob =>
      by_cases hO' : O T
      · exact .inr hO'
      exfalso
      have : H₁.objs T = some ob := by
        rw [h₁ T eT iT]
        unfold HB
        dsimp only
        rw [if_neg (by rw [T0]; rintro (h | h); exact hO' h; exact Mine.ft h)]; exact h
      have := q3 T ob this
      rw [q4 T o hT] at this; cases this
  have Tρ : ∀ b ob, s.heap.get? b = some ob -> ρ b ≠ 3 -> b ≠ T := fun b ob hob hb h => by
    subst h
    rcases OT with h | h
    · rw [hob] at h; exact Mine.sn h
    exact hb (O3 _ h)
  have bound : gi < s₁.gens.size := by
    have := R₁.gen (gi, .running) (by rw [h₂]; exact .head _)
    exact (Array.getElem?_eq_some_iff.mp this).1
  refine ⟨?_, { ok := R.ok, ac := R.ac, above := R.above, inj := R.inj, os := R₁.os, bare := AllBare.set R₁.bare hgs, keep := R₁.keep, gen := fun p hp => ?_, hid := fun b ob h => ?_, loc := ?_, cel := fun x a h1 h2 => ?_, fre := fun x a h1 h2 v h3 => ?_, sto := (fun b o' h => ?_), role := ⟨fun b => if b = T then 4 else if b = env.locals ∨ b = e ∨ b = it then 3 else ρ b, fun b ob h => ?_, ?_, fun x a h1 h2 => ?_, fun b ob h => ?_, fun b o' h => ?_⟩ }⟩
  · cases h : S.σ T with
    | none => rfl
    | some o' =>
      exfalso
      refine el_EA (R.sto T o' h) ?_; intro ob h1 _
      exact Tρ T ob h1 (by rw [r4 T o' h]; decide) rfl
  · rcases List.mem_cons.mp hp with rfl | hp
    · show (s₁.gens.setIfInBounds gi gs')[gi]? = _
      simp [bound]
    have := R₁.gen p (by rw [h₂]; exact .tail _ hp)
    exact (gens_other (hgr p hp)).trans this
  · dsimp only at h
    split at h
    · exact h
    rename_i h1
    split at h
    · exact Mine.ns h
    rename_i h2
    exact keep b ob (.inr ⟨h1, h2⟩) (R.hid b ob h)
  · (refine el_EA R.loc ?_; intro m nn_193 hv; obtain ⟨oL, es, ep, hL, hLd, hLk, hLf⟩ := nn_193)
    exact ⟨m, ⟨oL, es, ep, keep _ _ (.inl (by rw [r1]; decide)) hL, hLd, hLk, hLf⟩, hv⟩
  · (refine el_EA (R.cel x a h1 h2) ?_; intro u nn_192 hu; obtain ⟨oc, hcc, hcd⟩ := nn_192)
    exact ⟨u, ⟨oc, keep _ _ (.inl (by rw [r2 x a h1 h2]; decide)) hcc, hcd⟩, hu⟩
  · (refine el_EEAA (R.fre x a h1 h2 v h3) ?_; intro ob u k1 k2 k3)
    have hno : ¬ O a := fun h => (hO a h).2 ob _ k1 k2
    have hn2 : ¬ (a = env.locals ∨ a = e ∨ a = it) := fun h => by
      rcases h with h | h
      · exact hno (h ▸ hOL)
      rcases hne a h with h | h
      · exact hno h
      have := R.hid a ob k1; rw [h] at this; exact Mine.ns this
    exact ⟨ob, u, by dsimp only; rw [if_neg hn2, if_neg hno]; exact k1, k2, k3⟩
  · have h : (if b = T then some o else S.σ b) = some o' := h
    by_cases hb : b = T
    · rw [if_pos hb] at h
      (replace h := Option.some.inj h; subst h)
      rw [hb]; exact R₁.sto T o hT
    rw [if_neg hb] at h
    refine el_EA (R.sto b o' h) ?_; intro ob h1 h2
    exact ⟨ob, keep _ _ (.inl (by rw [r4 b o' h]; decide)) h1, h2⟩
  · have hs := R.keep b ob h
    have h3 : ρ b ≠ 3 := by rw [r0 b ob h]; decide
    dsimp only
    rw [if_neg (Tρ b ob hs h3), if_neg fun h' => h3 (own3 b h' ob hs)]; exact r0 b ob h
  · (refine el_EA R.loc ?_; intro m nn_191 hv; obtain ⟨oL, es, ep, hL, _⟩ := nn_191)
    have h3 : ρ c.env.locals ≠ 3 := by rw [r1]; decide
    dsimp only
    rw [if_neg (Tρ _ _ hL h3), if_neg fun h' => h3 (own3 _ h' _ hL)]; exact r1
  · (refine el_EA (R.cel x a h1 h2) ?_; intro u nn_190 hu; obtain ⟨oc, hcc, hcd⟩ := nn_190)
    have h3 : ρ a ≠ 3 := by rw [r2 x a h1 h2]; decide
    dsimp only
    rw [if_neg (Tρ _ _ hcc h3), if_neg fun h' => h3 (own3 _ h' _ hcc)]; exact r2 x a h1 h2
  · dsimp only at h ⊢
    split at h
    · rename_i h1
      have : b ≠ T := by
        rintro rfl
        rcases h1 with h1 | h1 | h1
        · exact LT h1
        · exact eT h1
        exact iT h1
      rw [if_neg this, if_pos h1]
    rename_i h1
    split at h
    · exact Mine.ns h
    rename_i h2
    have : b ≠ T := by
      rintro rfl
      rcases OT with h' | h'
      · have := R.hid _ ob h; rw [h'] at this; exact Mine.ns this
      exact h2 h'
    rw [if_neg this, if_neg h1]; exact r3 b ob h
  have h : (if b = T then some o else S.σ b) = some o' := h
  dsimp only
  split at h
  · rename_i hb; rw [if_pos hb]
  rename_i hb
  refine el_EA (R.sto b o' h) ?_; intro ob h1 h2
  have h3 : ρ b ≠ 3 := by rw [r4 b o' h]; decide
  rw [if_neg hb, if_neg fun h' => h3 (own3 _ h' _ h1)]; exact r4 b o' h
end
end
section
open Sem (wp)
section
variable {g : Gl Int} {c : Ac} {S S' SG : St Int} {H H' H₁ : Hid} {s s₁ : Shared} {A : Around} {env : Env} {gi : Nat} {gs gs' : GenState}
theorem Rel.outEnd {O : Addr -> Prop} [DecidablePred O] {gensR : List (Nat × GenState)} (R : Rel g c H' S s) (R₁ : Rel g ⟨A, env, fun _ => false⟩ (HB g s O ((gi, .running) :: gensR)) SG s₁)
    (hO : ∀ b, O b -> (H'.objs b).isSome = true /\ ∀ ob u, H'.objs b = some ob -> ob.data = .cell u -> False) (hgs : gs'.bare = true) (hgr : ∀ p ∈ gensR, p.1 ≠ gi) :
    Rel g c ⟨fun b => if O b then none else H'.objs b, gensR⟩ S (s₁.setGen gi gs') := by
  refine el_EAAAA R.role ?_; intro ρ r0 r1 r2 r3 r4
  have O3 : ∀ b, O b -> ρ b = 3 := fun b hb => by
    refine el_E (Option.isSome_iff_exists.mp (hO b hb).1) ?_; intro ob h
    exact r3 b ob h
  have keep : ∀ b ob, ρ b ≠ 3 ∨ ¬ O b -> s.heap.get? b = some ob -> s₁.heap.get? b = some ob := fun b ob hb hob => by
    have hno : ¬ O b := fun h => by
      rcases hb with hb | hb
      · exact hb (O3 b h)
      exact hb h
    cases h0 : g.h₀.get? b with
    | some ob' =>
      have := R.keep b ob' h0
      rw [hob] at this; (replace this := Option.some.inj this; subst this)
      exact R₁.keep b _ h0
    | none =>
      refine R₁.hid b ob ?_
      unfold HB
      dsimp only
      rw [if_neg (by rw [h0]; rintro (h | h); exact hno h; exact Mine.ft h)]; exact hob
  refine { ok := R.ok, ac := R.ac, above := R.above, inj := R.inj, os := R₁.os, bare := AllBare.set R₁.bare hgs, keep := R₁.keep, gen := fun p hp => (gens_other (hgr p hp)).trans (R₁.gen p (.tail _ hp)), hid := fun b ob h => ?_, loc := ?_, cel := fun x a h1 h2 => ?_, fre := fun x a h1 h2 v h3 => ?_, sto := (fun b o' h => ?_), role := ⟨ρ, r0, r1, r2, fun b ob h => ?_, r4⟩ }
  · dsimp only at h
    split at h
    · exact Mine.ns h
    rename_i h2
    exact keep b ob (.inr h2) (R.hid b ob h)
  · (refine el_EA R.loc ?_; intro m nn_197 hv; obtain ⟨oL, es, ep, hL, hLd, hLk, hLf⟩ := nn_197)
    exact ⟨m, ⟨oL, es, ep, keep _ _ (.inl (by rw [r1]; decide)) hL, hLd, hLk, hLf⟩, hv⟩
  · (refine el_EA (R.cel x a h1 h2) ?_; intro u nn_196 hu; obtain ⟨oc, hcc, hcd⟩ := nn_196)
    exact ⟨u, ⟨oc, keep _ _ (.inl (by rw [r2 x a h1 h2]; decide)) hcc, hcd⟩, hu⟩
  · (refine el_EEAA (R.fre x a h1 h2 v h3) ?_; intro ob u k1 k2 k3)
    exact ⟨ob, u, by dsimp only; rw [if_neg fun h => (hO a h).2 ob _ k1 k2]; exact k1, k2, k3⟩
  · (refine el_EA (R.sto b o' h) ?_; intro ob h1 h2)
    exact ⟨ob, keep _ _ (.inl (by rw [r4 b o' h]; decide)) h1, h2⟩
  dsimp only at h
  split at h
  · exact Mine.ns h
  exact r3 b ob h
noncomputable def GStart (g : Gl Int) (A : Around) (env : Env) (MOK : St Int -> Prop) (z xa : Str) (fbody : List Stmt) : Prop :=
  ∀ (H : Hid) (s : Shared) (S : St Int), Rel g ⟨A, env, fun _ => false⟩ H S s -> S.m xa = some (.str z 0) -> Run1 (model g.prog g.w) A (.fresh (.func fbody env)) (.send .none) (fun en s' => ∃ e it, e ≠ it /\ H.objs e = none /\ H.objs it = none /\ GPost g A env MOK z e it z.cps.size H en s') s
noncomputable def NsOb (ob : Obj) (m : Str -> Option Value) (env : Env) : Prop := ∃ es ep, ∃ m₀ : Str -> Option Value, ob.data = .dict es ep /\ StrKeys es /\ (∀ name, nsFind es name = m₀ name) /\ ∀ x v, m x = some v -> env.kindOf x = some .local -> ∃ u, m₀ x = some u /\ er u = v
theorem NsOb.ns {ob : Obj} {m : Str -> Option Value} {L : Addr} {h : Heap} (x : NsOb ob m env) (ho : h.get? L = some ob) : ∃ m₀, h.Ns L m₀ /\ ∀ x v, m x = some v -> env.kindOf x = some .local -> ∃ u, m₀ x = some u /\ er u = v :=
  let ⟨es, ep, m₀, h1, h2, h3, h4⟩ := x; ⟨m₀, ⟨ob, es, ep, ho, h1, h2, h3⟩, h4⟩
structure GLive (g : Gl Int) (A : Around) (env : Env) (MOK : St Int -> Prop) (z : Str) (a : Addr) (gi : Nat) (H : Hid) (i : Nat) (H' : Hid) (gs : GenState) (e it : Addr) : Prop where
  ei : e ≠ it
  he : H.objs e = none
  hi : H.objs it = none
  ea : e ≠ a /\ it ≠ a
  oe : ∃ old, H'.objs e = some (enumOb it i old)
  oit : ∃ ob t, H'.objs it = some ob /\ ob.cls = .type "str_ascii_iterator" /\ ob.data = .fields #[.str z t, .int i 0]
  oL : ∃ ob m, H'.objs env.locals = some ob /\ NsOb ob m env /\ MOK ⟨m, fun _ => none⟩
  rest : ∀ b, b ≠ a -> b ≠ env.locals -> b ≠ e -> b ≠ it -> H'.objs b = H.objs b
  live : ∀ (H₂ H₂' : Hid) (s₂ : Shared) (S₂ : St Int), H₂.objs e = none -> H₂.objs it = none -> EP z e it i H₂ H₂' -> Rel g ⟨A, env, fun _ => false⟩ H₂' S₂ s₂ -> MOK S₂ -> Run1 (model g.prog g.w) A gs (.send .none) (GPost g A env MOK z e it (z.cps.size - i) H₂) s₂
structure GAt (g : Gl Int) (A : Around) (env : Env) (MOK : St Int -> Prop) (z xa : Str) (fbody : List Stmt) (a : Addr) (gi : Nat) (H : Hid) (i : Nat) (H' : Hid) : Prop where
  at_ : ∃ gs, H'.gens = (gi, gs) :: H.gens /\ ((i = 0 /\ gs = .fresh (.func fbody env) /\ (∃ ob m, H'.objs env.locals = some ob /\ NsOb ob m env /\ m xa = some (.str z 0)) /\ ∀ b, b ≠ a -> b ≠ env.locals -> H'.objs b = H.objs b) ∨ (1 ≤ i /\ ∃ e it, GLive g A env MOK z a gi H i H' gs e it))
  gen : ∃ ob nm qn, H'.objs a = some ob /\ ob.cls = .type "generator" /\ ob.data = .fields #[.int gi 0, nm, qn] /\ ob.slots = #[]
  ha : H.objs a = none
  hL : H.objs env.locals = none
  aL : a ≠ env.locals
  ok : Ac.Ok ⟨A, env, fun _ => false⟩
  cells : env.cells = []
  above : g.h₀.objs.size ≤ env.locals
  fresh : ∀ p ∈ H.gens, p.1 ≠ gi
variable {MOK : St Int -> Prop} {z xa : Str} {fbody : List Stmt} {a : Addr} {i : Nat}
theorem GAt.sub (p : GAt g A env MOK z xa fbody a gi H i H') : (∀ b o, H.objs b = some o -> H'.objs b = some o) /\ (∀ q ∈ H.gens, q ∈ H'.gens) /\ ∀ b ob u, H'.objs b = some ob -> ob.data = .cell u -> H.objs b = some ob := by
  refine el_EA p.at_ ?_; intro gs hg st
  refine el_EEEAAA p.gen ?_; intro oa nm qn a1 a2 a3 a4
  have hgens : ∀ q ∈ H.gens, q ∈ H'.gens := fun q hq => by rw [hg]; exact .tail _ hq
  rcases st with ⟨rfl, rfl, ⟨oL, m, l1, ⟨es, ep, m₀, l2, _⟩, _⟩, rest⟩ | ⟨h1, e, it, L⟩
  · refine ⟨fun b o h => ?_, hgens, fun b ob u h hu => ?_⟩
    · rw [rest b (by rintro rfl; rw [p.ha] at h; exact Mine.ns h) (by rintro rfl; rw [p.hL] at h; exact Mine.ns h)]; exact h
    have n1 : b ≠ a := by rintro rfl; rw [a1] at h; (replace h := Option.some.inj h; subst h); rw [a3] at hu; exact (nomatch hu)
    have n2 : b ≠ env.locals := by rintro rfl; rw [l1] at h; (replace h := Option.some.inj h; subst h); rw [l2] at hu; exact (nomatch hu)
    rw [← rest b n1 n2]; exact h
  refine el_E L.oe ?_; intro old e1
  refine el_EEAA L.oit ?_; intro oi t i1 i2 i3
  refine el_EEAA L.oL ?_; intro oL m l1 nn_195 _; obtain ⟨es, ep, m₀, l2, _⟩ := nn_195
  refine ⟨fun b o h => ?_, hgens, fun b ob u h hu => ?_⟩
  · rw [L.rest b (by rintro rfl; rw [p.ha] at h; exact Mine.ns h) (by rintro rfl; rw [p.hL] at h; exact Mine.ns h) (by rintro rfl; rw [L.he] at h; exact Mine.ns h) (by rintro rfl; rw [L.hi] at h; exact Mine.ns h)]; exact h
  have n1 : b ≠ a := by rintro rfl; rw [a1] at h; (replace h := Option.some.inj h; subst h); rw [a3] at hu; exact (nomatch hu)
  have n2 : b ≠ env.locals := by rintro rfl; rw [l1] at h; (replace h := Option.some.inj h; subst h); rw [l2] at hu; exact (nomatch hu)
  have n3 : b ≠ e := by rintro rfl; rw [e1] at h; (replace h := Option.some.inj h; subst h); exact (nomatch hu)
  have n4 : b ≠ it := by rintro rfl; rw [i1] at h; (replace h := Option.some.inj h; subst h); rw [i3] at hu; exact (nomatch hu)
  rw [← L.rest b n1 n2 n3 n4]; exact h
theorem GAt.back (p : GAt g A env MOK z xa fbody a gi H i H') (R : Rel g c H' S s) : Rel g c H S s := R.drop p.sub.1 p.sub.2.1 p.sub.2.2
end
end
section
open Sem (wp)
section
variable {g : Gl Int} {c : Ac} {S S' SG : St Int} {H H' H₁ : Hid} {s s₁ : Shared} {A : Around} {env : Env} {gi : Nat} {gs gs' : GenState}
variable {MOK : St Int -> Prop} {z xa : Str} {fbody : List Stmt} {a e it T : Addr} {i : Nat}
theorem gen_out (p : GAt g A env MOK z xa fbody a gi H i H') {O : Addr -> Prop} [DecidablePred O] (hOL : O env.locals) (hOc : ∀ b, O b -> b = env.locals ∨ b = e ∨ b = it) (R : Rel g c H' S s)
    (R₁ : Rel g ⟨A, env, fun _ => false⟩ H₁ S' s₁) (ep : EP z e it (i + 1) (HB g s O ((gi, .running) :: H.gens)) H₁)
    (hO : ∀ b, O b -> (H'.objs b).isSome = true /\ ∀ ob u, H'.objs b = some ob -> ob.data = .cell u -> False) (hne : ∀ b, b = e ∨ b = it -> O b ∨ s.heap.get? b = none)
    (ei : e ≠ it) (he0 : H.objs e = none) (hi0 : H.objs it = none) (ea : e ≠ a /\ it ≠ a) (rest : ∀ b, b ≠ a -> b ≠ env.locals -> b ≠ e -> b ≠ it -> H'.objs b = H.objs b)
    (hT : S'.σ T = some (.tup (yv z i))) (mok : MOK ⟨S'.m, fun _ => none⟩) (hgs : gs'.bare = true)
    (live : ∀ (H₂ H₂' : Hid) (s₂ : Shared) (S₂ : St Int), H₂.objs e = none -> H₂.objs it = none -> EP z e it (i + 1) H₂ H₂' -> Rel g ⟨A, env, fun _ => false⟩ H₂' S₂ s₂ -> MOK S₂ -> Run1 (model g.prog g.w) A gs' (.send .none) (GPost g A env MOK z e it (z.cps.size - (i + 1)) H₂) s₂) :
    ∃ H'', GAt g A env MOK z xa fbody a gi H (i + 1) H'' /\ S.σ T = none /\ Rel g c H'' ⟨S.m, upd S.σ T (.tup (yv z i))⟩ (s₁.setGen gi gs') := by
  refine el_EEAAAAA ep ?_; (try clear ep); intro old obI h1 h2 h3 nn_200 h5 h6; obtain ⟨t, h4⟩ := nn_200
  refine el_A (R.outGen R₁ p.cells hO hOL h5 h6 (by rw [h1]; rfl) (by rw [h2]; rfl) hne hT hgs p.fresh) ?_; intro T0 R₂
  refine ⟨_, ⟨⟨gs', rfl, .inr ⟨Nat.le_add_left _ _, e, it, ?_⟩⟩, ?_, p.ha, p.hL, p.aL, p.ok, p.cells, p.above, p.fresh⟩, T0, R₂⟩
  · (refine el_EA R₁.loc ?_; intro m₀ nn_199 l5; obtain ⟨oL, es, ep, l1, l2, l3, l4⟩ := nn_199)
    refine ⟨ei, he0, hi0, ea, ⟨old, ?_⟩, ⟨obI, t, ?_, h3, h4⟩, ⟨oL, S'.m, ?_, ⟨es, ep, m₀, l2, l3, l4, l5⟩, mok⟩, fun b b1 b2 b3 b4 => ?_, live⟩
    · dsimp only; rw [if_pos (.inr (.inl rfl))]; exact R₁.hid _ _ h1
    · dsimp only; rw [if_pos (.inr (.inr rfl))]; exact R₁.hid _ _ h2
    · dsimp only; rw [if_pos (.inl rfl)]; exact l1
    dsimp only
    rw [if_neg (by rintro (q | q | q); exact b2 q; exact b3 q; exact b4 q), if_neg (fun q => by rcases hOc b q with q | q | q; exact b2 q; exact b3 q; exact b4 q)]
    exact rest b b1 b2 b3 b4
  refine el_EEEAAA p.gen ?_; intro ob nm qn a1 a2 a3 a4
  refine ⟨ob, nm, qn, ?_, a2, a3, a4⟩
  dsimp only
  have n1 := p.aL
  rw [if_neg (by rintro (q | q | q); exact n1 q; exact ea.1 q.symm; exact ea.2 q.symm), if_neg (fun q => by rcases hOc a q with q | q | q; exact n1 q; exact ea.1 q.symm; exact ea.2 q.symm)]
  exact a1
theorem EP_HB (R : Rel g c H' S s) {gensR : List (Nat × GenState)} (L : GLive g A env MOK z a gi H i H' gs e it) (above : g.h₀.objs.size ≤ env.locals) :
    EP z e it i (HB g s (fun b => b = env.locals ∨ b = e ∨ b = it) gensR) (HB g s (fun b => b = env.locals) gensR) /\ (HB g s (fun b => b = env.locals ∨ b = e ∨ b = it) gensR).objs e = none /\ (HB g s (fun b => b = env.locals ∨ b = e ∨ b = it) gensR).objs it = none := by
  refine el_EAAAA R.role ?_; intro ρ r0 r1 r2 r3 r4
  refine el_E L.oe ?_; intro old e1
  refine el_EEAA L.oit ?_; intro oi t i1 i2 i3
  refine el_EEAA L.oL ?_; intro oL m l1 nn_198 _; obtain ⟨es, ep, m₀, l2, _⟩ := nn_198
  have h0 : ∀ b ob, H'.objs b = some ob -> g.h₀.get? b = none := fun b ob h => by
    cases q : g.h₀.get? b with
    | none => rfl
    | some o' => have := r0 b o' q; rw [r3 b ob h] at this; cases this
  have eL : e ≠ env.locals := by rintro rfl; rw [l1] at e1; (replace e1 := Option.some.inj e1; subst e1); exact (nomatch l2)
  have iL' : it ≠ env.locals := by rintro rfl; rw [l1] at i1; (replace i1 := Option.some.inj i1; subst i1); rw [l2] at i3; exact (nomatch i3)
  refine ⟨⟨old, oi, ?_, ?_, i2, ⟨t, i3⟩, fun b b1 b2 => ?_, rfl⟩, ?_, ?_⟩
  · unfold HB
    dsimp only
    rw [if_neg (by rw [h0 _ _ e1]; rintro (q | q); exact eL q; exact Mine.ft q)]; exact R.hid _ _ e1
  · unfold HB
    dsimp only
    rw [if_neg (by rw [h0 _ _ i1]; rintro (q | q); exact iL' q; exact Mine.ft q)]; exact R.hid _ _ i1
  · unfold HB
    dsimp only
    by_cases q : b = env.locals ∨ (g.h₀.get? b).isSome = true
    · rw [if_pos q, if_pos (q.elim (fun q => .inl (.inl q)) .inr)]
    rw [if_neg q, if_neg (by rintro ((q' | q' | q') | q'); exact q (.inl q'); exact b1 q'; exact b2 q'; exact q (.inr q'))]
  · unfold HB; dsimp only; rw [if_pos (.inl (.inr (.inl rfl)))]
  unfold HB; dsimp only; rw [if_pos (.inl (.inr (.inr rfl)))]
end
end
section
open Sem (wp)
section
variable {g : Gl Int} {c : Ac} {S S' SG : St Int} {H H' H₁ : Hid} {s s₁ : Shared} {env : Env} {gi : Nat} {gs gs' : GenState}
variable {MOK : St Int -> Prop} {z xa : Str} {fbody : List Stmt} {a e it T : Addr} {i : Nat}
theorem gen_next (hM : ∀ S, MOK S -> MOK ⟨S.m, fun _ => none⟩) (start : GStart g c.A.in1 env MOK z xa fbody) (hlt : i < z.cps.size) (p : GAt g c.A.in1 env MOK z xa fbody a gi H i H') (R : Rel g c H' S s) :
    wpAny (model g.prog g.w) c.A (pyNext (.ref a)) (fun r s₁ => ∃ T H'', r = some (.ref T) /\ GAt g c.A.in1 env MOK z xa fbody a gi H (i + 1) H'' /\ S.σ T = none /\ Rel g c H'' ⟨S.m, upd S.σ T (.tup (yv z i))⟩ s₁) (fun _ _ => False) s := by
  refine el_EA p.at_ ?_; intro gs hg st
  refine el_EEEAAA p.gen ?_; intro oa nm qn a1 a2 a3 a4
  have hgs : s.gens[gi]? = some gs := R.gen (gi, gs) (by rw [hg]; exact .head _)
  have hgR : ∀ q ∈ H.gens, s.gens[q.1]? = some q.2 /\ q.1 ≠ gi := fun q hq => ⟨R.gen q (by rw [hg]; exact .tail _ hq), p.fresh q hq⟩
  have isG : s.heap.IsGen a gi := ⟨oa, nm, qn, R.hid a oa a1, a2, a3, a4⟩
  have room : c.A.depth < recursionLimit := by have := R.ac.deep.1; exact om09 ‹_›
  have ha := R.hid a oa a1
  rcases st with ⟨rfl, rfl, ⟨oL, m, l1, nso, hm⟩, rest⟩ | ⟨h1, e, it, L⟩
  · have RG := R.intoGen (A := c.A.in1) (m := m) p.ok p.cells p.above (nso.ns (R.hid _ _ l1)) hgs hgR
    refine next_gen R.ac.hd R.nolimit room isG hgs (start _ _ _ RG hm) fun en s₁ hq ⟨e, it, ei, he, hi, post⟩ => .inl ?_
    obtain ⟨k, hk⟩ : ∃ k, z.cps.size = k + 1 := ⟨z.cps.size - 1, by exact om41 ‹_›⟩
    rw [hk] at post
    refine el_A post ?_; (try clear post); intro nn_204 live; obtain ⟨T, l, kk, cc, pp, fs, rfl, H₁, S', ep, R₁, mok, hT⟩ := nn_204
    refine ⟨_, _, _, _, _, _, _, rfl, ?_⟩
    have hk1 : z.cps.size - k = 0 + 1 := om51 (n := z.cps.size) (i := 0) hk
    have hk2 : z.cps.size - (k + 1) = 0 := om52 (n := z.cps.size) (i := 0) hk
    have hk3 : k = z.cps.size - (0 + 1) := om53 (n := z.cps.size) (i := 0) hk
    rw [hk1] at ep live
    rw [hk2] at hT
    refine el_EAAAA R₁.role ?_; intro q q0 q1 q2 q3 q4
    refine el_EEAA (id ep) ?_; intro old obI e1 e2 _
    have new : ∀ b ob, H₁.objs b = some ob -> (HB g s (fun b => b = env.locals) ((gi, .running) :: H.gens)).objs b = none -> s.heap.get? b = none := fun b ob hb hn => by
      have h3 := q3 b ob hb
      unfold HB at hn
      dsimp only at hn
      rwa [if_neg] at hn
      rintro (h | h)
      · rw [h, q1] at h3; cases h3
      refine el_E (Option.isSome_iff_exists.mp h) ?_; intro o' h
      rw [q0 b o' h] at h3; cases h3
    have ne := new e _ e1 he
    have ni := new it _ e2 hi
    have hH : ∀ b, s.heap.get? b = none -> H.objs b = none := fun b hb => by
      cases h : H.objs b with
      | none => rfl
      | some o => have := R.hid b o (p.sub.1 b o h); rw [hb] at this; exact Mine.ns this
    obtain ⟨H'', p', T0, R₂⟩ := gen_out (gs' := (End.susp (.ref T) false l kk cc pp fs).genState) p (O := fun b => b = env.locals) rfl (fun b h => .inl h) R R₁ ep (fun b hb => by
      subst hb
      refine ⟨by rw [l1]; rfl, fun ob u h hu => ?_⟩
      rw [l1] at h; (replace h := Option.some.inj h; subst h)
      refine el_EEEA nso ?_; (try clear nso); intro es ep' m₀ l2 _
      rw [l2] at hu; exact (nomatch hu)) (fun b hb => by
      rcases hb with rfl | rfl
      · exact .inr ne
      · exact .inr ni) ei (hH _ ne) (hH _ ni) ⟨(fun h => by rw [h, ha] at ne; exact Mine.sn ne), (fun h => by rw [h, ha] at ni; exact Mine.sn ni)⟩ (fun b b1 b2 _ _ => rest b b1 b2) hT (hM _ mok) (End.bare_of_quiet hq) (by rw [← hk3]; exact live)
    exact ⟨T, H'', rfl, p', T0, R₂⟩
  have ⟨epb, he, hi⟩ := EP_HB (gensR := (gi, GenState.running) :: H.gens) R L p.above
  refine el_EEAA L.oL ?_; intro oL m l1 nso mok₀
  have RG := R.intoGen (A := c.A.in1) (m := m) p.ok p.cells p.above (nso.ns (R.hid _ _ l1)) hgs hgR
  refine next_gen R.ac.hd R.nolimit room isG hgs (L.live _ _ _ _ he hi epb RG mok₀) fun en s₁ hq post => .inl ?_
  obtain ⟨k, hk⟩ : ∃ k, z.cps.size - i = k + 1 := ⟨z.cps.size - i - 1, by exact om41 ‹_›⟩
  rw [hk] at post
  refine el_A post ?_; (try clear post); intro nn_203 live; obtain ⟨T, l, kk, cc, pp, fs, rfl, H₁, S', ep, R₁, mok, hT⟩ := nn_203
  refine ⟨_, _, _, _, _, _, _, rfl, ?_⟩
  have hk1 : z.cps.size - k = i + 1 := om51 hk
  have hk2 : z.cps.size - (k + 1) = i := om52 hk
  have hk3 : k = z.cps.size - (i + 1) := om53 hk
  rw [hk1] at ep live
  rw [hk2] at hT
  refine el_E L.oe ?_; intro old e1
  refine el_EEAA L.oit ?_; intro oi t i1 i2 i3
  refine el_EEEA (id nso) ?_; intro es ep' m₀ l2 _
  obtain ⟨H'', p', T0, R₂⟩ := gen_out (gs' := (End.susp (.ref T) false l kk cc pp fs).genState) p (O := fun b => b = env.locals ∨ b = e ∨ b = it) (.inl rfl) (fun b h => h) R R₁ ep (fun b hb => by
    rcases hb with rfl | rfl | rfl
    · exact ⟨by rw [l1]; rfl, fun ob u h hu => by rw [l1] at h; (replace h := Option.some.inj h; subst h); rw [l2] at hu; exact (nomatch hu)⟩
    · exact ⟨by rw [e1]; rfl, fun ob u h hu => by rw [e1] at h; (replace h := Option.some.inj h; subst h); exact (nomatch hu)⟩
    · exact ⟨by rw [i1]; rfl, fun ob u h hu => by rw [i1] at h; (replace h := Option.some.inj h; subst h); rw [i3] at hu; exact (nomatch hu)⟩) (fun b hb => .inl (.inr hb)) L.ei L.he L.hi L.ea L.rest hT (hM _ mok) (End.bare_of_quiet hq) (by rw [← hk3]; exact live)
  exact ⟨T, H'', rfl, p', T0, R₂⟩
theorem gen_done (start : GStart g c.A.in1 env MOK z xa fbody) (p : GAt g c.A.in1 env MOK z xa fbody a gi H z.cps.size H') (R : Rel g c H' S s) :
    wpAny (model g.prog g.w) c.A (pyNext (.ref a)) (fun r s₁ => r = none /\ Rel g c H S s₁) (fun _ _ => False) s := by
  refine el_EA p.at_ ?_; intro gs hg st
  refine el_EEEAAA p.gen ?_; intro oa nm qn a1 a2 a3 a4
  have hgs : s.gens[gi]? = some gs := R.gen (gi, gs) (by rw [hg]; exact .head _)
  have hgR : ∀ q ∈ H.gens, s.gens[q.1]? = some q.2 /\ q.1 ≠ gi := fun q hq => ⟨R.gen q (by rw [hg]; exact .tail _ hq), p.fresh q hq⟩
  have isG : s.heap.IsGen a gi := ⟨oa, nm, qn, R.hid a oa a1, a2, a3, a4⟩
  have room : c.A.depth < recursionLimit := by have := R.ac.deep.1; exact om09 ‹_›
  have sub := p.sub
  rcases st with ⟨h0, rfl, ⟨oL, m, l1, nso, hm⟩, rest⟩ | ⟨h1, e, it, L⟩
  · have RG := R.intoGen (A := c.A.in1) (m := m) p.ok p.cells p.above (nso.ns (R.hid _ _ l1)) hgs hgR
    refine next_gen R.ac.hd R.nolimit room isG hgs (start _ _ _ RG hm) fun en s₁ hq ⟨e, it, ei, he, hi, post⟩ => .inr ?_
    rw [h0] at post
    refine el_AE post ?_; (try clear post); intro rfl_202 S' R₁; subst rfl_202
    refine el_EEEA (id nso) ?_; intro es ep' m₀ l2 _
    refine ⟨rfl, fun h' hk => ⟨rfl, ?_⟩⟩
    have R₂ := R.outEnd (O := fun b => b = env.locals) (gs' := .finished) (gensR := H.gens) R₁ (fun b hb => by
      subst hb
      exact ⟨by rw [l1]; rfl, fun ob u h hu => by rw [l1] at h; (replace h := Option.some.inj h; subst h); rw [l2] at hu; exact (nomatch hu)⟩) rfl p.fresh
    refine (R₂.grow (tk := s₁.toks) hk).drop (fun b o h => ?_) (fun q hq => hq) fun b ob u h hu => ?_
    · dsimp only
      rw [if_neg (by rintro rfl; rw [p.hL] at h; exact Mine.ns h)]; exact sub.1 b o h
    dsimp only at h
    split at h
    · exact Mine.ns h
    exact sub.2.2 b ob u h hu
  have ⟨epb, he, hi⟩ := EP_HB (gensR := (gi, GenState.running) :: H.gens) R L p.above
  refine el_EEAA L.oL ?_; intro oL m l1 nso mok₀
  have RG := R.intoGen (A := c.A.in1) (m := m) p.ok p.cells p.above (nso.ns (R.hid _ _ l1)) hgs hgR
  refine next_gen R.ac.hd R.nolimit room isG hgs (L.live _ _ _ _ he hi epb RG mok₀) fun en s₁ hq post => .inr ?_
  rw [Nat.sub_self] at post
  refine el_AE post ?_; (try clear post); intro rfl_201 S' R₁; subst rfl_201
  refine el_E L.oe ?_; intro old e1
  refine el_EEAA L.oit ?_; intro oi t i1 i2 i3
  refine el_EEEA (id nso) ?_; intro es ep' m₀ l2 _
  refine ⟨rfl, fun h' hk => ⟨rfl, ?_⟩⟩
  have R₂ := R.outEnd (O := fun b => b = env.locals ∨ b = e ∨ b = it) (gs' := .finished) (gensR := H.gens) R₁ (fun b hb => by
    rcases hb with rfl | rfl | rfl
    · exact ⟨by rw [l1]; rfl, fun ob u h hu => by rw [l1] at h; (replace h := Option.some.inj h; subst h); rw [l2] at hu; exact (nomatch hu)⟩
    · exact ⟨by rw [e1]; rfl, fun ob u h hu => by rw [e1] at h; (replace h := Option.some.inj h; subst h); exact (nomatch hu)⟩
    · exact ⟨by rw [i1]; rfl, fun ob u h hu => by rw [i1] at h; (replace h := Option.some.inj h; subst h); rw [i3] at hu; exact (nomatch hu)⟩) rfl p.fresh
  refine (R₂.grow (tk := s₁.toks) hk).drop (fun b o h => ?_) (fun q hq => hq) fun b ob u h hu => ?_
  · dsimp only
    rw [if_neg (by rintro (rfl | rfl | rfl); rw [p.hL] at h; exact Mine.ns h; rw [L.he] at h; exact Mine.ns h; rw [L.hi] at h; exact Mine.ns h)]; exact sub.1 b o h
  dsimp only at h
  split at h
  · exact Mine.ns h
  exact sub.2.2 b ob u h hu
end
end
section
open Sem (wp)
section
variable {g : Gl Int} {c : Ac} {S S' SG : St Int} {H H' H₁ : Hid} {s s₁ : Shared} {env : Env} {gi : Nat} {gs gs' : GenState}
variable {MOK : St Int -> Prop} {z xa : Str} {fbody : List Stmt} {a e it T : Addr} {i : Nat}
noncomputable def turnsGen (g : Gl Int) (c : Ac) (H : Hid) (x y : Str) (px py pt : Pos) (k : Nat) (a : Addr) (gi : Nat) (env : Env) (MOK : St Int -> Prop) (z xa : Str) (fbody : List Stmt) (hM : ∀ S, MOK S -> MOK ⟨S.m, fun _ => none⟩) (start : GStart g c.A.in1 env MOK z xa fbody)
    (hx : isOwn c.env.scope x = true) (hy : isOwn c.env.scope y = true) (ex : c.ext x = false) (ey : c.ext y = false) : Turns g c H (.Tuple [.Name x px, .Name y py] k pt) (.ref a) z.cps.size (enumStepS x y z) (fun _ => True) where
  P i H' := GAt g c.A.in1 env MOK z xa fbody a gi H i H'
  back i H' S s hP R := hP.back R
  turn i H' S s hlt hP R _ := by
    refine wpAny_mono (gen_next hM start hlt hP R) (fun r s₁ ⟨T, H'', hr, p', T0, R₁⟩ => ⟨_, hr, ?_⟩) fun _ _ x => x
    refine el_EEEAAA p'.gen ?_; intro oa nm qn a1 a2 a3 a4
    refine lets_plain (R₁.hid _ _ a1) (by unfold plainIter; rw [a2]; rfl) ?_
    have hT : (⟨S.m, upd S.σ T (.tup (yv z i))⟩ : St Int).σ T = some (.tup [.int i 0, .str ⟨#[z.cps.getD i 0]⟩ 0]) := upd_self
    refine goK (WAsg_tup2 (Q := fun S₁ => S₁ = ⟨setv (setv S.m x (.int i 0)) y (.str ⟨#[z.cps.getD i 0]⟩ 0), upd S.σ T (.tup (yv z i))⟩) (px := px) (py := py) (pt := pt) (k := k) (.inl hT) (W_Store hx ex (W_Store hy ey rfl)) (.ref T) rfl H'' s₁ R₁) (fun _ s₂ S₂ R₂ q => ?_)
    subst q
    exact ⟨H'', p', R₂.le (fun _ _ e => e) fun b o e => upd_le T0 b o e⟩
  done H' S s hP R _ := gen_done start hP R
end
end
section
open Sem (wp)
section
variable {g : Gl Int} {c : Ac} {S S' SG : St Int} {H H' H₁ : Hid} {s s₁ : Shared} {gi : Nat}
variable {MOK : St Int -> Prop} {z xa : Str} {body : List Stmt} {a f : Addr} {scope : Scope} {fd : FuncData}
structure EnvOk (env : Env) (scope : Scope) : Prop where
  scope : env.scope = scope
  cells : env.cells = []
  gl : env.globals = mainGlobals
  bl : env.builtins = builtinsNs
noncomputable def scopeGen (scope : Scope) : Bool := scope.kind == .function && !scope.isCoroutine && scope.isGenerator && scope.names.all (fun x => x.2 != .free && x.2 != .cell)
theorem cellsFrom_nil : ∀ (l : List (Str × NameKind)) (n : Addr), l.all (fun x => x.2 != .free && x.2 != .cell) = true -> cellsFrom n l [] = []
  | [], n, _ => rfl
  | (x, k) :: l, n, h => by
    have h1 := List.all_eq_true.mp h (x, k) (.head _)
    have h2 : l.all (fun x => x.2 != .free && x.2 != .cell) = true := List.all_eq_true.mpr fun y hy => List.all_eq_true.mp h y (.tail _ hy)
    have ih := cellsFrom_nil l n h2
    unfold cellsFrom
    cases k <;> first | exact ih | (simp at h1)
theorem gen_make (Fn : FnIs g.K f body scope fd) (hsc : scopeGen scope = true) (hbind : ∀ u, er u = .str z 0 -> bindArgs fd ⟨[u], []⟩ = pure [(xa, u)]) (hloc : scope.names.lookup xa = some .local) (hd : c.Deep 1) (R : Rel g c H S s) {u : Value} (hu : er u = .str z 0) :
    wpAny (model g.prog g.w) c.A (call (.ref f) [u]) (fun v s₁ => ∃ a gi env H', v = .ref a /\ EnvOk env scope /\ GAt g c.A.in1 env MOK z xa body a gi H 0 H' /\ Rel g c H' S s₁) (fun _ _ => False) s := by
  refine el_EEE Fn.at_ ?_; intro oc od osl ho
  simp only [scopeGen, Bool.and_eq_true, beq_iff_eq, Bool.not_eq_true'] at hsc
  refine el_A hsc ?_; (try clear hsc); intro nn_210 k4; obtain ⟨⟨k1, k2⟩, k3⟩ := nn_210
  have hfs := Fn.scope
  refine wpAny_call (codeAny_call_generator (by have := R.ac.deep.1; exact om09 ‹_›) (R.in_K _ _ ho) rfl (by rw [hfs]; exact k2) (by rw [hfs]; exact k3) Fn.body (codeRec_of R.in_K Fn.cd) ?_)
  rw [hbind u hu, Fn.clo]
  refine wpAny_pure (wpAny_newFunctionEnv_cells (by rw [hfs]; exact k1) (fun y hy => ?_) fun env he s₂ x => ?_)
  · rw [List.mem_singleton.mp hy, hfs]; exact .inl hloc
  have hcells : env.cells = [] := by rw [he]; show cellsFrom _ _ _ = _; rw [hfs]; exact cellsFrom_nil _ _ k4
  have hL : env.locals = s.heap.objs.size := by rw [he]; rfl
  have eok : EnvOk env scope := ⟨by rw [he]; exact hfs, hcells, by rw [he]; exact Fn.gl, by rw [he]; exact Fn.bl⟩
  have hns := x.toInCall.ns
  refine el_EEA x.done ?_; intro h₁ tk rfl_209 hk; subst rfl_209
  refine el_EEEAAA hns ?_; (try clear hns); intro oL es ep hLo hLd hLk hLf
  refine el_EAAAA R.role ?_; intro ρ r0 r1 r2 r3 r4
  have lt : ∀ b o, s.heap.get? b = some o -> b ≠ env.locals /\ b ≠ h₁.objs.size := fun b o e => by
    have h1 := Heap.lt_size e
    have h2 := Heap.lt_size (hk b o e)
    exact ⟨by rw [hL]; exact Nat.ne_of_lt h1, Nat.ne_of_lt h2⟩
  have aL : h₁.objs.size ≠ env.locals := fun e => by
    have := Heap.lt_size hLo
    rw [← e] at this; exact Nat.lt_irrefl _ this
  have free : ∀ b, s.heap.get? b = none -> H.objs b = none := fun b hb => R.free_hid hb
  have hLn : s.heap.get? env.locals = none := by rw [hL]; exact size_none _
  have han : s.heap.get? h₁.objs.size = none := by
    cases q : s.heap.get? h₁.objs.size with
    | none => rfl
    | some o => exact absurd rfl (lt _ o q).2
  refine ⟨R.nolimit.keeps hk, h₁.objs.size, s.gens.size, env, ⟨fun b => if b = h₁.objs.size then some { cls := .type "generator", data := .fields #[.int s.gens.size 0, .str fd.name tk, .str fd.qualname (tk + 1)] } else if b = env.locals then some oL else H.objs b, (s.gens.size, .fresh (.func body env)) :: H.gens⟩, rfl, eok, ?_, ?_⟩
  · refine ⟨⟨_, rfl, .inl ⟨rfl, rfl, ⟨oL, setv (fun _ => none) xa (.str z 0), ?_, ⟨es, ep, _, hLd, hLk, hLf, fun y v hy hk' => ?_⟩, if_pos rfl⟩, fun b b1 b2 => ?_⟩⟩, ⟨_, _, _, if_pos rfl, rfl, rfl, rfl⟩, free _ han, free _ hLn, aL, ?_, hcells, ?_, fun p hp => ?_⟩
    · dsimp only; rw [if_neg (Ne.symm aL), if_pos rfl]
    · unfold setv at hy
      split at hy
      · rename_i e
        subst e
        (replace hy := Option.some.inj hy; subst hy)
        have e2 : env.kindOf y = some .local := hk'
        refine ⟨u, ?_, hu⟩
        show bindL env.kindOf [(y, u)] (fun _ => none) y = some u
        simp [bindL, e2]
      exact Mine.ns hy
    · dsimp only; rw [if_neg b1, if_neg b2]
    · refine ⟨by rw [eok.scope]; exact k1, eok.gl, eok.bl, R.ac.hd, ?_, fun y hy => ?_, fun y hy => ?_⟩
      · have := hd.in1 (n := 0)
        exact this
      · exfalso
        have hy : env.scope.names.lookup y = some .cell := hy
        rw [eok.scope] at hy
        have := List.all_eq_true.mp k4 (y, .cell) (mem_of_lookup hy)
        simp at this
      exfalso
      have hy : env.scope.names.lookup y = some .free := hy
      rw [eok.scope] at hy
      have := List.all_eq_true.mp k4 (y, .free) (mem_of_lookup hy)
      simp at this
    · rw [hL]
      refine el_EA R.loc ?_; intro m nn_208 _; obtain ⟨o', _, _, e1, _⟩ := nn_208
      exact Nat.le_trans R.above (Nat.le_of_lt (Heap.lt_size e1))
    have := R.gen p hp
    exact Nat.ne_of_lt (Array.getElem?_eq_some_iff.mp this).1
  have kp : ∀ b o, s.heap.get? b = some o -> (h₁.push { cls := .type "generator", data := .fields #[.int s.gens.size 0, .str fd.name tk, .str fd.qualname (tk + 1)] }).get? b = some o := fun b o e => Heap.get?_push_of_some _ (hk b o e)
  refine el_EA R.loc ?_; intro m nn_207 hv; obtain ⟨o', es', ep', e1, e2, e3, e4⟩ := nn_207
  refine { ok := R.ok, ac := R.ac, above := R.above, inj := R.inj, os := R.os, bare := R.bare.push rfl, keep := fun b o e => kp b o (R.keep b o e), gen := fun p hp => ?_, hid := fun b o h => ?_, loc := ⟨m, ⟨o', es', ep', kp _ _ e1, e2, e3, e4⟩, hv⟩, cel := fun y b h1 h2 => ?_, fre := fun y b h1 h2 v h3 => ?_, sto := (fun b o e => ?_), role := ⟨fun b => if b = h₁.objs.size ∨ b = env.locals then 3 else ρ b, fun b o e => ?_, ?_, fun y b h1 h2 => ?_, fun b o e => ?_, fun b o e => ?_⟩ }
  · rcases List.mem_cons.mp hp with rfl | hp
    · show (s.gens.push _)[s.gens.size]? = _
      simp
    have h := R.gen p hp
    have hl := (Array.getElem?_eq_some_iff.mp h).1
    show (s.gens.push _)[p.1]? = _
    rw [Array.getElem?_push_lt hl, ← h, Array.getElem?_eq_getElem hl]
  · dsimp only at h
    split at h
    · rename_i e; subst e; (replace h := Option.some.inj h; subst h); exact Heap.get?_push_size _ rfl
    split at h
    · rename_i e; subst e; (replace h := Option.some.inj h; subst h); exact Heap.get?_push_of_some _ hLo
    exact kp b o (R.hid b o h)
  · (refine el_EA (R.cel y b h1 h2) ?_; intro u' nn_206 hu'; obtain ⟨oc, hcc, hcd⟩ := nn_206)
    exact ⟨u', ⟨oc, kp _ _ hcc, hcd⟩, hu'⟩
  · (refine el_EEAA (R.fre y b h1 h2 v h3) ?_; intro ob u' q1 q2 q3)
    refine el_A (lt b ob (R.hid b ob q1)) ?_; intro n1 n2
    exact ⟨ob, u', by dsimp only; rw [if_neg n2, if_neg n1]; exact q1, q2, q3⟩
  · (refine el_EA (R.sto b o e) ?_; intro ob q1 q2)
    exact ⟨ob, kp _ _ q1, q2⟩
  · (refine el_A (lt b o (R.keep b o e)) ?_; intro n1 n2)
    dsimp only; rw [if_neg (by rintro (q | q); exact n2 q; exact n1 q)]; exact r0 b o e
  · (refine el_A (lt _ _ e1) ?_; intro n1 n2)
    dsimp only; rw [if_neg (by rintro (q | q); exact n2 q; exact n1 q)]; exact r1
  · (refine el_EA (R.cel y b h1 h2) ?_; intro u' nn_205 hu'; obtain ⟨oc, hcc, hcd⟩ := nn_205)
    refine el_A (lt _ _ hcc) ?_; intro n1 n2
    dsimp only; rw [if_neg (by rintro (q | q); exact n2 q; exact n1 q)]; exact r2 y b h1 h2
  · dsimp only at e ⊢
    split at e
    · rename_i q; rw [if_pos (.inl q)]
    split at e
    · rename_i q; rw [if_pos (.inr q)]
    rename_i q1 q2
    rw [if_neg (by rintro (q | q); exact q1 q; exact q2 q)]; exact r3 b o e
  refine el_EA (R.sto b o e) ?_; intro ob q1 q2
  refine el_A (lt _ _ q1) ?_; intro n1 n2
  dsimp only; rw [if_neg (by rintro (q | q); exact n2 q; exact n1 q)]; exact r4 b o e
end
end
section
open Sem (wp)
section
variable {g : Gl Int} {c : Ac} {S S' SG : St Int} {H H' H₁ : Hid} {s s₁ : Shared} {gi : Nat}
variable {MOK : St Int -> Prop} {z xa : Str} {gbody : List Stmt} {a f : Addr} {scope : Scope} {fd : FuncData}
noncomputable def ForGenPost (g : Gl Int) (c : Ac) (MOK : St Int -> Prop) (z xa : Str) (gbody : List Stmt) (scope : Scope) (fd : FuncData) (x y : Str) (body orelse : List Stmt) (Q : Flow -> St Int -> Prop) (w : Value) (S₂ : St Int) : Prop :=
  w = .str z 0 /\ (∀ u, er u = .str z 0 -> bindArgs fd ⟨[u], []⟩ = pure [(xa, u)]) /\ (∀ env, EnvOk env scope -> GStart g c.A.in1 env MOK z xa gbody) /\
      ∃ Inv : Nat -> St Int -> Prop, Inv 0 S₂ /\ (∀ i S₃, i < z.cps.size -> Inv i S₃ -> WXs g c body (enumStepS x y z i S₃) (ForQ Inv i Q)) /\ ∀ S₃, Inv z.cps.size S₃ -> WXs g c orelse S₃ Q
theorem WX_ForGen {x y : Str} {px py pt : Pos} {k : Nat} {fn : Str} {fp cpos : Pos} {arg : Expr} {body orelse : List Stmt} {pos : Pos} {Q : Flow -> St Int -> Prop} {sc : Scope} (hsc : c.env.scope = sc) (hext : c.ext = fun _ => false) (hx : isOwn sc x = true) (hy : isOwn sc y = true)
    (hs : ∀ env v, foldedSetIterable (.Call (.Name fn fp) [arg] [] cpos) env v = pure v) (Fn : FnIs g.K f gbody scope fd) (hgen : scopeGen scope = true) (hloc : scope.names.lookup xa = some .local) (hd : c.Deep 1)
    (hM : ∀ S, MOK S -> MOK ⟨S.m, fun _ => none⟩) (hk : Keeps g.K (.ref f) = true) (ha : notStar arg = true)
    (hf : WE g c (.Name fn fp) S fun v S₁ => v = .ref f /\ WE g c arg S₁ fun w S₂ => ForGenPost g c MOK z xa gbody scope fd x y body orelse Q w S₂) : WX g c (.For (.Tuple [.Name x px, .Name y py] k pt) (.Call (.Name fn fp) [arg] [] cpos) body orelse pos) S Q := by
  refine WX_ForG hs fun H s R => ?_
  refine wpAny_Call_NameR (goK (hf H s R) (fun fv s₁ S₁ R₁ q_ => ?_))
  refine el_A q_ ?_; clear q_; intro e h₁
  obtain rfl := er_ref e
  have hp := starEach_plain (pos := cpos) (env := c.env) (show ([arg] : List Expr).all notStar = true by simp [ha])
  rw [starEach_notStar ha] at hp ⊢
  have h₂ : WEs g c [arg] S₁ fun vs S₂ => ∃ w, vs = [w] /\ ForGenPost g c MOK z xa gbody scope fd x y body orelse Q w S₂ := WEs_cons ha (WE.mono h₁ fun w S₂ q => WEs_nil ⟨w, rfl, q⟩)
  have := h₂ cpos H s₁ R₁
  rw [starEach_notStar ha] at this
  refine keeps_cw hk hp (evalArgs_plain (wpAny_mono this (fun vs s₂ ⟨S₂, R₂, w, hvs, hw, hbind, start, Inv, i0, turn, fin⟩ => ⟨R₂.in_K, ?_⟩) fun _ _ x => x.elim))
  refine el_EA (map1 hvs) ?_; intro u rfl_211 hu; subst rfl_211
  subst hw
  refine wpAny_mono (gen_make (MOK := MOK) Fn hgen hbind hloc hd R₂ hu) (fun v s₃ q_ => ?_) fun _ _ x => x.elim
  refine el_EEEEAAA q_ ?_; clear q_; intro a gi env H' hv eok p R₃
  subst hv
  refine el_EEEAAA p.gen ?_; intro ob nm qn a1 a2 a3 a4
  exact wpAny_pyIter_gen (g := gi) ⟨ob, nm, qn, R₃.hid _ _ a1, a2, a3, a4⟩ ⟨S₂, z.cps.size, enumStepS x y z, _, turnsGen g c H x y px py pt k a gi env MOK z xa gbody hM (start env eok) (by rw [hsc]; exact hx) (by rw [hsc]; exact hy) (by rw [hext]) (by rw [hext]), H', Inv, p, R₃, i0, fun _ _ _ => trivial, turn, fin⟩
end
end
section
open PySem PySem.W PySem.Calls PySem.Spec PyProof.Rows PySem.StrLaws
section
variable {g : Gl Int} {c : Ac} {S S' : St Int} {Q : Value -> St Int -> Prop}
theorem WCmp_notInStr {x y : Str} (h : Q (.bool (Builtin.Str.occurrences x y 0 x.length 1).isEmpty) S) : WCmp g c .NotIn (.str y 0) (.str x 0) S Q := by
  intro u v hu hv H s R
  o_shape
  refine el_E (er_str hu) ?_; intro t rfl_214; subst rfl_214
  refine el_E (er_str hv) ?_; intro t' rfl_213; subst rfl_213
  refine PyProof.Rows.notIn_str ⟨S, R.toks, ?_⟩
  rw [Bool.not_not]; exact h
noncomputable def strCut (x : Str) (a b : Nat) : Str := ⟨((x.cps.toList.drop a).take (b - a)).toArray⟩
theorem cut_made {x : Str} {t : Tok} {a b : Nat} (hab : a ≤ b) (hb : b ≤ x.length) (hz : x.length ≤ sizeLine) {l u : Option (Int × Tok)} (hl : l.map (·.1) = some (a : Int)) (hu : u.map (·.1) = some (b : Int) ∨ u.map (·.1) = none /\ b = x.length) {Q : Value -> Shared -> Prop} {s : Shared}
    (h : ∀ v tk, er v = .str (strCut x a b) 0 -> Q v { s with toks := tk }) : (sliceMade x t l u none).post Q s := by
  have e : (slicePicked x l u none).filterMap (x.cps[·]?) = (x.cps.toList.drop a).take (b - a) /\ (slicePicked x l u none).length = b - a := by
    unfold slicePicked
    have : Builtin.Str.strSliceIndices (l.map (·.1)) (u.map (·.1)) (((none : Option (Int × Tok)).map (·.1)).getD 1) x.length = Builtin.Str.strSliceIndices (some (a : Int)) (some (b : Int)) 1 x.length := by
      rw [hl]
      rcases hu with hu | ⟨hu, rfl⟩
      · rw [hu]; rfl
      rw [hu]; exact sliceIdx_none_hi _ _
    rw [this]
    exact ⟨sliced_plain x hab hb, by rw [strSliceIndices_plain hab hb, List.length_map, List.length_range]⟩
  unfold sliceMade
  split
  · rename_i q
    have q : (slicePicked x l u none).length = x.length := by simpa using q
    rw [e.2] at q
    have ha : a = 0 := by omega
    have hb' : b = x.length := by (subst_vars; rfl)
    refine h _ s.toks ?_
    show Value.str x 0 = _
    unfold strCut
    subst ha hb'
    have : ((x.cps.toList.drop 0).take (x.length - 0)).toArray = x.cps := by
      rw [List.drop_zero, Nat.sub_zero, List.take_of_length_le (by simp [Str.length])]
    rw [this]
  refine ⟨?_, h _ _ ?_⟩
  · show ((slicePicked x l u none).filterMap (x.cps[·]?)).toArray.size ≤ _
    rw [e.1]
    have : ((x.cps.toList.drop a).take (b - a)).length ≤ x.length := by
      rw [List.length_take, List.length_drop]
      have : x.cps.toList.length = x.length := by simp [Str.length]
      lia
    simpa using Nat.le_trans this hz
  show Value.str _ 0 = _
  unfold strCut
  rw [e.1]
theorem WE_SliceS {value : Expr} {lower upper : Option Expr} {p pos : Pos} (hlt : ∀ o r, letTemporaryGo value o r = pure ())
    (h : WE g c value S fun v S₁ => ∃ x, v = .str x 0 /\ WPart g c lower S₁ fun lo S₂ => WPart g c upper S₂ fun hi S₃ => ∃ a b : Nat, lo = some (a : Int) /\ (hi = some (b : Int) ∨ hi = none /\ b = x.length) /\ a ≤ b /\ b ≤ x.length /\ x.length ≤ sizeLine /\ Q (.str (strCut x a b) 0) S₃) :
    WE g c (.Subscript value (.Slice lower upper none p) pos) S Q := by
  intro H s R
  o_shape
  refine wpAny_Subscript_str_slice (wpAny_mono (h H s R) (fun o s₁ ⟨S₁, R₁, x, e, q⟩ => wpAny_mono (q H s₁ R₁) (fun vl s₂ ⟨S₂, R₂, l, e₁, q₂⟩ => goK (q₂ H s₂ R₂) (fun vu s₃ S₃ R₃ q_ => ?_)) fun _ _ x => x.elim) fun _ _ x => x) hlt
  refine el_EAEEAAAAA q_ ?_; clear q_; intro u e₂ a b hl hu hab hb hz q₃
  refine el_E (er_str e) ?_; intro t rfl_212; subst rfl_212
  refine ⟨x, t, l, u, rfl, e₁, e₂, cut_made hab hb hz hl hu fun v tk hv => ⟨S₃, R₃.grow (tk := tk) fun b o e => Heap.get?_push_of_some _ e, by show Q (er v) S₃; rw [hv]; exact q₃⟩⟩
end
end
section
open Sem (wp)
section
variable {g : Gl Int}
theorem W_entry {A : Around} (hAf : A.frames = some []) (hAh : A.handled = none) {n : Nat} (hd : A.depth + 4 * (n + 1) + 20 < recursionLimit /\ A.units + 20 * (n + 1) + 100 < cLine) (ok : g.Ok)
    {f : Addr} {body : List Stmt} {scope : Scope} {fd : FuncData} (Fn : FnIs g.K f body scope fd) (hsc : scopeOk scope = true) {us : List Value} {bs : List (Str × Value)} (hb : bindArgs fd ⟨us, []⟩ = pure bs)
    (hkind : ((bs.map fun p => (p.1, er p.2)).all fun y => scope.names.lookup y.1 == some .local || scope.names.lookup y.1 == some .cell) = true) {s : Shared} (hs : s.heap = g.h₀) (hos : s.os = g.os) (hbare : AllBare s.gens) {P : Value -> Prop}
    (h : ∀ c' : Ac, c'.env.scope = scope -> c'.ext = (fun _ => false) -> c'.Deep n -> WXsF g c' body ⟨bindM (bs.map fun p => (p.1, er p.2)) fun _ => none, fun _ => none⟩ fun fl _ => P (retV fl)) :
    wpAny (model g.prog g.w) A (call (.ref f) us) (fun v s' => P (er v) /\ (∀ b o, g.h₀.get? b = some o -> s'.heap.get? b = some o) /\ s'.os = g.os /\ AllBare s'.gens) (fun _ _ => False) s := by
  refine el_EEE Fn.at_ ?_; intro oc od osl ho
  have hK : g.K.In s.heap := by rw [hs]; exact ok.k
  obtain ⟨k1, k2, k3⟩ : scope.kind = .function /\ scope.isCoroutine = false /\ scope.isGenerator = false := by
    simp only [scopeOk, Bool.and_eq_true, beq_iff_eq, Bool.not_eq_true'] at hsc
    exact ⟨hsc.1.1.1, hsc.1.1.2, hsc.1.2⟩
  have hfs := Fn.scope
  have k5 : (scope.names.all fun y => y.2 != .free) = true := by
    simp only [scopeOk, Bool.and_eq_true] at hsc
    exact hsc.2
  refine wpAny_call (codeAny_mono (codeAny_call_cells (by have := hd.1; lia) (hK _ _ ho) rfl (by rw [hs]; exact ok.lim) (codeRec_of hK Fn.cd) Fn.body hb Fn.clo (fun y hy => ?_) (fun s₁ x => ?_) (by rw [hfs]; exact k2) (by rw [hfs]; exact k3) (by rw [hfs]; exact k1)) fun r s' q => q)
  · rw [hfs]
    have := List.all_eq_true.mp hkind (y.1, er y.2) (List.mem_map.mpr ⟨y, hy, rfl⟩)
    rcases Bool.or_eq_true_iff.mp this with q | q
    · exact .inl (by simpa using q)
    have q' : scope.names.lookup y.1 = some .cell := by simpa using q
    exact .inr ⟨q', cellsFrom_some _ _ _ (.inl q')⟩
  refine el_EEA x.done ?_; intro h₁ tk rfl_215 hk; subst rfl_215
  have hlt : ∀ b o, s.heap.get? b = some o -> b < s.heap.objs.size := fun b o e => Heap.lt_size e
  have cellLt : ∀ y a, (callEnvC fd s.heap.objs.size f).cells.lookup y = some a -> s.heap.objs.size < a := fun y a e => x.above y a (mem_of_lookup e)
  subst hfs
  have R : Rel g ⟨A.deeper (callEnvC fd s.heap.objs.size f), callEnvC fd s.heap.objs.size f, fun _ => false⟩ ⟨fun _ => none, []⟩ ⟨bindM (bs.map fun p => (p.1, er p.2)) fun _ => none, fun _ => none⟩ { s with heap := h₁, toks := tk } := by
    refine { ok := ok, ac := ?_, above := ?_, os := hos, bare := hbare, gen := (fun p hp => nomatch hp), keep := (fun b o e => hk b o (by rw [hs]; exact e)), hid := (fun b o e => nomatch e), loc := ?_, cel := ?_, inj := ?_, fre := ?_, sto := (fun a o e => nomatch e), role := ?_ }
    · refine { kind := k1, gl := Fn.gl, bl := Fn.bl, hd := hAh, deep := ?_, cells := fun y hy => ?_, frees := fun y hy => absurd hy (no_free k5 y) }
      · unfold Ac.Deep
        simp only [Around.deeper]
        exact om02 ‹_›
      exact Option.isSome_iff_exists.mp (cellsFrom_some _ _ _ (.inl hy))
    · rw [← hs]; exact Nat.le_refl _
    · exact ⟨_, x.toInCall.ns, fun y v e hy => (bindM_ok (kindOf := (callEnvC fd s.heap.objs.size f).kindOf) bs _ (fun _ => none) (fun _ => none) (fun _ _ e => by exact Mine.ns e) y v e).1 hy⟩
    · intro y a ha hy
      refine ⟨_, x.cell y a ha, fun v e => ?_⟩
      refine el_EA ((bindM_ok (kindOf := (callEnvC fd s.heap.objs.size f).kindOf) bs _ (fun _ => none) (fun _ => none) (fun _ _ e => by cases e) y v e).2 hy.1) ?_; intro u e1 e2
      rw [e1]; exact congrArg some e2
    · intro y z a h1 h2 _ _
      exact name_of_addr x.apart (mem_of_lookup h1) (mem_of_lookup h2)
    · intro y a h1 h2
      exact Mine.ft h2
    refine ⟨fun b => if b = s.heap.objs.size then 1 else if s.heap.objs.size ≤ b then 2 else 0, fun b o e => ?_, if_pos rfl, fun y a h1 h2 => ?_, fun b o e => (nomatch e), fun b o e => (nomatch e)⟩
    · have := hlt b o (by rw [hs]; exact e)
      dsimp only
      rw [if_neg (Nat.ne_of_lt this), if_neg (Nat.not_le.mpr this)]
    have := cellLt y a h1
    dsimp only
    rw [if_neg (Nat.ne_of_gt this), if_pos (Nat.le_of_lt this)]
  have Fo : FrOk g ⟨A.deeper (callEnvC fd s.heap.objs.size f), callEnvC fd s.heap.objs.size f, fun _ => false⟩ [] ⟨fun _ => none, []⟩ := by
    refine ⟨⟨[], ?_, rfl, (fun env he => nomatch he)⟩, rfl, (fun L hL => nomatch hL)⟩
    show A.frames.map _ = _
    rw [hAf]; rfl
  refine goF (h ⟨A.deeper (callEnvC fd s.heap.objs.size f), callEnvC fd s.heap.objs.size f, fun _ => false⟩ rfl rfl ?_ _ _ _ Fo R) (fun fl s' H' u S' R' q => ?_)
  · unfold Ac.Deep
    simp only [Around.deeper]
    exact om01 ‹_›
  cases fl <;> exact ⟨q, R'.keep, R'.os, R'.bare⟩
end
end
section
section
variable {g : Gl Int} {c : Ac} {S S' : St Int}
theorem WXs_consL {st : Stmt} {ss : List Stmt} {Q : Flow -> St Int -> Prop} (h : let Q' : Flow -> St Int -> Prop := SeqQ g c ss Q; WX g c st S Q') : WXs g c (st :: ss) S Q := WXs_cons h
theorem WXsF_consL {st : Stmt} {ss : List Stmt} {Q : Flow -> St Int -> Prop} (h : let Q' : Flow -> St Int -> Prop := SeqQF g c ss Q; WXF g c st S Q') : WXsF g c (st :: ss) S Q := WXsF_cons h
end
theorem if_yes {c : Prop} [Decidable c] {P R : Prop} (h : c) (p : P) : if c then P else R := by rw [if_pos h]; exact p
theorem if_no {c : Prop} [Decidable c] {P R : Prop} (h : ¬ c) (p : R) : if c then P else R := by rw [if_neg h]; exact p
end
section
open PySem PySem.W PyProof.Rows PySem.W.X
noncomputable def pw : Program := PySem.Challenge.rw_oy0345_02.row.toRowW.prog
noncomputable def view : Program := { pw with main := { pw.main with body := pw.main.body.take 1 ++ (pw.main.body.drop 2).take 5 ++ (pw.main.body.drop 8).take 3 ++ (pw.main.body.drop 12).take 22 ++ pw.main.body.drop 35 } }
def loose : List Str := [Str.ofString "_NodeInfo", Str.ofString "_filemode_table"]
set_option hygiene false in
local macro_rules | `(tactic| o_law) => `(tactic| refine holds_law (by decide +kernel) fun said => ?_)
noncomputable def Xt0 (s : Shared) : Bool := xlAt Mine.view [] s && recOk (RowW.records PySem.Challenge.rw_oy0345_02.row.toRowW) s
theorem Xt0l (s : Shared) (e : Xt0 s = true) : XL Mine.view [] (s.heap.nsMap mainGlobals) s.heap := xl_of s (Bool.and_eq_true_iff.mp e).1
theorem Xt0r (s : Shared) (e : Xt0 s = true) : RecFacts (RowW.records PySem.Challenge.rw_oy0345_02.row.toRowW) s.heap := recFacts_of (Bool.and_eq_true_iff.mp e).2
set_option hygiene false in
local macro_rules | `(tactic| o_head $H) => `(tactic| (refine holds_open (q := Mine.view) (loose := Mine.loose) (Xt := Xt0) (XP := XL Mine.view []) (Yf := Hook.obs $H) (Ya := Hook.val $H) (YP := Hook.says $H) (N := 3848) ?hl (Hook.of $H) (Hook.keeps $H) Xt0l XL.keeps (by rfl) (by rfl) (by rfl) Xt0r (by rfl) ‹_› (by decide +kernel) ⟨rfl, rfl, rfl, rfl, rfl, by decide +kernel⟩ ?hw ?hc; (case hl => intro w; kernel_rfl)))
open_top hd for PySem.Challenge.rw_oy0345_02
end
section
section
variable {g : Gl Int} {c : Ac} {S S' : St Int} {Q : Value -> St Int -> Prop} {a b : Addr} {xs ys : List Value} {P : Params}
noncomputable def fdOf (P : Params) (a : Addr) : FuncData := match (Mine.hd.heap_1 P).lookup a with | some ⟨_, _, .func fd, _⟩ => fd | _ => default
noncomputable def bodyOf (P : Params) (a : Addr) : List Stmt := match (fdOf P a).body with | .stmts b => b | _ => []
theorem fnIs {a : Addr} (h : ∃ oc od osl, (Mine.hd.heap_1 P).lookup a = some ⟨oc, od, .func (fdOf P a), osl⟩) (h2 : codeIn (Mine.hd.heap_1 P) (fdOf P a).code (fdOf P a).qualname = true) (h3 : (fdOf P a).body = .stmts (bodyOf P a))
    (h4 : (fdOf P a).globals = mainGlobals) (h5 : (fdOf P a).closure = []) (h6 : (fdOf P a).builtins = builtinsNs) (hK : g.K = hd.heap_1 P) : FnIs g.K a (bodyOf P a) (fdOf P a).scope (fdOf P a) :=
  ⟨by rw [hK]; exact h, by rw [hK]; exact h2, h3, rfl, h4, h5, h6⟩
theorem gl_S_IFMT : nsIn (hd.heap_1 P) mainGlobals (Str.ofString "S_IFMT") = some (some (.ref 169)) := by kernel_rfl
theorem gl_filemode_table : nsIn (hd.heap_1 P) mainGlobals (Str.ofString "_filemode_table") = some (some (.ref 202)) := by kernel_rfl
theorem gl_TopologicalSorter : nsIn (hd.heap_1 P) mainGlobals (Str.ofString "TopologicalSorter") = some (some (.ref 137)) := by kernel_rfl
theorem gl_CycleError : nsIn (hd.heap_1 P) mainGlobals (Str.ofString "CycleError") = some (some (.ref 55)) := by kernel_rfl
theorem gl_NodeInfo : nsIn (hd.heap_1 P) mainGlobals (Str.ofString "_NodeInfo") = some (some (.ref 40)) := by kernel_rfl
theorem gl_check_parenthesis : nsIn (hd.heap_1 P) mainGlobals (Str.ofString "_check_parenthesis") = some (some (.ref 162)) := by kernel_rfl
theorem gl_strip_quoted_realnames : nsIn (hd.heap_1 P) mainGlobals (Str.ofString "_strip_quoted_realnames") = some (some (.ref 155)) := by kernel_rfl
theorem gl_iter_escaped_chars : nsIn (hd.heap_1 P) mainGlobals (Str.ofString "_iter_escaped_chars") = some (some (.ref 148)) := by kernel_rfl
theorem gl_law_row : nsIn (hd.heap_1 P) mainGlobals (Str.ofString "_law_row") = some (some (.ref 216)) := by kernel_rfl
theorem gl_filemode : nsIn (hd.heap_1 P) mainGlobals (Str.ofString "filemode") = some (some (.ref 209)) := by kernel_rfl
theorem gl_law_ranks : nsIn (hd.heap_1 P) mainGlobals (Str.ofString "_law_ranks") = some (some (.ref 221)) := by kernel_rfl
theorem gl_law_steps : nsIn (hd.heap_1 P) mainGlobals (Str.ofString "_law_steps") = some (some (.ref 226)) := by kernel_rfl
theorem gl_law_rings : nsIn (hd.heap_1 P) mainGlobals (Str.ofString "_law_rings") = some (some (.ref 231)) := by kernel_rfl
theorem gl_law_led : nsIn (hd.heap_1 P) mainGlobals (Str.ofString "_law_led") = some (some (.ref 238)) := by kernel_rfl
theorem gl_law_run : nsIn (hd.heap_1 P) mainGlobals (Str.ofString "_law_run") = some (some (.ref 245)) := by kernel_rfl
theorem gl_law_barred : nsIn (hd.heap_1 P) mainGlobals (Str.ofString "_law_barred") = some (some (.ref 252)) := by kernel_rfl
theorem gl_law_mate : nsIn (hd.heap_1 P) mainGlobals (Str.ofString "_law_mate") = some (some (.ref 259)) := by kernel_rfl
theorem gl_law_read : nsIn (hd.heap_1 P) mainGlobals (Str.ofString "_law_read") = some (some (.ref 264)) := by kernel_rfl
theorem gl__NODE_OUT : nsIn (hd.heap_1 P) mainGlobals (Str.ofString "_NODE_OUT") = some (some (.int (-1) 197)) := by kernel_rfl
theorem gl__NODE_DONE : nsIn (hd.heap_1 P) mainGlobals (Str.ofString "_NODE_DONE") = some (some (.int (-2) 200)) := by kernel_rfl
theorem gl_S_ISVTX : nsIn (hd.heap_1 P) mainGlobals (Str.ofString "S_ISVTX") = some (some (.int 512 437)) := by kernel_rfl
theorem fn_barred (hK : g.K = hd.heap_1 P) : FnIs g.K 252 (bodyOf P 252) (fdOf P 252).scope (fdOf P 252) :=
  fnIs ⟨_, _, _, rfl⟩ (by kernel_rfl) rfl rfl rfl rfl hK
theorem so_barred : scopeOk (fdOf P 252).scope = true := by kernel_rfl
end
end
section
section
structure SG (N : Type) where
  ks : List N
  np : N -> Int
  su : N -> List N
  ready : Option (List N)
  po : Int
  nf : Int
set_option genInjectivity true in
structure SA (N : Type) where
  d : Addr
  D : Addr
  info : N -> Addr
  dx : N -> Addr
  sl : N -> Addr
  R : Addr
noncomputable def n_n2i : Str := Str.ofString "_node2info"
noncomputable def n_rdy : Str := Str.ofString "_ready_nodes"
noncomputable def n_po : Str := Str.ofString "_npassedout"
noncomputable def n_nf : Str := Str.ofString "_nfinished"
theorem names_ne : n_n2i ≠ n_rdy /\ n_n2i ≠ n_po /\ n_n2i ≠ n_nf /\ n_rdy ≠ n_po /\ n_rdy ≠ n_nf /\ n_po ≠ n_nf := by unfold n_n2i n_rdy n_po n_nf; decide +kernel
noncomputable def rdyV (A : SA Int) (G : SG Int) : Value := match G.ready with | none => .none | some _ => .ref A.R
structure NsIs (A : SA Int) (G : SG Int) (m : Str -> Option Value) : Prop where
  n2i : m n_n2i = some (.ref A.D)
  rdy : m n_rdy = some (rdyV A G)
  po : m n_po = some (.int G.po 0)
  nf : m n_nf = some (.int G.nf 0)
  out : ∀ x, x ≠ n_n2i -> x ≠ n_rdy -> x ≠ n_po -> x ≠ n_nf -> m x = none
theorem NsIs.four {A : SA Int} {G : SG Int} {v : Value} {p q : Int} (hv : rdyV A G = v) (hp : G.po = p) (hq : G.nf = q) : NsIs A G (setv (setv (setv (setv (fun _ => none) n_n2i (.ref A.D)) n_rdy v) n_po (.int p 0)) n_nf (.int q 0)) := by
  refine el_AAAAA names_ne ?_; (try clear names_ne); intro h1 h2 h3 h4 h5 h6
  refine ⟨?_, ?_, ?_, ?_, fun x x1 x2 x3 x4 => ?_⟩
  · exact setv_other h3 (setv_other h2 (setv_other h1 setv_self))
  · rw [hv]; exact setv_other h5 (setv_other h4 setv_self)
  · rw [hp]; exact setv_other h6 setv_self
  · rw [hq]; exact setv_self
  exact (if_neg x4).trans ((if_neg x3).trans ((if_neg x2).trans (if_neg x1)))
theorem NsIs.setRdy {A A' : SA Int} {G G' : SG Int} {m : Str -> Option Value} (h : NsIs A G m) (e1 : A'.D = A.D) (e2 : G'.po = G.po) (e3 : G'.nf = G.nf) : NsIs A' G' (setv m n_rdy (rdyV A' G')) := by
  refine el_AAAAA names_ne ?_; (try clear names_ne); intro h1 h2 h3 h4 h5 h6
  refine ⟨by rw [e1]; exact setv_other h1 h.n2i, setv_self, by rw [e2]; exact setv_other (Ne.symm h4) h.po, by rw [e3]; exact setv_other (Ne.symm h5) h.nf, fun x x1 x2 x3 x4 => (if_neg x2).trans (h.out x x1 x2 x3 x4)⟩
theorem NsIs.setPo {A : SA Int} {G G' : SG Int} {m : Str -> Option Value} (h : NsIs A G m) (e1 : rdyV A G' = rdyV A G) (e3 : G'.nf = G.nf) : NsIs A G' (setv m n_po (.int G'.po 0)) := by
  refine el_AAAAA names_ne ?_; (try clear names_ne); intro h1 h2 h3 h4 h5 h6
  exact ⟨setv_other h2 h.n2i, by rw [e1]; exact setv_other h4 h.rdy, setv_self, by rw [e3]; exact setv_other (Ne.symm h6) h.nf, fun x x1 x2 x3 x4 => (if_neg x3).trans (h.out x x1 x2 x3 x4)⟩
theorem NsIs.setNf {A : SA Int} {G G' : SG Int} {m : Str -> Option Value} (h : NsIs A G m) (e1 : rdyV A G' = rdyV A G) (e3 : G'.po = G.po) : NsIs A G' (setv m n_nf (.int G'.nf 0)) := by
  refine el_AAAAA names_ne ?_; (try clear names_ne); intro h1 h2 h3 h4 h5 h6
  exact ⟨setv_other h3 h.n2i, by rw [e1]; exact setv_other h5 h.rdy, by rw [e3]; exact setv_other h6 h.po, setv_self, fun x x1 x2 x3 x4 => (if_neg x4).trans (h.out x x1 x2 x3 x4)⟩
noncomputable def slotsOf (kv : Int -> Value) (A : SA Int) (G : SG Int) (k : Int) : List (Option Value) := [some (kv k), some (.int (G.np k) 0), some (.ref (A.sl k))]
structure Srt (C NI : Addr) (kv : Int -> Value) (A : SA Int) (G : SG Int) (a : Addr) (σ : Addr -> Option (AO Int)) : Prop where
  inst : σ a = some (.inst C A.d)
  ns : ∃ m, σ A.d = some (.ns m 4) /\ NsIs A G m
  dict : ∃ ep, σ A.D = some (.dict (G.ks.map fun k => (k, .ref (A.info k))) ep)
  lo : (A.D == sysModules) = false
  info : ∀ k ∈ G.ks, σ (A.info k) = some (.slots NI (A.dx k) (slotsOf kv A G k))
  dx : ∀ k ∈ G.ks, σ (A.dx k) = some (.ns (fun _ => none) 0)
  sl : ∀ k ∈ G.ks, σ (A.sl k) = some (.list ((G.su k).map kv))
  nodup : G.ks.Nodup
  slinj : ∀ j ∈ G.ks, ∀ k ∈ G.ks, A.sl j = A.sl k -> j = k
  rdy : ∀ l, G.ready = some l -> σ A.R = some (.list (l.map kv)) /\ ∀ k ∈ G.ks, A.sl k ≠ A.R
  clo : ∀ k ∈ G.ks, ∀ w ∈ G.su k, w ∈ G.ks
  rin : ∀ l, G.ready = some l -> ∀ w ∈ l, w ∈ G.ks
noncomputable def Own (A : SA Int) (G : SG Int) (a b : Addr) : Prop := b = a ∨ b = A.d ∨ b = A.D ∨ (∃ k ∈ G.ks, b = A.info k ∨ b = A.dx k ∨ b = A.sl k) ∨ (G.ready.isSome = true /\ b = A.R)
structure SrtF (C NI : Addr) (kv : Int -> Value) (A : SA Int) (G : SG Int) (a : Addr) (fr σ : Addr -> Option (AO Int)) : Prop where
  s : Srt C NI kv A G a σ
  keep : ∀ b o, fr b = some o -> σ b = some o
  apart : ∀ b o, fr b = some o -> ¬ Own A G a b
variable {C NI : Addr} {kv : Int -> Value} {A A' : SA Int} {G G' : SG Int} {a b : Addr} {fr fr' σ σ' : Addr -> Option (AO Int)} {k j : Int}
theorem Srt.own (s : Srt C NI kv A G a σ) (h : Own A G a b) : ∃ o, σ b = some o := by
  rcases h with rfl | rfl | rfl | ⟨k, hk, rfl | rfl | rfl⟩ | ⟨hr, rfl⟩
  · exact ⟨_, s.inst⟩
  · exact let ⟨m, h, _⟩ := s.ns; ⟨_, h⟩
  · exact let ⟨m, h⟩ := s.dict; ⟨_, h⟩
  · exact ⟨_, s.info k hk⟩
  · exact ⟨_, s.dx k hk⟩
  · exact ⟨_, s.sl k hk⟩
  refine el_E (Option.isSome_iff_exists.mp hr) ?_; intro l hl
  exact ⟨_, (s.rdy l hl).1⟩
theorem Srt.le (s : Srt C NI kv A G a σ) (h : ∀ b o, σ b = some o -> σ' b = some o) : Srt C NI kv A G a σ' :=
  ⟨h _ _ s.inst, let ⟨m, h1, h2⟩ := s.ns; ⟨m, h _ _ h1, h2⟩, let ⟨ep, h1⟩ := s.dict; ⟨ep, h _ _ h1⟩, s.lo, fun k hk => h _ _ (s.info k hk), fun k hk => h _ _ (s.dx k hk), fun k hk => h _ _ (s.sl k hk), s.nodup, s.slinj,
    fun l hl => ⟨h _ _ (s.rdy l hl).1, (s.rdy l hl).2⟩, s.clo, s.rin⟩
theorem SrtF.le (s : SrtF C NI kv A G a fr σ) (h : ∀ b o, σ b = some o -> σ' b = some o) : SrtF C NI kv A G a fr σ' := ⟨s.s.le h, fun b o e => h b o (s.keep b o e), s.apart⟩
theorem SrtF.new {o : AO Int} (s : SrtF C NI kv A G a fr σ) (h : σ b = none) : SrtF C NI kv A G a fr (upd σ b o) := s.le (upd_le h)
theorem SrtF.frame (s : SrtF C NI kv A G a fr σ) {o : AO Int} (h : σ b = none) : SrtF C NI kv A G a (upd fr b o) (upd σ b o) where
  s := s.s.le (upd_le h)
  keep x o' e := by
    unfold upd at e ⊢
    split
    · rename_i q; rwa [if_pos q] at e
    rename_i q; rw [if_neg q] at e; exact s.keep x o' e
  apart x o' e ho := by
    unfold upd at e
    split at e
    · rename_i q
      subst q
      refine el_E (s.s.own ho) ?_; intro o'' h'
      rw [h] at h'; exact Mine.ns h'
    exact s.apart x o' e ho
theorem SrtF.put (s : SrtF C NI kv A G a fr σ) {o o' : AO Int} (h : fr b = some o) : SrtF C NI kv A G a (upd fr b o') (upd σ b o') where
  s := by
    have ap := s.apart b o h
    have keep : ∀ x, Own A G a x -> upd σ b o' x = σ x := fun x hx => if_neg (by rintro rfl; exact ap hx)
    refine el_EA s.s.ns ?_; intro m n1 n2
    refine el_E s.s.dict ?_; intro ep d1
    exact ⟨(keep _ (.inl rfl)).trans s.s.inst, ⟨m, (keep _ (.inr (.inl rfl))).trans n1, n2⟩, ⟨ep, (keep _ (.inr (.inr (.inl rfl)))).trans d1⟩, s.s.lo,
      fun k hk => (keep _ (.inr (.inr (.inr (.inl ⟨k, hk, .inl rfl⟩))))).trans (s.s.info k hk), fun k hk => (keep _ (.inr (.inr (.inr (.inl ⟨k, hk, .inr (.inl rfl)⟩))))).trans (s.s.dx k hk),
      fun k hk => (keep _ (.inr (.inr (.inr (.inl ⟨k, hk, .inr (.inr rfl)⟩))))).trans (s.s.sl k hk), s.s.nodup, s.s.slinj,
      fun l hl => ⟨(keep _ (.inr (.inr (.inr (.inr ⟨by rw [hl]; rfl, rfl⟩))))).trans (s.s.rdy l hl).1, (s.s.rdy l hl).2⟩, s.s.clo, s.s.rin⟩
  keep x o'' e := by
    unfold upd at e ⊢
    split
    · rename_i q; rwa [if_pos q] at e
    rename_i q; rw [if_neg q] at e; exact s.keep x o'' e
  apart x o'' e ho := by
    unfold upd at e
    split at e
    · rename_i q
      subst q
      exact s.apart _ o h ho
    exact s.apart x o'' e ho
theorem ne_of_kind {o o' : AO Int} (h : σ a = some o) (h' : σ b = some o') (hn : o ≠ o') : a ≠ b := by
  rintro rfl
  rw [h] at h'
  exact hn (Option.some.inj h')
theorem Srt.infoInj (s : Srt C NI kv A G a σ) (hkv : ∀ j k, kv j = kv k -> j = k) (hj : j ∈ G.ks) (hk : k ∈ G.ks) (h : A.info j = A.info k) : j = k := by
  have h1 := s.info j hj
  have h2 := s.info k hk
  rw [h, h2] at h1
  simp only [Option.some.injEq, AO.slots.injEq, slotsOf, List.cons.injEq] at h1
  exact (hkv k j h1.2.2.1).symm
noncomputable def SG.setNp (G : SG Int) (k : Int) (v : Int) : SG Int := { G with np := fun j => if j = k then v else G.np j }
theorem SrtF.setNp (s : SrtF C NI kv A G a fr σ) (hkv : ∀ j k, kv j = kv k -> j = k) (hk : k ∈ G.ks) (v : Int) :
    SrtF C NI kv A (G.setNp k v) a fr (upd σ (A.info k) (.slots NI (A.dx k) [some (kv k), some (.int v 0), some (.ref (A.sl k))])) := by
  have hi := s.s.info k hk
  refine el_EA s.s.ns ?_; intro m n1 n2
  refine el_E s.s.dict ?_; intro ep d1
  have kp : ∀ {x : Addr} {o : AO Int}, σ x = some o -> (∀ C d vs, o ≠ .slots C d vs) -> upd σ (A.info k) (.slots NI (A.dx k) [some (kv k), some (.int v 0), some (.ref (A.sl k))]) x = some o := fun {x o} h hn => (if_neg (ne_of_kind h hi (hn _ _ _))).trans h
  refine ⟨⟨kp s.s.inst (fun _ _ _ e => by exact (nomatch e)), ⟨m, kp n1 (fun _ _ _ e => by exact (nomatch e)), ⟨n2.n2i, n2.rdy, n2.po, n2.nf, n2.out⟩⟩, ⟨ep, kp d1 (fun _ _ _ e => by exact (nomatch e))⟩, s.s.lo, fun j hj => ?_, fun j hj => kp (s.s.dx j hj) (fun _ _ _ e => by exact (nomatch e)),
    fun j hj => kp (s.s.sl j hj) (fun _ _ _ e => by exact (nomatch e)), s.s.nodup, s.s.slinj, fun l hl => ⟨kp (s.s.rdy l hl).1 (fun _ _ _ e => by exact (nomatch e)), (s.s.rdy l hl).2⟩, s.s.clo, s.s.rin⟩, fun x o e => ?_, s.apart⟩
  · by_cases q : j = k
    · subst q
      rw [upd_self]
      unfold slotsOf SG.setNp
      dsimp only
      rw [if_pos rfl]
    refine (if_neg fun e => q (s.s.infoInj hkv hj hk e)).trans ?_
    rw [s.s.info j hj]
    unfold slotsOf SG.setNp
    dsimp only
    rw [if_neg q]
  refine (if_neg ?_).trans (s.keep x o e)
  rintro rfl
  exact s.apart _ o e (.inr (.inr (.inr (.inl ⟨k, hk, .inl rfl⟩))))
noncomputable def SG.pushSu (G : SG Int) (k w : Int) : SG Int := { G with su := fun j => if j = k then G.su k ++ [w] else G.su j }
theorem SrtF.pushSu (s : SrtF C NI kv A G a fr σ) (hk : k ∈ G.ks) {w : Int} (hw : w ∈ G.ks) :
    SrtF C NI kv A (G.pushSu k w) a fr (upd σ (A.sl k) (.list ((G.su k).map kv ++ [kv w]))) := by
  have hi := s.s.sl k hk
  refine el_EA s.s.ns ?_; intro m n1 n2
  refine el_E s.s.dict ?_; intro ep d1
  have kp : ∀ {x : Addr} {o : AO Int}, σ x = some o -> (∀ xs, o ≠ .list xs) -> upd σ (A.sl k) (.list ((G.su k).map kv ++ [kv w])) x = some o := fun {x o} h hn => (if_neg (ne_of_kind h hi (hn _))).trans h
  refine ⟨⟨kp s.s.inst (fun _ e => by exact (nomatch e)), ⟨m, kp n1 (fun _ e => by exact (nomatch e)), ⟨n2.n2i, n2.rdy, n2.po, n2.nf, n2.out⟩⟩, ⟨ep, kp d1 (fun _ e => by exact (nomatch e))⟩, s.s.lo, fun j hj => kp (s.s.info j hj) (fun _ e => by exact (nomatch e)), fun j hj => kp (s.s.dx j hj) (fun _ e => by exact (nomatch e)),
    fun j hj => ?_, s.s.nodup, s.s.slinj, fun l hl => ⟨(if_neg (Ne.symm ((s.s.rdy l hl).2 k hk))).trans (s.s.rdy l hl).1, (s.s.rdy l hl).2⟩, fun j hj x hx => ?_, s.s.rin⟩, fun x o e => ?_, s.apart⟩
  · by_cases q : j = k
    · subst q
      rw [upd_self]
      unfold SG.pushSu
      dsimp only
      rw [if_pos rfl, List.map_append]; rfl
    refine (if_neg fun e => q (s.s.slinj j hj k hk e)).trans ?_
    rw [s.s.sl j hj]
    unfold SG.pushSu
    dsimp only
    rw [if_neg q]
  · unfold SG.pushSu at hx
    dsimp only at hx
    split at hx
    · rcases List.mem_append.mp hx with hx | hx
      · exact s.s.clo k hk x hx
      rw [List.mem_singleton.mp hx]; exact hw
    exact s.s.clo j hj x hx
  refine (if_neg ?_).trans (s.keep x o e)
  rintro rfl
  exact s.apart _ o e (.inr (.inr (.inr (.inl ⟨k, hk, .inr (.inr rfl)⟩))))
noncomputable def SG.addNode (G : SG Int) (k : Int) : SG Int := if k ∈ G.ks then G else { G with ks := G.ks ++ [k], np := fun j => if j = k then 0 else G.np j, su := fun j => if j = k then [] else G.su j }
theorem stored_new {kvs : List (Int × Value)} {v : Value} (h : k ∉ kvs.map (·.1)) : stored kvs k v = kvs ++ [(k, v)] := by
  unfold stored
  rw [if_neg]
  intro q
  refine el_EA (List.any_eq_true.mp q) ?_; intro p hp e
  exact h (List.mem_map.mpr ⟨p, hp, of_decide_eq_true e⟩)
theorem valueAt_keys {f : Int -> Value} (k : Int) : ∀ (ks : List Int), valueAt (ks.map fun k => (k, f k)) k = if k ∈ ks then some (f k) else none
  | [] => rfl
  | j :: ks => by
    have ih := valueAt_keys (f := f) k ks
    unfold valueAt at ih ⊢
    rw [List.map_cons, List.find?_cons]
    by_cases q : j = k
    · subst q; simp
    have : decide ((j, f j).1 = k) = false := by simpa using q
    rw [this]
    dsimp only
    rw [ih]
    have q' : ¬ k = j := fun e => q e.symm
    simp [q']
noncomputable def SA.addNode (A : SA Int) (k : Int) (x dx y : Addr) : SA Int := { A with info := fun j => if j = k then x else A.info j, dx := fun j => if j = k then dx else A.dx j, sl := fun j => if j = k then y else A.sl j }
theorem SrtF.addNode (s : SrtF C NI kv A G a fr σ) (hk : k ∉ G.ks) {x dx y : Addr} {ep : Nat} (hσ : ∀ b o, σ b = some o -> b ≠ A.D -> σ' b = some o) (hD : σ' A.D = some (.dict ((G.ks.map fun j => (j, .ref (A.info j))) ++ [(k, .ref x)]) ep))
    (hx : σ' x = some (.slots NI dx [some (kv k), some (.int 0 0), some (.ref y)])) (hdx : σ' dx = some (.ns (fun _ => none) 0)) (hy : σ' y = some (.list [])) (nx : σ x = none) (ndx : σ dx = none) (ny : σ y = none) :
    SrtF C NI kv (A.addNode k x dx y) (G.addNode k) a fr σ' := by
  refine el_EA s.s.ns ?_; intro m n1 n2
  refine el_E s.s.dict ?_; intro ep₀ d1
  have kp : ∀ {b : Addr} {o : AO Int}, σ b = some o -> (∀ kvs ep, o ≠ .dict kvs ep) -> σ' b = some o := fun {b o} h hn => hσ b o h (ne_of_kind h d1 (hn _ _))
  have ne : ∀ {j}, j ∈ G.ks -> j ≠ k := fun hj e => hk (e ▸ hj)
  have eG : G.addNode k = { G with ks := G.ks ++ [k], np := fun j => if j = k then 0 else G.np j, su := fun j => if j = k then [] else G.su j } := if_neg hk
  rw [eG]
  have ks2 : ∀ {j}, j ∈ G.ks ++ [k] -> j ∈ G.ks ∨ j = k := fun hj => (List.mem_append.mp hj).imp id List.mem_singleton.mp
  refine ⟨⟨kp s.s.inst (fun _ _ e => by exact (nomatch e)), ⟨m, kp n1 (fun _ _ e => by exact (nomatch e)), ⟨n2.n2i, n2.rdy, n2.po, n2.nf, n2.out⟩⟩, ⟨ep, ?_⟩, s.s.lo, fun j hj => ?_, fun j hj => ?_, fun j hj => ?_, ?_, fun i hi j hj e => ?_, fun l hl => ⟨kp (s.s.rdy l hl).1 (fun _ _ e => by exact (nomatch e)), fun j hj => ?_⟩, fun j hj w hw => ?_, fun l hl w hw => List.mem_append_left _ (s.s.rin l hl w hw)⟩, fun b o e => hσ b o (s.keep b o e) ?_, fun b o e ho => ?_⟩
  · refine hD.trans ?_
    have e : (G.ks.map fun j => (j, (.ref (A.info j) : Value))) ++ [(k, .ref x)] = (G.ks ++ [k]).map fun j => (j, .ref ((A.addNode k x dx y).info j)) := by
      rw [List.map_append]
      congr 1
      · refine List.map_congr_left fun j hj => ?_
        unfold SA.addNode; dsimp only; rw [if_neg (ne hj)]
      unfold SA.addNode; simp
    rw [e]
  · rcases ks2 hj with hj | rfl
    · unfold SA.addNode slotsOf; dsimp only; rw [if_neg (ne hj), if_neg (ne hj), if_neg (ne hj), if_neg (ne hj)]
      exact kp (s.s.info j hj) (fun _ _ e => by exact (nomatch e))
    unfold SA.addNode slotsOf; dsimp only; rw [if_pos rfl, if_pos rfl, if_pos rfl, if_pos rfl]; exact hx
  · rcases ks2 hj with hj | rfl
    · unfold SA.addNode; dsimp only; rw [if_neg (ne hj)]
      exact kp (s.s.dx j hj) (fun _ _ e => by exact (nomatch e))
    unfold SA.addNode; dsimp only; rw [if_pos rfl]; exact hdx
  · rcases ks2 hj with hj | rfl
    · unfold SA.addNode; dsimp only; rw [if_neg (ne hj), if_neg (ne hj)]
      exact kp (s.s.sl j hj) (fun _ _ e => by exact (nomatch e))
    unfold SA.addNode; dsimp only; rw [if_pos rfl, if_pos rfl]; exact hy
  · rw [List.nodup_append]
    refine ⟨s.s.nodup, by simp, fun u hu v hv e => ?_⟩
    rw [List.mem_singleton.mp hv] at e
    exact hk (e ▸ hu)
  · unfold SA.addNode at e
    dsimp only at e
    rcases ks2 hi with hi' | hi'
    · rw [if_neg (ne hi')] at e
      rcases ks2 hj with hj' | hj'
      · rw [if_neg (ne hj')] at e; exact s.s.slinj i hi' j hj' e
      rw [if_pos hj'] at e
      have := s.s.sl i hi'
      rw [e, ny] at this; exact Mine.ns this
    rw [if_pos hi'] at e
    rcases ks2 hj with hj' | hj'
    · rw [if_neg (ne hj')] at e
      have := s.s.sl j hj'
      rw [← e, ny] at this; exact Mine.ns this
    rw [hi', hj']
  · unfold SA.addNode
    dsimp only
    rcases ks2 hj with hj | rfl
    · rw [if_neg (ne hj)]; exact (s.s.rdy l hl).2 j hj
    rw [if_pos rfl]
    rintro rfl
    have := (s.s.rdy l hl).1
    rw [ny] at this; exact Mine.ns this
  · dsimp only at hw
    rcases ks2 hj with hj | rfl
    · rw [if_neg (ne hj)] at hw; exact List.mem_append_left _ (s.s.clo j hj w hw)
    rw [if_pos rfl] at hw; cases hw
  · rintro rfl; exact s.apart _ o e (.inr (.inr (.inl rfl)))
  rcases ho with h | h | h | ⟨j, hj, h⟩ | h
  · exact s.apart b o e (.inl h)
  · exact s.apart b o e (.inr (.inl h))
  · exact s.apart b o e (.inr (.inr (.inl h)))
  · unfold SA.addNode at h
    dsimp only at h
    rcases ks2 hj with hj | rfl
    · rw [if_neg (ne hj), if_neg (ne hj), if_neg (ne hj)] at h
      exact s.apart b o e (.inr (.inr (.inr (.inl ⟨j, hj, h⟩))))
    rw [if_pos rfl, if_pos rfl, if_pos rfl] at h
    have := s.keep b o e
    rcases h with rfl | rfl | rfl
    · rw [nx] at this; exact Mine.ns this
    · rw [ndx] at this; exact Mine.ns this
    rw [ny] at this; exact Mine.ns this
  exact s.apart b o e (.inr (.inr (.inr (.inr h))))
theorem SrtF.setNs (s : SrtF C NI kv A G a fr σ) {m : Str -> Option Value} (hm : NsIs A' G' m) (eA : A' = { A with R := A'.R }) (e1 : G'.ks = G.ks) (e2 : G'.np = G.np) (e3 : G'.su = G.su)
    (hr : ∀ l, G'.ready = some l -> σ A'.R = some (.list (l.map kv)) /\ (∀ k ∈ G.ks, A.sl k ≠ A'.R) /\ (∀ w ∈ l, w ∈ G.ks) /\ ∀ o, fr A'.R ≠ some o) : SrtF C NI kv A' G' a fr (upd σ A.d (.ns m 4)) := by
  refine el_EA s.s.ns ?_; intro m₀ n1 n2
  refine el_E s.s.dict ?_; intro ep d1
  obtain ⟨ks, np, su, ready, po, nf⟩ := G'
  obtain ⟨d', D', info', dx', sl', R'⟩ := A'
  dsimp only at e1 e2 e3 hr eA
  subst e1 e2 e3
  obtain ⟨rfl, rfl, rfl, rfl, rfl⟩ : A.d = d' /\ A.D = D' /\ A.info = info' /\ A.dx = dx' /\ A.sl = sl' := by
    simp only [SA.mk.injEq] at eA
    exact ⟨eA.1.symm, eA.2.1.symm, eA.2.2.1.symm, eA.2.2.2.1.symm, eA.2.2.2.2.1.symm⟩
  have kp : ∀ {x : Addr} {o : AO Int}, σ x = some o -> (o ≠ .ns m₀ 4) -> upd σ A.d (.ns m 4) x = some o := fun {x o} h hn => (if_neg (ne_of_kind h n1 hn)).trans h
  refine ⟨⟨kp s.s.inst (fun e => by exact (nomatch e)), ⟨m, upd_self, hm⟩, ⟨ep, kp d1 (fun e => by exact (nomatch e))⟩, s.s.lo, fun j hj => kp (s.s.info j hj) (fun e => by exact (nomatch e)), fun j hj => kp (s.s.dx j hj) (fun e => by cases e),
    fun j hj => kp (s.s.sl j hj) (fun e => by exact (nomatch e)), s.s.nodup, s.s.slinj, fun l hl => ⟨kp (hr l hl).1 (fun e => by exact (nomatch e)), (hr l hl).2.1⟩, s.s.clo, fun l hl => (hr l hl).2.2.1⟩, fun x o e => ?_, fun x o e ho => ?_⟩
  · refine (if_neg ?_).trans (s.keep x o e)
    rintro rfl
    exact s.apart _ o e (.inr (.inl rfl))
  rcases ho with h | h | h | h | ⟨h, h'⟩
  · exact s.apart x o e (.inl h)
  · exact s.apart x o e (.inr (.inl h))
  · exact s.apart x o e (.inr (.inr (.inl h)))
  · exact s.apart x o e (.inr (.inr (.inr (.inl h))))
  refine el_E (Option.isSome_iff_exists.mp h) ?_; intro l hl
  subst h'
  exact (hr l hl).2.2.2 o e
theorem SrtF.setRdy (s : SrtF C NI kv A G a fr σ) {l l' : List Int} (hl : G.ready = some l) (hin : ∀ w ∈ l', w ∈ G.ks) : SrtF C NI kv A { G with ready := some l' } a fr (upd σ A.R (.list (l'.map kv))) := by
  refine el_EA s.s.ns ?_; intro m n1 n2
  refine el_E s.s.dict ?_; intro ep d1
  refine el_A (s.s.rdy l hl) ?_; intro r1 r2
  have kp : ∀ {x : Addr} {o : AO Int}, σ x = some o -> (∀ xs, o ≠ .list xs) -> upd σ A.R (.list (l'.map kv)) x = some o := fun {x o} h hn => (if_neg (ne_of_kind h r1 (hn _))).trans h
  refine ⟨⟨kp s.s.inst (fun _ e => by exact (nomatch e)), ⟨m, kp n1 (fun _ e => by exact (nomatch e)), ⟨n2.n2i, by rw [n2.rdy]; unfold rdyV; rw [hl], n2.po, n2.nf, n2.out⟩⟩, ⟨ep, kp d1 (fun _ e => by exact (nomatch e))⟩, s.s.lo, fun j hj => kp (s.s.info j hj) (fun _ e => by exact (nomatch e)), fun j hj => kp (s.s.dx j hj) (fun _ e => by exact (nomatch e)),
    fun j hj => (if_neg (r2 j hj)).trans (s.s.sl j hj), s.s.nodup, s.s.slinj, fun l₂ h₂ => ⟨by (replace h₂ := Option.some.inj h₂; subst h₂); exact upd_self, r2⟩, s.s.clo, fun l₂ h₂ => by (replace h₂ := Option.some.inj h₂; subst h₂); exact hin⟩, fun x o e => ?_, fun x o e ho => ?_⟩
  · refine (if_neg ?_).trans (s.keep x o e)
    rintro rfl
    exact s.apart _ o e (.inr (.inr (.inr (.inr ⟨by rw [hl]; rfl, rfl⟩))))
  rcases ho with h | h | h | h | ⟨h, h'⟩
  · exact s.apart x o e (.inl h)
  · exact s.apart x o e (.inr (.inl h))
  · exact s.apart x o e (.inr (.inr (.inl h)))
  · exact s.apart x o e (.inr (.inr (.inr (.inl h))))
  exact s.apart x o e (.inr (.inr (.inr (.inr ⟨by rw [hl]; rfl, h'⟩))))
end
end
section
section
noncomputable def Fin' (sn : List Int) (stk : List (Int × Nat)) (w : Int) : Prop := w ∈ sn /\ w ∉ stk.map (·.1)
noncomputable def Path (su : Int -> List Int) (Fn : Int -> Prop) : Int -> List (Int × Nat) -> Prop
  | _, [] => True
  | x, (y, p) :: rest => 1 ≤ p /\ (su y)[p - 1]? = some x /\ (∀ i w, i < p - 1 -> (su y)[i]? = some w -> Fn w) /\ Path su Fn y rest
noncomputable def PathB (su : Int -> List Int) (Fn : Int -> Prop) : List (Int × Nat) -> Prop
  | [] => True
  | (y, p) :: rest => (∀ i w, i < p -> (su y)[i]? = some w -> Fn w) /\ Path su Fn y rest
theorem Path.mono {su : Int -> List Int} {Fn Fn' : Int -> Prop} (h : ∀ w, Fn w -> Fn' w) : ∀ {stk : List (Int × Nat)} {x : Int}, Path su Fn x stk -> Path su Fn' x stk
  | [], _, _ => trivial
  | (y, p) :: rest, x, ⟨h1, h2, h3, h4⟩ => ⟨h1, h2, fun i w hi e => h w (h3 i w hi e), h4.mono h⟩
structure DI (ks : List Int) (su : Int -> List Int) (sn : List Int) (stk : List (Int × Nat)) (r : Int -> Nat) (cnt : Nat) : Prop where
  nd : (stk.map (·.1)).Nodup
  ss : ∀ y ∈ stk.map (·.1), y ∈ sn
  sk : ∀ y ∈ sn, y ∈ ks
  snd : sn.Nodup
  fin : ∀ w, Fin' sn stk w -> ∀ v ∈ su w, Fin' sn stk v /\ r v < r w
  rc : ∀ w, Fin' sn stk w -> r w < cnt
  le : ∀ yp ∈ stk, yp.2 ≤ (su yp.1).length
variable {ks : List Int} {su : Int -> List Int} {sn : List Int} {stk rest : List (Int × Nat)} {r : Int -> Nat} {cnt p : Nat} {x y : Int}
theorem DI.push (d : DI ks su sn stk r cnt) (hx : x ∉ sn) (hk : x ∈ ks) (h : Path su (Fin' sn stk) x stk) : DI ks su (sn ++ [x]) ((x, 0) :: stk) r cnt /\ PathB su (Fin' (sn ++ [x]) ((x, 0) :: stk)) ((x, 0) :: stk) := by
  have hxs : x ∉ stk.map (·.1) := fun q => hx (d.ss x q)
  have up : ∀ w, Fin' sn stk w -> Fin' (sn ++ [x]) ((x, 0) :: stk) w := fun w hw => ⟨List.mem_append_left _ hw.1, fun q => by
    rw [List.map_cons] at q
    rcases List.mem_cons.mp q with q | q
    · exact hx ((show w = x from q) ▸ hw.1)
    · exact hw.2 q⟩
  have down : ∀ w, Fin' (sn ++ [x]) ((x, 0) :: stk) w -> Fin' sn stk w := fun w hw => by
    refine el_A hw ?_; (try clear hw); intro h1 h2
    rw [List.map_cons, List.mem_cons, not_or] at h2
    refine ⟨?_, h2.2⟩
    rcases List.mem_append.mp h1 with h1 | h1
    · exact h1
    exact absurd (List.mem_singleton.mp h1) h2.1
  refine ⟨⟨?_, fun z hz => ?_, fun z hz => ?_, ?_, fun w hw v hv => ?_, fun w hw => d.rc w (down w hw), fun yp hy => ?_⟩, fun i w hi => absurd hi (Nat.not_lt_zero _), h.mono up⟩
  · rw [List.map_cons]; exact List.nodup_cons.mpr ⟨hxs, d.nd⟩
  · rw [List.map_cons] at hz
    rcases List.mem_cons.mp hz with rfl | hz
    · simp
    exact List.mem_append_left _ (d.ss z hz)
  · rcases List.mem_append.mp hz with hz | hz
    · exact d.sk z hz
    rw [List.mem_singleton.mp hz]; exact hk
  · rw [List.nodup_append]
    exact ⟨d.snd, by simp, fun u hu v hv e => by rw [List.mem_singleton.mp hv] at e; exact hx (e ▸ hu)⟩
  · (refine el_A (d.fin w (down w hw) v hv) ?_; intro h1 h2)
    exact ⟨up v h1, h2⟩
  rcases List.mem_cons.mp hy with rfl | hy
  · exact Nat.zero_le _
  exact d.le yp hy
theorem Path.seen (h : Path su (Fin' sn stk) x stk) (hx : Fin' sn stk x) : PathB su (Fin' sn stk) stk := by
  cases stk with
  | nil => trivial
  | cons yp rest =>
    obtain ⟨y, p⟩ := yp
    refine el_AAA h ?_; (try clear h); intro h1 h2 h3 h4
    refine ⟨fun i w hi e => ?_, h4⟩
    by_cases q : i < p - 1
    · exact h3 i w q e
    have : i = p - 1 := by exact om12 ‹_› ‹_›
    rw [this, h2] at e
    (replace e := Option.some.inj e; subst e); exact hx
theorem DI.adv (d : DI ks su sn ((y, p) :: rest) r cnt) (h : PathB su (Fin' sn ((y, p) :: rest)) ((y, p) :: rest)) (hw : (su y)[p]? = some x) : DI ks su sn ((y, p + 1) :: rest) r cnt /\ Path su (Fin' sn ((y, p + 1) :: rest)) x ((y, p + 1) :: rest) := by
  have same : ∀ w, Fin' sn ((y, p + 1) :: rest) w ↔ Fin' sn ((y, p) :: rest) w := fun w => Iff.rfl
  refine ⟨⟨d.nd, d.ss, d.sk, d.snd, d.fin, d.rc, fun yp hy => ?_⟩, by exact Nat.le_add_left _ _, by rw [Nat.add_sub_cancel]; exact hw, fun i w hi e => h.1 i w ‹_› e, h.2⟩
  rcases List.mem_cons.mp hy with rfl | hy
  · have := (List.getElem?_eq_some_iff.mp hw).1
    exact this
  exact d.le yp (.tail _ hy)
theorem DI.pop (d : DI ks su sn ((y, p) :: rest) r cnt) (h : PathB su (Fin' sn ((y, p) :: rest)) ((y, p) :: rest)) (hw : (su y)[p]? = none) :
    DI ks su sn rest (fun z => if z = y then cnt else r z) (cnt + 1) /\ PathB su (Fin' sn rest) rest := by
  have hlen : (su y).length ≤ p := List.getElem?_eq_none_iff.mp hw
  have nd := d.nd
  rw [List.map_cons, List.nodup_cons] at nd
  have up : ∀ w, Fin' sn ((y, p) :: rest) w -> Fin' sn rest w := fun w hw => ⟨hw.1, fun q => hw.2 (by rw [List.map_cons]; exact .tail _ q)⟩
  have down : ∀ w, Fin' sn rest w -> w = y ∨ (w ≠ y /\ Fin' sn ((y, p) :: rest) w) := fun w hw => by
    by_cases q : w = y
    · exact .inl q
    refine .inr ⟨q, hw.1, fun z => ?_⟩
    rw [List.map_cons] at z
    rcases List.mem_cons.mp z with z | z
    · exact q z
    exact hw.2 z
  have neY : ∀ w, Fin' sn ((y, p) :: rest) w -> w ≠ y := fun w hw q => hw.2 (by rw [q, List.map_cons]; exact .head _)
  refine ⟨⟨nd.2, fun z hz => d.ss z (by rw [List.map_cons]; exact .tail _ hz), d.sk, d.snd, fun w hw v hv => ?_, fun w hw => ?_, fun yp hy => d.le yp (.tail _ hy)⟩, ?_⟩
  · rcases down w hw with rfl | ⟨q, hw⟩
    · (refine el_E (List.getElem?_of_mem hv) ?_; intro i hi)
      have hil : i < p := Nat.lt_of_lt_of_le (List.getElem?_eq_some_iff.mp hi).1 hlen
      have fv := h.1 i v hil hi
      refine ⟨up v fv, ?_⟩
      rw [if_pos rfl, if_neg (neY v fv)]
      exact d.rc v fv
    refine el_A (d.fin w hw v hv) ?_; intro h1 h2
    refine ⟨up v h1, ?_⟩
    rw [if_neg q, if_neg (neY v h1)]
    exact h2
  · rcases down w hw with rfl | ⟨q, hw⟩
    · rw [if_pos rfl]; exact Nat.lt_succ_self _
    rw [if_neg q]; exact Nat.lt_succ_of_lt (d.rc w hw)
  cases rest with
  | nil => trivial
  | cons zq rest' =>
    obtain ⟨z, q⟩ := zq
    refine el_AAA h.2 ?_; intro h1 h2 h3 h4
    have fy : Fin' sn ((z, q) :: rest') y := ⟨d.ss y (by rw [List.map_cons]; exact .head _), nd.1⟩
    refine ⟨fun i w hi e => ?_, h4.mono up⟩
    by_cases k : i < q - 1
    · exact up w (h3 i w k e)
    have : i = q - 1 := by exact om12 ‹_› ‹_›
    rw [this, h2] at e
    (replace e := Option.some.inj e; subst e); exact fy
noncomputable def Ch (R : Int -> Int -> Prop) : List Int -> Prop
  | [] => True
  | [_] => True
  | u :: v :: l => R u v /\ Ch R (v :: l)
theorem Ch.snoc {R : Int -> Int -> Prop} {u v : Int} : ∀ {l : List Int}, Ch R (l ++ [u]) -> R u v -> Ch R (l ++ [u] ++ [v])
  | [], _, h => ⟨h, trivial⟩
  | [a], h, h' => ⟨h.1, h', trivial⟩
  | a :: b :: l, h, h' => ⟨h.1, Ch.snoc (l := b :: l) h.2 h'⟩
noncomputable def IsRing (su : Int -> List Int) (q : List Int) : Prop := ∃ x l, q = x :: l ++ [x] /\ (x :: l).Nodup /\ Ch (fun u v => v ∈ su u) q
theorem Path.chain {Fn : Int -> Prop} : ∀ {top : List (Int × Nat)} {c z : Int}, Path su Fn c (top ++ (z, p) :: rest) -> Ch (fun u v => v ∈ su u) (z :: (top.map (·.1)).reverse ++ [c])
  | [], c, z, ⟨_, h2, _, _⟩ => ⟨List.mem_of_getElem? h2, trivial⟩
  | (y, q) :: top, c, z, ⟨_, h2, _, h4⟩ => by
    have ih := Path.chain (top := top) h4
    rw [List.map_cons, List.reverse_cons]
    have e : z :: ((top.map (·.1)).reverse ++ [y]) ++ [c] = (z :: (top.map (·.1)).reverse) ++ [y] ++ [c] := by simp
    rw [e]
    exact ih.snoc (List.mem_of_getElem? h2)
theorem DI.ring {top : List (Int × Nat)} (d : DI ks su sn (top ++ (x, p) :: rest) r cnt) (h : Path su (Fin' sn (top ++ (x, p) :: rest)) x (top ++ (x, p) :: rest)) : IsRing su (x :: (top.map (·.1)).reverse ++ [x]) := by
  refine ⟨x, (top.map (·.1)).reverse, rfl, ?_, h.chain⟩
  have nd := d.nd
  rw [List.map_append, List.map_cons, List.nodup_append] at nd
  refine el_AA nd ?_; (try clear nd); intro h1 h2 h3
  refine List.nodup_cons.mpr ⟨fun q => ?_, List.pairwise_reverse.mpr (h1.imp Ne.symm)⟩
  rw [List.mem_reverse] at q
  exact h3 x q x (.head _) rfl
theorem no_ring {f : Int -> Nat} (hf : ∀ u v, v ∈ su u -> f v < f u) {q : List Int} (h : IsRing su q) : False := by
  refine el_EEAA h ?_; (try clear h); intro x l rfl_75 _ hc; subst rfl_75
  have gen : ∀ (l : List Int) (u v : Int), Ch (fun u v => v ∈ su u) (u :: l ++ [v]) -> f v < f u := by
    intro l
    induction l with
    | nil => exact fun u v h => hf u v h.1
    | cons a l ih => exact fun u v h => Nat.lt_trans (ih a v h.2) (hf u a h.1)
  exact Nat.lt_irrefl _ (gen l x x hc)
noncomputable def dm (ks : List Int) (su : Int -> List Int) (sn : List Int) (stk : List (Int × Nat)) : Nat :=
  ((ks.filter fun k => decide (k ∉ sn)).map fun k => (su k).length + 2).sum + (stk.map fun yp => (su yp.1).length - yp.2 + 1).sum
theorem sum_filter_drop {f : Int -> Nat} : ∀ (ks : List Int), x ∈ ks -> x ∉ sn -> ((ks.filter fun k => decide (k ∉ sn ++ [x])).map f).sum + f x ≤ ((ks.filter fun k => decide (k ∉ sn)).map f).sum
  | [], h, _ => by cases h
  | k :: ks, h, hx => by
    have mono : ∀ l : List Int, ((l.filter fun k => decide (k ∉ sn ++ [x])).map f).sum ≤ ((l.filter fun k => decide (k ∉ sn)).map f).sum := by
      intro l
      induction l with
      | nil => exact Nat.le_refl _
      | cons a l ih =>
        rw [List.filter_cons, List.filter_cons]
        by_cases q : a ∈ sn
        · rw [if_neg (by simp [q]), if_neg (by simp [q])]; exact ih
        by_cases q2 : a = x
        · rw [if_neg (by simp [q2]), if_pos (by simpa using q), List.map_cons, List.sum_cons]; omega
        rw [if_pos (by simp [q, q2]), if_pos (by simpa using q), List.map_cons, List.map_cons, List.sum_cons, List.sum_cons]; omega
    rw [List.filter_cons, List.filter_cons]
    by_cases q2 : k = x
    · subst q2
      rw [if_neg (by simp), if_pos (by simpa using hx), List.map_cons, List.sum_cons]
      have := mono ks
      omega
    have h : x ∈ ks := (List.mem_cons.mp h).resolve_left fun e => q2 e.symm
    have ih := sum_filter_drop (f := f) ks h hx
    by_cases q : k ∈ sn
    · rw [if_neg (by simp [q]), if_neg (by simp [q])]; exact ih
    rw [if_pos (by simp [q, q2]), if_pos (by simpa using q), List.map_cons, List.map_cons, List.sum_cons, List.sum_cons]; lia
theorem dm_push (hk : x ∈ ks) (hx : x ∉ sn) : dm ks su (sn ++ [x]) ((x, 0) :: stk) < dm ks su sn stk := by
  unfold dm
  have := sum_filter_drop (f := fun k => (su k).length + 2) ks hk hx
  rw [List.map_cons, List.sum_cons]
  dsimp only at this ⊢
  lia
theorem dm_adv (h : p < (su y).length) : dm ks su sn ((y, p + 1) :: rest) < dm ks su sn ((y, p) :: rest) := by
  unfold dm
  rw [List.map_cons, List.sum_cons, List.map_cons, List.sum_cons]
  dsimp only
  lia
theorem dm_pop : dm ks su sn rest < dm ks su sn ((y, p) :: rest) := by
  unfold dm
  rw [List.map_cons, List.sum_cons]
  (simp)
theorem nodup_sub_length : ∀ {l l' : List Int}, l.Nodup -> (∀ z ∈ l, z ∈ l') -> l.length ≤ l'.length
  | [], _, _, _ => Nat.zero_le _
  | a :: l, l', h, hs => by
    refine el_A (List.nodup_cons.mp h) ?_; intro h1 h2
    have ha : a ∈ l' := hs a (.head _)
    have ih := nodup_sub_length (l' := l'.erase a) h2 fun z hz => (List.mem_erase_of_ne (fun (e : z = a) => h1 (e ▸ hz))).mpr (hs z (.tail _ hz))
    rw [List.length_erase_of_mem ha] at ih
    have := List.length_pos_of_mem ha
    rw [List.length_cons]
    lia
end
end
section
section
variable {C NI : Addr} {kv : Int -> Value} {A A' : SA Int} {G G' : SG Int} {a b : Addr} {fr fr' σ σ' : Addr -> Option (AO Int)} {k j : Int}
noncomputable def Its (A : SA Int) (σ : Addr -> Option (AO Int)) : List (Int × Nat) -> List (Addr × Addr) -> Prop
  | [], [] => True
  | (y, p) :: stk, (mw, it) :: ms => σ mw = some (mwO it) /\ σ it = some (litO (A.sl y) p) /\ Its A σ stk ms
  | _, _ => False
theorem Its.mono : ∀ {stk : List (Int × Nat)} {ms : List (Addr × Addr)}, Its A σ stk ms -> (∀ m ∈ ms, ∀ o, (σ m.1 = some o -> σ' m.1 = some o) /\ (σ m.2 = some o -> σ' m.2 = some o)) -> Its A σ' stk ms
  | [], [], _, _ => trivial
  | (y, p) :: stk, (mw, it) :: ms, ⟨h1, h2, h3⟩, h => ⟨(h _ (.head _) _).1 h1, (h _ (.head _) _).2 h2, h3.mono fun m hm => h m (.tail _ hm)⟩
theorem Its.mem : ∀ {stk : List (Int × Nat)} {ms : List (Addr × Addr)}, Its A σ stk ms -> ∀ m ∈ ms, σ m.1 = some (mwO m.2) /\ ∃ y p, σ m.2 = some (litO (A.sl y) p)
  | [], [], _, m, hm => by cases hm
  | (y, p) :: stk, (mw, it) :: ms, ⟨h1, h2, h3⟩, m, hm => by
    rcases List.mem_cons.mp hm with rfl | hm
    · exact ⟨h1, y, p, h2⟩
    exact h3.mem m hm
theorem Its.len : ∀ {stk : List (Int × Nat)} {ms : List (Addr × Addr)}, Its A σ stk ms -> ms.length = stk.length
  | [], [], _ => rfl
  | (y, p) :: stk, (mw, it) :: ms, ⟨_, _, h3⟩ => by rw [List.length_cons, List.length_cons, h3.len]
noncomputable def nk : List Int -> List (Int × Value)
  | [] => []
  | y :: r => nk r ++ [(y, .int r.length 0)]
theorem nk_keys : ∀ l : List Int, (nk l).map (·.1) = l.reverse
  | [] => rfl
  | y :: r => by rw [nk, List.map_append, nk_keys r, List.reverse_cons]; rfl
theorem nk_len (l : List Int) : (nk l).length = l.length := by rw [← List.length_map (f := (·.1)), nk_keys, List.length_reverse]
theorem nk_at {x : Int} : ∀ {top rest : List Int}, (top ++ x :: rest).Nodup -> valueAt (nk (top ++ x :: rest)) x = some (.int rest.length 0)
  | [], rest, h => by
    have hx : x ∉ rest := (List.nodup_cons.mp h).1
    show valueAt (nk rest ++ [(x, _)]) x = _
    unfold valueAt
    rw [List.find?_append]
    have : (nk rest).find? (fun kv => decide (kv.1 = x)) = none := List.find?_eq_none.mpr fun p hp q => by
      have : p.1 ∈ (nk rest).map (·.1) := List.mem_map.mpr ⟨p, hp, rfl⟩
      rw [nk_keys, List.mem_reverse] at this
      exact hx ((of_decide_eq_true q) ▸ this)
    rw [this]
    simp
  | y :: top, rest, h => by
    refine el_A (List.nodup_cons.mp h) ?_; intro h1 h2
    have ih := nk_at h2
    show valueAt (nk (top ++ x :: rest) ++ [(y, _)]) x = _
    unfold valueAt at ih ⊢
    rw [List.find?_append]
    cases q : (nk (top ++ x :: rest)).find? (fun kv => decide (kv.1 = x)) with
    | none => rw [q] at ih; exact Mine.ns ih
    | some p => rw [q] at ih; exact ih
theorem nk_has {x : Int} {l : List Int} : (valueAt (nk l) x).isSome = decide (x ∈ l) := by
  rw [valueAt_isSome_eq_any]
  rw [Bool.eq_iff_iff, List.any_eq_true, decide_eq_true_eq]
  constructor
  · intro q_
    refine el_EA q_ ?_; clear q_; intro p hp e
    have : p.1 ∈ (nk l).map (·.1) := List.mem_map.mpr ⟨p, hp, rfl⟩
    rw [nk_keys, List.mem_reverse] at this
    exact (of_decide_eq_true e) ▸ this
  intro h
  have : x ∈ (nk l).map (·.1) := by rw [nk_keys, List.mem_reverse]; exact h
  refine el_EA (List.mem_map.mp this) ?_; intro p hp e
  exact ⟨p, hp, decide_eq_true e⟩
theorem nk_without {y : Int} {r : List Int} (h : y ∉ r) : without (nk (y :: r)) y = nk r := by
  show without (nk r ++ [(y, _)]) y = nk r
  unfold without
  rw [List.filter_append]
  have e1 : (nk r).filter (fun kv => decide (kv.1 ≠ y)) = nk r := List.filter_eq_self.mpr fun p hp => by
    have : p.1 ∈ (nk r).map (·.1) := List.mem_map.mpr ⟨p, hp, rfl⟩
    rw [nk_keys, List.mem_reverse] at this
    exact decide_eq_true fun e => h (e ▸ this)
  rw [e1]
  simp
theorem SrtF.ext (s : SrtF C NI kv A G a fr σ) (h : ∀ b o, σ b = some o -> (Own A G a b ∨ ∃ o', fr b = some o') -> σ' b = some o) : SrtF C NI kv A G a fr σ' where
  s := by
    refine el_EA s.s.ns ?_; intro m n1 n2
    refine el_E s.s.dict ?_; intro ep d1
    exact ⟨h _ _ s.s.inst (.inl (.inl rfl)), ⟨m, h _ _ n1 (.inl (.inr (.inl rfl))), n2⟩, ⟨ep, h _ _ d1 (.inl (.inr (.inr (.inl rfl))))⟩, s.s.lo,
      fun k hk => h _ _ (s.s.info k hk) (.inl (.inr (.inr (.inr (.inl ⟨k, hk, .inl rfl⟩))))), fun k hk => h _ _ (s.s.dx k hk) (.inl (.inr (.inr (.inr (.inl ⟨k, hk, .inr (.inl rfl)⟩))))),
      fun k hk => h _ _ (s.s.sl k hk) (.inl (.inr (.inr (.inr (.inl ⟨k, hk, .inr (.inr rfl)⟩))))), s.s.nodup, s.s.slinj, fun l hl => ⟨h _ _ (s.s.rdy l hl).1 (.inl (.inr (.inr (.inr (.inr ⟨by rw [hl]; rfl, rfl⟩))))), (s.s.rdy l hl).2⟩, s.s.clo, s.s.rin⟩
  keep b o e := h b o (s.keep b o e) (.inr ⟨o, e⟩)
  apart := s.apart
structure DS (kv : Int -> Value) (A : SA Int) (σ₀ : Addr -> Option (AO Int)) (T I E D : Addr) (sn : List Int) (stk : List (Int × Nat)) (ms : List (Addr × Addr)) (σ : Addr -> Option (AO Int)) : Prop where
  keep : ∀ b o, σ₀ b = some o -> σ b = some o
  hT : σ T = some (.list ((stk.map (·.1)).reverse.map kv))
  hI : σ I = some (.list (ms.reverse.map fun m => .ref m.1))
  hE : ∃ P : Int -> Bool, (∀ k, P k = decide (k ∈ sn)) /\ σ E = some (.set P sn.length)
  hD : ∃ ep, σ D = some (.dict (nk (stk.map (·.1))) ep)
  its : Its A σ stk ms
  loc : ∀ b, (b = T ∨ b = I ∨ b = E ∨ b = D ∨ ∃ m ∈ ms, b = m.1 ∨ b = m.2) -> σ₀ b = none
  TI : T ≠ I
  itnd : (ms.map (·.2)).Nodup
  mwit : ∀ m ∈ ms, ∀ m' ∈ ms, m.1 ≠ m'.2
variable {T I E D : Addr} {sn : List Int} {stk : List (Int × Nat)} {ms : List (Addr × Addr)} {x y : Int} {p : Nat} {mw it : Addr} {σ₀ : Addr -> Option (AO Int)}
theorem DS.srt (d : DS kv A σ₀ T I E D sn stk ms σ) (s : SrtF C NI kv A G a fr σ₀) : SrtF C NI kv A G a fr σ := s.ext fun b o e _ => d.keep b o e
theorem DS.len (d : DS kv A σ₀ T I E D sn stk ms σ) : ms.length = stk.length := d.its.len
theorem DS.adv (d : DS kv A σ₀ T I E D sn ((y, p) :: stk) ((mw, it) :: ms) σ) : DS kv A σ₀ T I E D sn ((y, p + 1) :: stk) ((mw, it) :: ms) (upd σ it (litO (A.sl y) (p + 1))) := by
  refine el_AA d.its ?_; intro h1 h2 h3
  have raw : ∀ {b : Addr} {o : AO Int}, σ b = some o -> (∀ P, o ≠ .raw P) -> upd σ it (litO (A.sl y) (p + 1)) b = some o := fun h hn => (if_neg (ne_of_kind h h2 (hn _))).trans h
  have hloc := d.loc it (.inr (.inr (.inr (.inr ⟨_, .head _, .inr rfl⟩))))
  have nd := d.itnd
  rw [List.map_cons, List.nodup_cons] at nd
  refine el_E d.hD ?_; intro ep hD
  refine el_EA d.hE ?_; intro P hP hE
  refine ⟨fun b o e => (if_neg ?_).trans (d.keep b o e), raw d.hT (fun _ e => by exact (nomatch e)), raw d.hI (fun _ e => by exact (nomatch e)), ⟨P, hP, raw hE (fun _ e => by exact (nomatch e))⟩, ⟨ep, raw hD (fun _ e => by exact (nomatch e))⟩, ⟨?_, upd_self, h3.mono fun m hm o => ⟨fun e => ?_, fun e => ?_⟩⟩, d.loc, d.TI, d.itnd, d.mwit⟩
  · rintro rfl
    rw [hloc] at e; exact Mine.ns e
  · exact (if_neg (d.mwit _ (.head _) _ (.head _))).trans h1
  · exact (if_neg (d.mwit _ (.tail _ hm) _ (.head _))).trans e
  exact (if_neg fun q => nd.1 (List.mem_map.mpr ⟨m, hm, q⟩)).trans e
theorem DS.pop (d : DS kv A σ₀ T I E D sn ((y, p) :: stk) ((mw, it) :: ms) σ) (hσ : ∀ b o, σ b = some o -> b ≠ T -> b ≠ I -> b ≠ D -> b ≠ it -> σ' b = some o)
    (hT : σ' T = some (.list ((stk.map (·.1)).reverse.map kv))) (hI : σ' I = some (.list (ms.reverse.map fun m => .ref m.1))) (hD : ∃ ep, σ' D = some (.dict (nk (stk.map (·.1))) ep)) : DS kv A σ₀ T I E D sn stk ms σ' := by
  refine el_AA d.its ?_; intro h1 h2 h3
  refine el_E d.hD ?_; intro ep hD₀
  refine el_EA d.hE ?_; intro P hP hE
  have nd := d.itnd
  rw [List.map_cons, List.nodup_cons] at nd
  refine ⟨fun b o e => ?_, hT, hI, ⟨P, hP, hσ _ _ hE (ne_of_kind hE d.hT (fun e => by exact (nomatch e))) (ne_of_kind hE d.hI (fun e => by exact (nomatch e))) (ne_of_kind hE hD₀ (fun e => by exact (nomatch e))) (ne_of_kind hE h2 (fun e => by exact (nomatch e)))⟩, hD, ?_, fun b hb => d.loc b ?_, d.TI, nd.2, fun m hm m' hm' => d.mwit m (.tail _ hm) m' (.tail _ hm')⟩
  · have no : ∀ z, σ₀ z = none -> b ≠ z := by
      rintro z z1 rfl
      rw [z1] at e; exact Mine.ns e
    exact hσ b o (d.keep b o e) (no _ (d.loc _ (.inl rfl))) (no _ (d.loc _ (.inr (.inl rfl)))) (no _ (d.loc _ (.inr (.inr (.inr (.inl rfl)))))) (no _ (d.loc _ (.inr (.inr (.inr (.inr ⟨_, .head _, .inr rfl⟩))))))
  · refine h3.mono fun m hm o => ?_
    refine el_AEE (h3.mem m hm) ?_; intro k1 y' p' k2
    refine ⟨fun e => hσ _ _ e (ne_of_kind k1 d.hT (fun e => by exact (nomatch e))) (ne_of_kind k1 d.hI (fun e => by exact (nomatch e))) (ne_of_kind k1 hD₀ (fun e => by exact (nomatch e))) (d.mwit _ (.tail _ hm) _ (.head _)),
      fun e => hσ _ _ e (ne_of_kind k2 d.hT (fun e => by exact (nomatch e))) (ne_of_kind k2 d.hI (fun e => by exact (nomatch e))) (ne_of_kind k2 hD₀ (fun e => by exact (nomatch e))) fun q => nd.1 (List.mem_map.mpr ⟨m, hm, q⟩)⟩
  rcases hb with h | h | h | h | ⟨m, hm, h⟩
  · exact .inl h
  · exact .inr (.inl h)
  · exact .inr (.inr (.inl h))
  · exact .inr (.inr (.inr (.inl h)))
  exact .inr (.inr (.inr (.inr ⟨m, .tail _ hm, h⟩)))
theorem DS.push (d : DS kv A σ₀ T I E D sn stk ms σ) (hσ : ∀ b o, σ b = some o -> b ≠ T -> b ≠ I -> b ≠ D -> b ≠ E -> σ' b = some o)
    (hT : σ' T = some (.list (((x :: stk.map (·.1))).reverse.map kv))) (hI : σ' I = some (.list (((mw, it) :: ms).reverse.map fun m => .ref m.1))) (hD : ∃ ep, σ' D = some (.dict (nk (x :: stk.map (·.1))) ep)) (hE : ∃ P : Int -> Bool, (∀ k, P k = decide (k ∈ sn ++ [x])) /\ σ' E = some (.set P (sn ++ [x]).length))
    (hmw : σ' mw = some (mwO it)) (hit : σ' it = some (litO (A.sl x) 0)) (nmw : σ mw = none) (nit : σ it = none) (hne : it ≠ mw) : DS kv A σ₀ T I E D (sn ++ [x]) ((x, 0) :: stk) ((mw, it) :: ms) σ' := by
  refine el_E d.hD ?_; intro ep hD₀
  refine el_EA d.hE ?_; intro P hP hE₀
  have fresh : ∀ z, σ z = none -> σ₀ z = none := fun z hz => by
    cases q : σ₀ z with
    | none => rfl
    | some o => rw [d.keep z o q] at hz; exact Mine.sn hz
  refine ⟨fun b o e => ?_, hT, hI, hE, hD, ⟨hmw, hit, ?_⟩, fun b hb => ?_, d.TI, ?_, fun m hm m' hm' => ?_⟩
  · have no : ∀ z, σ₀ z = none -> b ≠ z := by
      rintro z z1 rfl
      rw [z1] at e; exact Mine.ns e
    exact hσ b o (d.keep b o e) (no _ (d.loc _ (.inl rfl))) (no _ (d.loc _ (.inr (.inl rfl)))) (no _ (d.loc _ (.inr (.inr (.inr (.inl rfl)))))) (no _ (d.loc _ (.inr (.inr (.inl rfl)))))
  · refine d.its.mono fun m hm o => ?_
    refine el_AEE (d.its.mem m hm) ?_; intro k1 y' p' k2
    exact ⟨fun e => hσ _ _ e (ne_of_kind k1 d.hT (fun e => by exact (nomatch e))) (ne_of_kind k1 d.hI (fun e => by exact (nomatch e))) (ne_of_kind k1 hD₀ (fun e => by exact (nomatch e))) (ne_of_kind k1 hE₀ (fun e => by exact (nomatch e))),
      fun e => hσ _ _ e (ne_of_kind k2 d.hT (fun e => by exact (nomatch e))) (ne_of_kind k2 d.hI (fun e => by exact (nomatch e))) (ne_of_kind k2 hD₀ (fun e => by exact (nomatch e))) (ne_of_kind k2 hE₀ (fun e => by exact (nomatch e)))⟩
  · rcases hb with h | h | h | h | ⟨m, hm, h⟩
    · exact d.loc b (.inl h)
    · exact d.loc b (.inr (.inl h))
    · exact d.loc b (.inr (.inr (.inl h)))
    · exact d.loc b (.inr (.inr (.inr (.inl h))))
    rcases List.mem_cons.mp hm with rfl | hm
    · rcases h with rfl | rfl
      · exact fresh _ nmw
      exact fresh _ nit
    exact d.loc b (.inr (.inr (.inr (.inr ⟨m, hm, h⟩))))
  · rw [List.map_cons, List.nodup_cons]
    refine ⟨fun q => ?_, d.itnd⟩
    refine el_EA (List.mem_map.mp q) ?_; intro m hm e
    refine el_AEE (d.its.mem m hm) ?_; intro k1 y' p' k2
    rw [show m.2 = it from e, nit] at k2; exact Mine.ns k2
  rcases List.mem_cons.mp hm with rfl | hm
  · rcases List.mem_cons.mp hm' with rfl | hm'
    · exact Ne.symm hne
    refine el_AEE (d.its.mem m' hm') ?_; intro k1 y' p' k2
    rintro e
    rw [← show mw = m'.2 from e, nmw] at k2; exact Mine.ns k2
  refine el_AEE (d.its.mem m hm) ?_; intro k1 y' p' k2
  rcases List.mem_cons.mp hm' with rfl | hm'
  · rintro e
    rw [show m.1 = it from e, nit] at k1; exact Mine.ns k1
  exact d.mwit m hm m' hm'
end
end
section
section
variable {g : Gl Int} {c : Ac} {S S' : St Int} {Q : Flow -> St Int -> Prop}
theorem WXF_ofAssign {t : List Expr} {e : Expr} {p : Pos} (h : WX g c (.Assign t e p) S Q) : WXF g c (.Assign t e p) S Q := .of h
theorem WXF_ofExpr {e : Expr} {p : Pos} (h : WX g c (.Expr e p) S Q) : WXF g c (.Expr e p) S Q := .of h
theorem WXF_ofReturn {e : Option Expr} {p : Pos} (h : WX g c (.Return e p) S Q) : WXF g c (.Return e p) S Q := .of h
theorem WXF_ofContinue {p : Pos} (h : WX g c (.Continue p) S Q) : WXF g c (.Continue p) S Q := .of h
theorem WXF_ofBreak {p : Pos} (h : WX g c (.Break p) S Q) : WXF g c (.Break p) S Q := .of h
theorem WXsF_nil (h : Q .next S) : WXsF g c [] S Q := .of (WXs_nil h)
theorem WXsF.le {ss : List Stmt} (h : WXsF g c ss S' Q) (l : Le S' S) : WXsF g c ss S Q := WMF.le h l
variable {kv : Int -> Value} {A : SA Int} {σ₀ σ : Addr -> Option (AO Int)} {T I E D : Addr} {sn : List Int} {stk : List (Int × Nat)} {ms : List (Addr × Addr)} {x y : Int} {p : Nat}
structure Nm (m : Str -> Option Value) (DD T I E D : Addr) : Prop where
  n2i : m (Str.ofString "n2i") = some (.ref DD)
  st : m (Str.ofString "stack") = some (.ref T)
  its : m (Str.ofString "itstack") = some (.ref I)
  sn : m (Str.ofString "seen") = some (.ref E)
  nk : m (Str.ofString "node2stacki") = some (.ref D)
theorem Nm.set {m : Str -> Option Value} {DD : Addr} (n : Nm m DD T I E D) (v : Value) : Nm (setv m (Str.ofString "node") v) DD T I E D :=
  ⟨(if_neg (by decide +kernel)).trans n.n2i, (if_neg (by decide +kernel)).trans n.st, (if_neg (by decide +kernel)).trans n.its, (if_neg (by decide +kernel)).trans n.sn, (if_neg (by decide +kernel)).trans n.nk⟩
noncomputable def StA (kv : Int -> Value) (A : SA Int) (G : SG Int) (σ₀ : Addr -> Option (AO Int)) (T I E D : Addr) (sn₀ : List Int) (x₀ : Int) (n : Nat) (S : St Int) : Prop :=
  Nm S.m A.D T I E D /\ ∃ sn stk ms r cnt x, n = dm G.ks G.su sn stk /\ S.m (Str.ofString "node") = some (kv x) /\ x ∈ G.ks /\ DS kv A σ₀ T I E D sn stk ms S.σ /\ DI G.ks G.su sn stk r cnt /\ Path G.su (Fin' sn stk) x stk /\ (x₀ ∈ sn ∨ x = x₀) /\ ∀ z ∈ sn₀, z ∈ sn
noncomputable def StB (kv : Int -> Value) (A : SA Int) (G : SG Int) (σ₀ : Addr -> Option (AO Int)) (T I E D : Addr) (sn₀ : List Int) (x₀ : Int) (n : Nat) (S : St Int) : Prop :=
  Nm S.m A.D T I E D /\ ∃ sn stk ms r cnt, n = dm G.ks G.su sn stk /\ DS kv A σ₀ T I E D sn stk ms S.σ /\ DI G.ks G.su sn stk r cnt /\ PathB G.su (Fin' sn stk) stk /\ x₀ ∈ sn /\ ∀ z ∈ sn₀, z ∈ sn
theorem WXF.mono {st : Stmt} {Q Q' : Flow -> St Int -> Prop} (h : WXF g c st S Q) (hQ : ∀ f S', Q f S' -> Q' f S') : WXF g c st S Q' := WMF.mono h fun f S' => hQ (erF f) S'
theorem IsRing.len {su : Int -> List Int} {q ks : List Int} (h : IsRing su q) (hk : ∀ z ∈ q, z ∈ ks) : q.length ≤ ks.length + 1 := by
  refine el_EEAA h ?_; (try clear h); intro x l rfl_76 hn _; subst rfl_76
  have := nodup_sub_length hn fun z hz => hk z (List.mem_append_left _ hz)
  rw [List.length_append]
  exact Nat.succ_le_succ this
theorem pick_top {top rest : List (Int × Nat)} : pickL (((top ++ (x, p) :: rest).map (·.1)).reverse.map kv) (some rest.length) none = (x :: (top.map (·.1)).reverse).map kv := by
  have e0 : ((top ++ (x, p) :: rest).map (·.1)).reverse.map kv = (rest.map (·.1)).reverse.map kv ++ (x :: (top.map (·.1)).reverse).map kv := by simp
  have e1 : ((rest.map (·.1)).reverse.map kv).length = rest.length := by simp
  rw [e0]
  unfold pickL clipAt
  simp only [Option.elim]
  rw [if_neg (by (simp))]
  have e2 : (max 0 (min (rest.length : Int) ((((rest.map (·.1)).reverse.map kv ++ (x :: (top.map (·.1)).reverse).map kv).length : Nat) : Int))).toNat = ((rest.map (·.1)).reverse.map kv).length := by
    rw [List.length_append, e1]; exact om04 (Nat.le_add_right _ _)
  rw [e2, List.drop_left, List.take_of_length_le (by rw [List.length_append]; (simp))]
theorem DI.start {ks : List Int} {su : Int -> List Int} : DI ks su [] [] (fun _ => 0) 0 :=
  ⟨List.nodup_nil, (fun _ h => nomatch h), (fun _ h => nomatch h), List.nodup_nil, (fun _ h => nomatch h.1), (fun _ h => nomatch h.1), (fun _ h => nomatch h)⟩
end
end
section
set_option hygiene false in
local macro_rules | `(tactic| walk_at "w lk") => `(tactic| first | with_reducible assumption | with_reducible exact m_self | ((with_reducible apply m_other); (focus (decide +kernel)); walk_at "w lk") | with_reducible exact setv_self | ((with_reducible apply setv_other); (focus (decide +kernel)); walk_at "w lk") | ((with_reducible apply compM_free); (focus kernel_rfl); walk_at "w lk") | (dsimp only; walk_at "w lk") | exact m_self | exact setv_self)
set_option hygiene false in
local macro_rules | `(tactic| walk_at "w st") => `(tactic| first | with_reducible assumption | with_reducible exact s_self | ((with_reducible apply s_new); (focus (with_reducible assumption)); walk_at "w st") | with_reducible exact upd_self | ((with_reducible apply upd_new); (focus (with_reducible assumption)); walk_at "w st") | (dsimp only; walk_at "w st"))
set_option hygiene false in
local macro_rules | `(tactic| walk_at "w") => `(tactic| first
  | (with_reducible first
    | refine WEs_cons (by kernel_rfl) ?_
    | refine WEs_nil ?_
    | refine WE_int ?_
    | refine WE_NameS ‹_› (by kernel_rfl) (by walk_at "w lk") ?_
    | refine WE_BuiltS ‹_› ‹_› (by first | exact boot_len | exact boot_range | exact boot_sum | exact boot_min | exact boot_max | exact boot_tuple | exact boot_set | exact boot_iter | exact boot_enumerate) (by kernel_rfl) (by kernel_rfl) (by decide +kernel) ?_
    | refine WE_GlobS ‹_› ‹_› (by kernel_rfl) (by first | exact gl_S_IFMT | exact gl_filemode_table | exact gl_TopologicalSorter | exact gl_CycleError | exact gl_NodeInfo | exact gl_check_parenthesis | exact gl_strip_quoted_realnames | exact gl_iter_escaped_chars | exact gl_law_row | exact gl_filemode | exact gl_law_ranks | exact gl_law_steps | exact gl_law_rings | exact gl_law_led | exact gl_law_run | exact gl_law_barred | exact gl_law_mate | exact gl_law_read | exact gl_S_ISVTX | exact gl__NODE_OUT | exact gl__NODE_DONE) ?_
    | refine WE_Call ?_
    | refine W_CWS ‹_› (by kernel_rfl) (by kernel_rfl) ?_
    | refine WE_bool ?_
    | refine WE_str ?_
    | refine WE_none ?_
    | refine WE_BinOp ?_
    | refine WBin_add ?_
    | refine WBin_sub ?_
    | refine WBin_floordiv (by decide +kernel) (by decide +kernel) ?_
    | refine WBin_mod (by decide +kernel) ?_
    | refine WBin_and ?_
    | (refine WXs_consL ?_; intro Q_)
    | refine WXs_nil ?_
    | refine WX_AugS ‹_› ‹_› (by kernel_rfl) (by kernel_rfl) (by walk_at "w lk") ?_
    | refine WIn_add ?_
    | refine WX_If ?_
    | refine WE_UnaryOp ?_
    | refine WUn_neg ?_
    | refine WBin_mul (by first | assumption | (constructor <;> omega)) ?_
    | refine WX_Break ?_
    | refine WX_Continue ?_
    | refine WX_Return ?_
    | refine WE_Sub ?_
    | refine WE_IfExp ?_
    | refine WE_List ?_
    | refine WIfs_nil ?_
    | refine if_yes rfl ?_
    | refine if_no Bool.false_ne_true ?_
    | refine WIfs_one ?_
    | refine WT_chain2 (by kernel_rfl) ?_
    | refine WT_Compare (by kernel_rfl) ?_
    | refine WE_Compare (by kernel_rfl) ?_
    | refine WT_BoolOp ?_
    | refine WAll_and ?_
    | refine WAll_or ?_
    | refine WAll_and_nil ?_
    | refine WAll_or_nil ?_
    | refine WT_Not ?_
    | refine WCmp_eq ?_
    | refine WCmp_ne ?_
    | refine WCmp_lt ?_
    | refine WCmp_ge ?_
    | refine WTr_bool ?_
    | refine WE_DictNil ?_
    | refine WE_NamedExpr ?_
    | refine W_StoreS ‹_› ‹_› (by kernel_rfl) ?_
    | refine WX_AugAttr ?_
    | refine WAsg_Name ?_
    | refine WTr_none ?_
    | refine WCmp_isNone ?_
    | refine WCmp_isNotNone ?_
    | refine W_CW0S ‹_› (by kernel_rfl) ?_
    | (refine WXsF_consL ?_; intro Q_)
    | refine WXsF_nil ?_
    | refine WXF_If ?_
    | refine WXF_ofAssign ?_
    | refine WXF_ofExpr ?_
    | refine WXF_ofReturn ?_
    | refine WXF_ofContinue ?_
    | refine WXF_ofBreak ?_)
  | ((with_reducible refine WX_AssignN ?_ (by with_reducible assumption) (by with_reducible assumption) (by kernel_rfl) ?_); (focus exact rfl))
  | ((with_reducible apply WE_pop); (focus exact (fun _ => rfl)))
  | ((with_reducible apply WE_join); (focus exact (fun _ => rfl)); (focus kernel_rfl))
  | ((with_reducible apply W_append); (focus exact (fun _ => rfl)); (focus exact (fun _ => rfl)); (focus kernel_rfl))
  | ((with_reducible refine WE_Attr ?_ ?_); (focus exact (fun _ => rfl)))
  | ((with_reducible refine WX_AssignAttr ?_ ?_); (focus exact (fun _ => rfl)))
  | ((with_reducible refine WX_Assign2 ?_ ?_ ?_); (focus exact (fun _ => rfl)); (focus exact (fun _ => rfl)))
  | ((with_reducible refine WAsg_Sub ?_ ?_); (focus exact (fun _ _ _ e => by cases e)))
  | ((with_reducible refine WX_Expr ?_ ?_); (focus exact (fun _ => rfl)))
  | ((with_reducible apply WE_Meth); (focus exact (fun _ => rfl)))
  | ((with_reducible refine WT_value ?_ ?_); (focus exact (fun _ _ => rfl))))
local macro_rules | `(tactic| w_fin) => `(tactic| repeat walk_at "w")
section
set_option hygiene false in
local macro_rules | `(tactic| walk_at "w") => `(tactic| ((with_reducible refine WX_ForR ?_ ?_); exact (fun _ _ => rfl)))
section
section
variable {g : Gl Int} {c : Ac} {S S' : St Int} {Q : Value -> St Int -> Prop} {a b : Addr} {xs ys : List Value} {P : Params}
noncomputable def Bar (ns : List Int) : Prop := ∃ j i k, i < j /\ j < k /\ k < ns.length /\ ns.getD k 0 < ns.getD i 0 /\ ns.getD i 0 < ns.getD j 0
theorem getD_get {ns : List Int} {i : Nat} (h : i < ns.length) : ns[i]? = some (ns.getD i 0) := by
  rw [List.getD_eq_getElem?_getD, List.getElem?_eq_getElem h]; rfl
theorem W_barred (hK : g.K = hd.heap_1 P) (hd : c.Deep 1) {ns : List Int} (ha : S.σ a = some (.list (iL ns))) (hn : ns.length ≤ 1000) (h1 : Bar ns -> Q (.bool true) S) (h2 : ¬ Bar ns -> Q (.bool false) S) : WC g c (.ref 252) [.ref a] S Q := by
  refine WC.drop (WC_def (n := 0) hd (fn_barred hK) so_barred (B := [(Str.ofString "ranks", .ref a)]) (fun us hu => ?_) (by kernel_rfl) fun c' hs hx hd' => ?_)
  · (refine el_EA (map1 hu) ?_; intro u rfl_60 hu'; subst rfl_60)
    exact ⟨[(Str.ofString "ranks", u)], by kernel_rfl, by simp [hu']⟩
  refine WXs.le (S' := ⟨setv (fun _ => none) (Str.ofString "ranks") (.ref a), S.σ⟩) ?_ (Le.refl _)
  show WXs g c' (_ :: _) _ _
  have len : ∀ S' : St Int, (∀ b o, S.σ b = some o -> S'.σ b = some o) -> ∀ Q, Q (.int ns.length 0) S' -> WC g c' (.builtin "len") [.ref a] S' Q := fun S' hle Q hq => WC_len (hle _ _ ha) (by rw [iL_len]; exact om26 (Nat.le_trans ‹_› (by decide))) (by rw [iL_len]; exact hq)
  w_fin
  refine len _ (by exact fun _ _ e => e) _ ?_
  w_fin
  refine WC_range1 fun r hr => ?_
  let Inv_1 : Nat -> St Int -> Prop := fun j S' => S'.m (Str.ofString "ranks") = some (.ref a) /\ (∀ b o, S.σ b = some o -> S'.σ b = some o) /\ ∀ j', j' < j -> ∀ i k, i < j' -> j' < k -> k < ns.length -> ¬ (ns.getD k 0 < ns.getD i 0 /\ ns.getD i 0 < ns.getD j' 0)
  refine ⟨_, _, _, rfl, upd_self, by exact om16, by exact om17, by exact om27 _, by exact om25 (Nat.le_trans ‹_› (by decide)), Inv_1, ⟨by walk_at "w lk", upd_le hr, by lia⟩, fun j S₁ hj q_ => ?_, fun S' q_ => ?_⟩
  · (refine el_AA q_ ?_; clear q_; intro hm hle hno)
    refine W_StoreS hs hx (by kernel_rfl) ?_
    rw [Int.zero_add]
    w_fin
    refine WC_range1 fun r₁ hr₁ => ?_
    let Inv_2 : Nat -> St Int -> Prop := fun i S' => S'.m (Str.ofString "ranks") = some (.ref a) /\ S'.m (Str.ofString "j") = some (.int j 0) /\ (∀ b o, S.σ b = some o -> S'.σ b = some o) /\ ∀ i', i' < i -> ∀ k, j < k -> k < ns.length -> ¬ (ns.getD k 0 < ns.getD i' 0 /\ ns.getD i' 0 < ns.getD j 0)
    refine ⟨_, _, _, rfl, upd_self, by exact om16, by exact om17, by exact om27 _, by lia, Inv_2, ⟨by walk_at "w lk", by walk_at "w lk", fun b o e => upd_le hr₁ b o (hle b o e), by lia⟩, fun i S₂ hi q_ => ?_, fun S' q_ => ?_⟩
    · (refine el_AAA q_ ?_; clear q_; intro hm hmj hle hno₁)
      refine W_StoreS hs hx (by kernel_rfl) ?_
      rw [Int.zero_add]
      w_fin
      refine len _ (by exact hle) _ ?_
      w_fin
      refine WC_range2 fun r₂ hr₂ => ?_
      let Inv_3 : Nat -> St Int -> Prop := fun k' S' => S'.m (Str.ofString "ranks") = some (.ref a) /\ S'.m (Str.ofString "j") = some (.int j 0) /\ S'.m (Str.ofString "i") = some (.int i 0) /\ (∀ b o, S.σ b = some o -> S'.σ b = some o) /\ ∀ k, j < k -> k < j + 1 + k' -> ¬ (ns.getD k 0 < ns.getD i 0 /\ ns.getD i 0 < ns.getD j 0)
      refine ⟨_, _, _, rfl, upd_self, by exact om27 _, by lia, by exact om27 _, by exact om25 (Nat.le_trans ‹_› (by decide)), Inv_3, ⟨by walk_at "w lk", by walk_at "w lk", by walk_at "w lk", fun b o e => upd_le hr₂ b o (hle b o e), by lia⟩, fun k' S₃ hk q_ => ?_, fun S' q_ => ?_⟩
      · (refine el_AAAA q_ ?_; clear q_; intro hm hmj hmi hle hno₂)
        refine W_StoreS hs hx (by kernel_rfl) ?_
        w_fin
        refine WSub_iL (hle _ _ ha) (by exact Int.natCast_nonneg _) (by lia) (getD_get (by lia)) ?_
        w_fin
        refine WSub_iL (hle _ _ ha) (by exact Int.natCast_nonneg _) (by lia) (getD_get (by lia)) ?_
        refine WCmp_lt (WTr_bool ?_)
        have ek : ((j : Int) + 1 + (k' : Int)).toNat = j + 1 + k' := by exact Int.toNat_natCast _
        rw [ek, Int.toNat_natCast]
        by_cases q1 : ns.getD (j + 1 + k') 0 < ns.getD i 0
        · first | refine if_yes (by simpa using q1) ?_ | rw [if_pos (by simpa using q1)]
          w_fin
          refine WSub_iL (hle _ _ ha) (by exact Int.natCast_nonneg _) (by lia) (getD_get (by exact om22 ‹_›)) ?_
          refine WCmp_lt (WTr_bool ?_)
          rw [Int.toNat_natCast]
          by_cases q2 : ns.getD i 0 < ns.getD j 0
          · first | refine if_yes (by simpa using q2) ?_ | rw [if_pos (by simpa using q2)]
            w_fin
            exact ⟨S, ⟨fun _ _ e => e, hle⟩, h1 ⟨j, i, j + 1 + k', by exact om22 ‹_›, by exact Nat.le_add_right _ _, by lia, q1, q2⟩⟩
          first | refine if_no (by simpa using q2) ?_ | rw [if_neg (by simpa using q2)]
          w_fin
          refine ⟨by walk_at "w lk", by walk_at "w lk", by walk_at "w lk", hle, fun k h3 h4 => ?_⟩
          by_cases e : k = j + 1 + k'
          · subst e; exact fun h => q2 h.2
          exact hno₂ k h3 (by exact om11 ‹_› ‹_›)
        rw [if_neg (by simpa using q1), if_neg Bool.false_ne_true]
        w_fin
        refine ⟨by walk_at "w lk", by walk_at "w lk", by walk_at "w lk", hle, fun k h3 h4 => ?_⟩
        by_cases e : k = j + 1 + k'
        · subst e; exact fun h => q1 h.1
        exact hno₂ k h3 (by exact om11 ‹_› ‹_›)
      refine el_AAAA q_ ?_; clear q_; intro hm hmj hmi hle hno₂
      w_fin
      refine ⟨hm, hmj, hle, fun i' hi' k h3 h4 => ?_⟩
      by_cases e : i' = i
      · subst e; exact hno₂ k h3 (by omega)
      exact hno₁ i' (by exact om11 ‹_› ‹_›) k h3 h4
    refine el_AAA q_ ?_; clear q_; intro hm hmj hle hno₁
    w_fin
    exact ⟨hm, hle, fun j' hj' i k q1 q2 q3 => by
      by_cases e : j' = j
      · subst e; exact hno₁ i ‹_› k q2 q3
      · exact hno j' (by exact om11 ‹_› ‹_›) i k q1 q2 q3⟩
  refine el_AA q_ ?_; clear q_; intro hm hle hno
  w_fin
  exact ⟨S, ⟨fun _ _ e => e, hle⟩, h2 fun ⟨j, i, k, q1, q2, q3, q4⟩ => hno j (by exact Nat.lt_trans ‹_› ‹_›) i k q1 q2 q3 q4⟩
end
end
section
section
variable {g : Gl Int} {c : Ac} {S S' : St Int} {Q : Value -> St Int -> Prop} {a b : Addr} {xs ys : List Value} {P : Params}
theorem fn_row (hK : g.K = hd.heap_1 P) : FnIs g.K 216 (bodyOf P 216) (fdOf P 216).scope (fdOf P 216) :=
  fnIs ⟨_, _, _, rfl⟩ (by kernel_rfl) rfl rfl rfl rfl hK
theorem so_row : scopeOk (fdOf P 216).scope = true := by kernel_rfl
noncomputable def rowFig (mode : Int) (k : Nat) : Int := (mode.fdiv ([64, 8, 1].getD k 1)).fmod 8
noncomputable def rowEnds (mode : Int) (k : Nat) : Str := if (mode.fdiv ([2048, 1024, 512].getD k 1)).fmod 2 = 1 then (if k = 2 then "Tt" else "Ss") else "-x"
noncomputable def rowPart (mode : Int) (k : Nat) : Str :=
  chr1 (chAt "-r" ((rowFig mode k).fdiv 4)) ++ chr1 (chAt "-w" (((rowFig mode k).fdiv 2).fmod 2)) ++ chr1 (chAt (rowEnds mode k) ((rowFig mode k).fmod 2))
noncomputable def rowUp (mode : Int) : Nat -> Str
  | 0 => chr1 (chAt "?pc?d?b?-?l?s???" (mode.fdiv 4096))
  | k + 1 => rowUp mode k ++ rowPart mode k
theorem rowUp_len (mode : Int) : ∀ k, (rowUp mode k).length = 1 + 3 * k
  | 0 => rfl
  | k + 1 => by
    unfold rowUp
    rw [str_len_add, rowUp_len mode k]
    unfold rowPart
    rw [str_len_add, str_len_add]
    simp only [chr1_len]
    exact Nat.sub_zero _
theorem fmod_lt8 (x : Int) : 0 ≤ x.fmod 8 /\ x.fmod 8 < 8 := ⟨Int.fmod_nonneg_of_pos _ (by decide), Int.fmod_lt_of_pos _ (by decide)⟩
theorem fmod_lt2 (x : Int) : 0 ≤ x.fmod 2 /\ x.fmod 2 < 2 := ⟨Int.fmod_nonneg_of_pos _ (by decide), Int.fmod_lt_of_pos _ (by decide)⟩
theorem W_row (hK : g.K = hd.heap_1 P) (hd : c.Deep 1) {mode : Int} (h0 : 0 ≤ mode) (h1 : mode < 65536) (h : Q (.str (rowUp mode 3) 0) S) : WC g c (.ref 216) [.int mode 0] S Q := by
  refine WC.drop (WC_def (n := 0) hd (fn_row hK) so_row (B := [(Str.ofString "mode", .int mode 0)]) (fun us hu => ?_) (by kernel_rfl) fun c' hs hx hd' => ?_)
  · (refine el_EA (map1 hu) ?_; intro u rfl_61 hu'; subst rfl_61)
    exact ⟨[(Str.ofString "mode", u)], by kernel_rfl, by simp [hu']⟩
  refine WXs.le (S' := ⟨setv (fun _ => none) (Str.ofString "mode") (.int mode 0), S.σ⟩) ?_ (Le.refl _)
  show WXs g c' (_ :: _) _ _
  have q4096 : 0 ≤ mode.fdiv 4096 /\ mode.fdiv 4096 < 16 := by rw [Int.fdiv_eq_ediv_of_nonneg _ (by decide)]; lia
  w_fin
  refine WSub_strAt q4096.1 (by have : ((Str.ofString "?pc?d?b?-?l?s???").length : Int) = 16 := by decide +kernel
                                omega) (by decide +kernel) ?_
  w_fin
  refine WC_range1 fun r hr => ?_
  let Inv_1 : Nat -> St Int -> Prop := fun k S' => S'.m (Str.ofString "mode") = some (.int mode 0) /\ S'.m (Str.ofString "row") = some (.str (rowUp mode k) 0) /\ (∀ b o, S.σ b = some o -> S'.σ b = some o)
  refine ⟨_, _, _, rfl, upd_self, by exact om16, by exact om17, by exact om27 _, by exact Int.natCast_nonneg _, Inv_1, ⟨by walk_at "w lk", by walk_at "w lk", upd_le hr⟩, fun k S₁ hk q_ => ?_, fun S' q_ => ?_⟩
  · (refine el_AA q_ ?_; clear q_; intro hm hrow hle)
    refine W_StoreS hs hx (by kernel_rfl) ?_
    have h8 := fmod_lt8 (mode.fdiv ([64, 8, 1].getD k 1))
    have len1 : ((Str.ofString "-r").length : Int) = 2 := by decide +kernel
    have len2 : ((Str.ofString "-w").length : Int) = 2 := by decide +kernel
    have len3 : ((rowEnds mode k).length : Int) = 2 := by
      unfold rowEnds
      split
      · split <;> decide +kernel
      decide +kernel
    have f4 : 0 ≤ (rowFig mode k).fdiv 4 /\ (rowFig mode k).fdiv 4 < 2 := by
      unfold rowFig
      rw [Int.fdiv_eq_ediv_of_nonneg _ (by decide)]; omega
    have f2 := fmod_lt2 ((rowFig mode k).fdiv 2)
    have f1 := fmod_lt2 (rowFig mode k)
    have hk3 : k = 0 ∨ k = 1 ∨ k = 2 := by lia
    rw [Int.zero_add]
    w_fin
    refine ⟨by decide +kernel, fun a₁ ha₁ => ?_⟩
    w_fin
    refine WSub_item (x := .int ([64, 8, 1].getD k 1) 0) (by walk_at "w st") (by exact Int.natCast_nonneg _) (by lia) (by rcases hk3 with rfl | rfl | rfl <;> rfl) ?_
    have hp : ([64, 8, 1].getD k 1 : Int) ≠ 0 /\ ([64, 8, 1].getD k 1 : Int).natAbs < 1073741824 := by rcases hk3 with rfl | rfl | rfl <;> decide
    refine WBin_floordiv hp.1 hp.2 ?_
    w_fin
    refine ⟨by decide +kernel, fun a₂ ha₂ => ?_⟩
    w_fin
    refine WSub_item (x := .int ([2048, 1024, 512].getD k 1) 0) (by walk_at "w st") (by exact Int.natCast_nonneg _) (by omega) (by rcases hk3 with rfl | rfl | rfl <;> rfl) ?_
    have hp2 : ([2048, 1024, 512].getD k 1 : Int) ≠ 0 /\ ([2048, 1024, 512].getD k 1 : Int).natAbs < 1073741824 := by rcases hk3 with rfl | rfl | rfl <;> decide
    refine WBin_floordiv hp2.1 hp2.2 ?_
    w_fin
    by_cases hst : (mode.fdiv ([2048, 1024, 512].getD k 1)).fmod 2 = 1
    · first | refine if_yes (by rw [hst]; rfl) ?_ | rw [if_pos (by rw [hst]; rfl)]
      w_fin
      by_cases hk2 : k = 2
      · first | refine if_yes (by rw [hk2]; rfl) ?_ | rw [if_pos (by rw [hk2]; rfl)]
        w_fin
        have he : Str.ofString "Tt" = rowEnds mode k := by unfold rowEnds; rw [if_pos hst, if_pos hk2]
        rw [he]
        w_fin
        refine WSub_strAt f4.1 (by rw [len1]; exact f4.2) (by decide +kernel) ?_
        w_fin
        refine WSub_strAt f2.1 (by rw [len2]; exact f2.2) (by decide +kernel) ?_
        refine WBin_adds (by simp only [str_len_add, chr1_len]; decide +kernel) ?_
        w_fin
        refine WSub_strAt f1.1 (by rw [len3]; exact f1.2) (by lia) ?_
        refine WBin_adds (by simp only [str_len_add, chr1_len]; decide +kernel) ?_
        refine WIn_adds (by rw [rowUp_len]; rw [sizeLine_eq]; simp only [str_len_add, chr1_len]; lia) ?_
        w_fin
        exact ⟨by walk_at "w lk", by walk_at "w lk", fun b o e => by have := hle b o e; walk_at "w st"⟩
      first | refine if_no (by intro q; exact hk2 (by have := eq_of_beq q; exact Int.natCast_inj.mp ‹_›)) ?_ | rw [if_neg (by intro q; exact hk2 (by have := eq_of_beq q; omega))]
      w_fin
      have he : Str.ofString "Ss" = rowEnds mode k := by unfold rowEnds; rw [if_pos hst, if_neg hk2]
      rw [he]
      w_fin
      refine WSub_strAt f4.1 (by rw [len1]; exact f4.2) (by decide +kernel) ?_
      w_fin
      refine WSub_strAt f2.1 (by rw [len2]; exact f2.2) (by decide +kernel) ?_
      refine WBin_adds (by simp only [str_len_add, chr1_len]; decide +kernel) ?_
      w_fin
      refine WSub_strAt f1.1 (by rw [len3]; exact f1.2) (by omega) ?_
      refine WBin_adds (by simp only [str_len_add, chr1_len]; decide +kernel) ?_
      refine WIn_adds (by rw [rowUp_len]; rw [sizeLine_eq]; simp only [str_len_add, chr1_len]; lia) ?_
      w_fin
      exact ⟨by walk_at "w lk", by walk_at "w lk", fun b o e => by have := hle b o e; walk_at "w st"⟩
    first | refine if_no (by intro q; exact hst (eq_of_beq q)) ?_ | rw [if_neg (by intro q; exact hst (eq_of_beq q))]
    w_fin
    have he : Str.ofString "-x" = rowEnds mode k := by unfold rowEnds; rw [if_neg hst]
    rw [he]
    w_fin
    refine WSub_strAt f4.1 (by rw [len1]; exact f4.2) (by decide +kernel) ?_
    w_fin
    refine WSub_strAt f2.1 (by rw [len2]; exact f2.2) (by decide +kernel) ?_
    refine WBin_adds (by simp only [str_len_add, chr1_len]; decide +kernel) ?_
    w_fin
    refine WSub_strAt f1.1 (by rw [len3]; exact f1.2) (by omega) ?_
    refine WBin_adds (by simp only [str_len_add, chr1_len]; decide +kernel) ?_
    refine WIn_adds (by rw [rowUp_len]; rw [sizeLine_eq]; simp only [str_len_add, chr1_len]; omega) ?_
    w_fin
    exact ⟨by walk_at "w lk", by walk_at "w lk", fun b o e => by have := hle b o e; walk_at "w st"⟩
  refine el_AA q_ ?_; clear q_; intro hm hrow hle
  w_fin
  exact ⟨S, ⟨fun _ _ e => e, hle⟩, h⟩
end
end
section
section
variable {g : Gl Int} {c : Ac} {S S' : St Int} {Q : Value -> St Int -> Prop} {a b : Addr} {xs ys : List Value} {P : Params}
theorem fn_ifmt (hK : g.K = hd.heap_1 P) : FnIs g.K 169 (bodyOf P 169) (fdOf P 169).scope (fdOf P 169) :=
  fnIs ⟨_, _, _, rfl⟩ (by kernel_rfl) rfl rfl rfl rfl hK
theorem so_ifmt : scopeOk (fdOf P 169).scope = true := by kernel_rfl
theorem fn_fm (hK : g.K = hd.heap_1 P) : FnIs g.K 209 (bodyOf P 209) (fdOf P 209).scope (fdOf P 209) :=
  fnIs ⟨_, _, _, rfl⟩ (by kernel_rfl) rfl rfl rfl rfl hK
theorem so_fm : scopeOk (fdOf P 209).scope = true := by kernel_rfl
theorem W_ifmt (hK : g.K = hd.heap_1 P) (hd : c.Deep 1) {mode : Int} (h : Q (.int (Builtin.bitAnd mode 61440) 0) S) : WC g c (.ref 169) [.int mode 0] S Q := by
  refine WC_def (n := 0) hd (fn_ifmt hK) so_ifmt (B := [(Str.ofString "mode", .int mode 0)]) (fun us hu => ?_) (by kernel_rfl) fun c' hs hx hd' => ?_
  · (refine el_EA (map1 hu) ?_; intro u rfl_63 hu'; subst rfl_63)
    exact ⟨[(Str.ofString "mode", u)], by kernel_rfl, by simp [hu']⟩
  refine WXs.le (S' := ⟨setv (fun _ => none) (Str.ofString "mode") (.int mode 0), S.σ⟩) ?_ (Le.refl _)
  show WXs g c' (_ :: _) _ _
  w_fin
  exact h
noncomputable def fmTab : Nat -> List (Int × Nat)
  | 0 => [(40960, 108), (49152, 115), (32768, 45), (24576, 98), (16384, 100), (8192, 99), (4096, 112)]
  | 1 => [(256, 114)]
  | 2 => [(128, 119)]
  | 3 => [(2112, 115), (2048, 83), (64, 120)]
  | 4 => [(32, 114)]
  | 5 => [(16, 119)]
  | 6 => [(1032, 115), (1024, 83), (8, 120)]
  | 7 => [(4, 114)]
  | 8 => [(2, 119)]
  | 9 => [(513, 116), (512, 84), (1, 120)]
  | _ => []
noncomputable def fmHit (mode : Int) (i : Nat) (p : Int × Nat) : Bool := if i = 0 then Builtin.bitAnd mode 61440 == p.1 else Builtin.bitAnd mode p.1 == p.1
noncomputable def fmChar (mode : Int) (i : Nat) : Nat := match (fmTab i).find? (fmHit mode i) with | some p => p.2 | none => if i = 0 then 63 else 45
noncomputable def fmUp (mode : Int) (i : Nat) : List Str := (List.range i).map fun j => chr1 (fmChar mode j)
noncomputable def fm (mode : Int) : Str := Txt.join (Str.ofString "") (fmUp mode 10)
noncomputable def Pairs2 (g : Gl Int) (S : St Int) (rs : List Value) (tab : List (Int × Nat)) : Prop := rs.length = tab.length /\ ∀ (j : Nat) (p : Int × Nat), tab[j]? = some p -> ∃ r : Addr, rs[j]? = some (Value.ref r) /\ At g S r (.tup [.int p.1 0, .str (chr1 p.2) 0])
theorem Pairs2.nil : Pairs2 g S [] [] := ⟨rfl, fun j p h => by simp at h⟩
theorem Pairs2.cons {r : Addr} {p : Int × Nat} {rs : List Value} {tab : List (Int × Nat)} (h : At g S r (.tup [.int p.1 0, .str (chr1 p.2) 0])) (t : Pairs2 g S rs tab) : Pairs2 g S (.ref r :: rs) (p :: tab) :=
  ⟨by rw [List.length_cons, List.length_cons, t.1], fun j q hq => by
    cases j with
    | zero => simp at hq; subst hq; exact ⟨r, rfl, h⟩
    | succ j => exact t.2 j q (by simpa using hq)⟩
theorem pairK (hK : g.K = hd.heap_1 P) (hG : g.Ok) {r : Addr} {v : Int} {x : Str} {t u : Tok} {n ch : Nat} (h : (Mine.hd.heap_1 P).lookup r = some { cls := .type "tuple", data := .seq #[.int v t, .str x u] n }) (e : x = chr1 ch) : At g S r (.tup [.int v 0, .str (chr1 ch) 0]) := by
  subst e
  exact hG.at hK h
theorem tables (hK : g.K = hd.heap_1 P) (hG : g.Ok) : ∃ ts : List Value, (∀ S, At g S 202 (.tup ts)) /\ ts.length = 10 /\ ∀ i, i < 10 -> ∃ t rs, ts[i]? = some (.ref t) /\ (∀ S, At g S t (.tup rs)) /\ ∀ S, Pairs2 g S rs (fmTab i) := by
  refine ⟨_, fun S => hG.at hK (by rfl), by rfl, fun i hi => ?_⟩
  match i, hi with
  | 0, _ => refine ⟨_, _, rfl, fun S => hG.at hK rfl, fun S => ?_⟩; show Pairs2 g S _ [(40960, 108), (49152, 115), (32768, 45), (24576, 98), (16384, 100), (8192, 99), (4096, 112)]; repeat (first | exact Pairs2.nil | refine Pairs2.cons (pairK hK hG rfl (by decide +kernel)) ?_)
  | 1, _ => refine ⟨_, _, rfl, fun S => hG.at hK rfl, fun S => ?_⟩; show Pairs2 g S _ [(256, 114)]; repeat (first | exact Pairs2.nil | refine Pairs2.cons (pairK hK hG rfl (by decide +kernel)) ?_)
  | 2, _ => refine ⟨_, _, rfl, fun S => hG.at hK rfl, fun S => ?_⟩; show Pairs2 g S _ [(128, 119)]; repeat (first | exact Pairs2.nil | refine Pairs2.cons (pairK hK hG rfl (by decide +kernel)) ?_)
  | 3, _ => refine ⟨_, _, rfl, fun S => hG.at hK rfl, fun S => ?_⟩; show Pairs2 g S _ [(2112, 115), (2048, 83), (64, 120)]; repeat (first | exact Pairs2.nil | refine Pairs2.cons (pairK hK hG rfl (by decide +kernel)) ?_)
  | 4, _ => refine ⟨_, _, rfl, fun S => hG.at hK rfl, fun S => ?_⟩; show Pairs2 g S _ [(32, 114)]; repeat (first | exact Pairs2.nil | refine Pairs2.cons (pairK hK hG rfl (by decide +kernel)) ?_)
  | 5, _ => refine ⟨_, _, rfl, fun S => hG.at hK rfl, fun S => ?_⟩; show Pairs2 g S _ [(16, 119)]; repeat (first | exact Pairs2.nil | refine Pairs2.cons (pairK hK hG rfl (by decide +kernel)) ?_)
  | 6, _ => refine ⟨_, _, rfl, fun S => hG.at hK rfl, fun S => ?_⟩; show Pairs2 g S _ [(1032, 115), (1024, 83), (8, 120)]; repeat (first | exact Pairs2.nil | refine Pairs2.cons (pairK hK hG rfl (by decide +kernel)) ?_)
  | 7, _ => refine ⟨_, _, rfl, fun S => hG.at hK rfl, fun S => ?_⟩; show Pairs2 g S _ [(4, 114)]; repeat (first | exact Pairs2.nil | refine Pairs2.cons (pairK hK hG rfl (by decide +kernel)) ?_)
  | 8, _ => refine ⟨_, _, rfl, fun S => hG.at hK rfl, fun S => ?_⟩; show Pairs2 g S _ [(2, 119)]; repeat (first | exact Pairs2.nil | refine Pairs2.cons (pairK hK hG rfl (by decide +kernel)) ?_)
  | 9, _ => refine ⟨_, _, rfl, fun S => hG.at hK rfl, fun S => ?_⟩; show Pairs2 g S _ [(513, 116), (512, 84), (1, 120)]; repeat (first | exact Pairs2.nil | refine Pairs2.cons (pairK hK hG rfl (by decide +kernel)) ?_)
noncomputable def sL (ss : List Str) : List Value := ss.map fun x => .str x 0
theorem sL_are : ∀ ss : List Str, AreStr (sL ss) ss
  | [] => .nil
  | x :: ss => .cons x (sL_are ss)
theorem find_first {α : Type} {p : α -> Bool} : ∀ {l : List α} {j : Nat} {x : α}, l[j]? = some x -> p x = true -> (∀ j' y, j' < j -> l[j']? = some y -> p y = false) -> l.find? p = some x
  | [], j, x, h, _, _ => by simp at h
  | y :: l, 0, x, h, hp, _ => by simp at h; subst h; simp [hp]
  | y :: l, j + 1, x, h, hp, hn => by
    rw [List.find?_cons, hn 0 y (by exact Nat.le_add_left _ _) rfl]
    exact find_first (l := l) (j := j) (by simpa using h) hp fun j' z q e => hn (j' + 1) z (by exact Nat.lt_succ_of_le ‹_›) (by simpa using e)
theorem find_no {α : Type} {p : α -> Bool} {l : List α} (h : ∀ (j : Nat) (y : α), l[j]? = some y -> p y = false) : l.find? p = none := by
  rw [List.find?_eq_none]
  intro x hx
  refine el_E (List.getElem?_of_mem hx) ?_; intro j hj
  rw [h j x hj]; simp
theorem fmUp_succ (mode : Int) (i : Nat) : sL (fmUp mode (i + 1)) = sL (fmUp mode i) ++ [.str (chr1 (fmChar mode i)) 0] := by
  unfold sL fmUp
  rw [List.range_succ, List.map_append, List.map_append]
  rfl
theorem fmUp_len (mode : Int) (i : Nat) : (sL (fmUp mode i)).length = i := by unfold sL fmUp; simp
theorem W_fm (hK : g.K = hd.heap_1 P) (hG : g.Ok) (hd : c.Deep 2) {mode : Int} (h : Q (.str (fm mode) 0) S) : WC g c (.ref 209) [.int mode 0] S Q := by
  refine el_EAA (tables hK hG) ?_; intro ts hts htl hti
  refine WC.drop (WC_def (n := 1) hd (fn_fm hK) so_fm (B := [(Str.ofString "mode", .int mode 0)]) (fun us hu => ?_) (by kernel_rfl) fun c' hs hx hd' => ?_)
  · (refine el_EA (map1 hu) ?_; intro u rfl_62 hu'; subst rfl_62)
    exact ⟨[(Str.ofString "mode", u)], by kernel_rfl, by simp [hu']⟩
  refine WXs.le (S' := ⟨setv (fun _ => none) (Str.ofString "mode") (.int mode 0), S.σ⟩) ?_ (Le.refl _)
  show WXs g c' (_ :: _) _ _
  w_fin
  refine ⟨by decide +kernel, fun p hp => ?_⟩
  w_fin
  refine WX.le (S' := ⟨setv (setv (fun _ => none) (Str.ofString "mode") (.int mode 0)) (Str.ofString "perm") (.ref p), upd S.σ p (.list [])⟩) ?_ (Le.refl _)
  refine WX_ForEnum hs hx (by kernel_rfl) (by kernel_rfl) (fun _ _ => rfl) ?_
  w_fin
  have up : ∀ {σ : Addr -> Option (AO Int)} {o : AO Int}, (∀ b o', S.σ b = some o' -> σ b = some o') -> ∀ b o', S.σ b = some o' -> upd σ p o b = some o' := fun hle b o' e => upd_other (by rintro rfl; rw [show S.σ b = none from hp] at e; exact Mine.ns e) (hle b o' e)
  refine WC_enumT (hts _) fun e it he hit hne => ?_
  let Inv_1 : Nat -> St Int -> Prop := fun i S' => S'.m (Str.ofString "mode") = some (.int mode 0) /\ S'.m (Str.ofString "perm") = some (.ref p) /\ S'.σ p = some (.list (sL (fmUp mode i))) /\ (∀ b o, S.σ b = some o -> S'.σ b = some o)
  refine ⟨e, it, 202, ts, ⟨setv (setv (fun _ => none) (Str.ofString "mode") (.int mode 0)) (Str.ofString "perm") (.ref p), upd S.σ p (.list [])⟩, rfl, hne, s_self, (if_neg (Ne.symm hne)).trans (if_pos rfl), ⟨fun _ _ q => q, ?_⟩, he, hit, Inv_1, ⟨by walk_at "w lk", by walk_at "w lk", upd_self, up fun _ _ e => e⟩, fun i S₂ hI => hts S₂, fun i S₂ hi q_ => ?_, fun S' q_ => ?_⟩
  · exact fun b o q => upd_le ((if_neg hne).trans he) b o (upd_le hit b o q)
  · (refine el_AAA q_ ?_; clear q_; intro hm hperm hl hle)
    refine el_EEAA (hti i (by lia)) ?_; intro t rs et htt hpr
    have ht : ts.getD i .none = .ref t := by rw [List.getD_eq_getElem?_getD, et]; rfl
    show WXs g c' _ ⟨setv (setv S₂.m (Str.ofString "index") (.int i 0)) (Str.ofString "table") (ts.getD i .none), S₂.σ⟩ _
    rw [ht]
    refine WXs_consL ?_
    intro Q_
    refine WX_For (fun _ _ => rfl) ?_
    w_fin
    refine el_A (hpr S) ?_; intro hrl hpr
    let Inv_2 : Nat -> St Int -> Prop := fun j S' => S'.m (Str.ofString "mode") = some (.int mode 0) /\ S'.m (Str.ofString "perm") = some (.ref p) /\ S'.m (Str.ofString "index") = some (.int i 0) /\ S'.σ p = some (.list (sL (fmUp mode i))) /\ (∀ b o, S.σ b = some o -> S'.σ b = some o) /\ ∀ j' q, j' < j -> (fmTab i)[j']? = some q -> fmHit mode i q = false
    refine ⟨rs, _, iter_tupAt (htt _), Inv_2,
      ⟨by walk_at "w lk", by walk_at "w lk", by walk_at "w lk", hl, hle, fun j' q h => by exact (Nat.not_lt_zero _ ‹_›).elim⟩, fun _ S' _ => htt S', fun j y S₃ hy q_ => ?_, fun S' q_ => ?_⟩
    · (refine el_AAAAA q_ ?_; clear q_; intro hm hperm hidx hl hle hno)
      have hj : j < (fmTab i).length := by rw [← hrl]; exact (List.getElem?_eq_some_iff.mp hy).1
      refine el_EA (hpr j (fmTab i)[j] (List.getElem?_eq_getElem hj)) ?_; intro r e1 hr
      rw [e1] at hy
      (replace hy := Option.some.inj hy; subst hy)
      have hr : At g S₃ r (.tup [.int ((fmTab i)[j]).1 0, .str (chr1 ((fmTab i)[j]).2) 0]) := hr.le hle
      refine WAsg_tup2 hr (W_StoreS hs hx (by kernel_rfl) (W_StoreS hs hx (by kernel_rfl) ?_))
      have find : fmHit mode i (fmTab i)[j] = true -> fmChar mode i = ((fmTab i)[j]).2 := fun hh => by
        unfold fmChar
        rw [find_first (List.getElem?_eq_getElem hj) hh hno]
      have hz : (sL (fmUp mode i)).length ≤ sizeLine := by rw [fmUp_len, sizeLine_eq]; lia
      have next : fmHit mode i (fmTab i)[j] = false -> ∀ j' q, j' < j + 1 -> (fmTab i)[j']? = some q -> fmHit mode i q = false := fun hh j' q h1 h2 => by
        by_cases q1 : j' = j
        · subst q1
          rw [List.getElem?_eq_getElem hj] at h2
          (replace h2 := Option.some.inj h2; subst h2); exact hh
        exact hno j' q (by exact om11 ‹_› ‹_›) h2
      w_fin
      by_cases hi0 : i = 0
      · first | refine if_yes (by rw [hi0]; rfl) ?_ | rw [if_pos (by rw [hi0]; rfl)]
        w_fin
        refine W_ifmt hK (hd'.less (by exact Nat.le_refl _)) ?_
        w_fin
        by_cases hh : Builtin.bitAnd mode 61440 = ((fmTab i)[j]).1
        · first | refine if_yes (by rw [hh]; exact beq_self_eq_true _) ?_ | rw [if_pos (by rw [hh]; exact beq_self_eq_true _)]
          have hf := find (by unfold fmHit; rw [if_pos hi0, hh]; exact beq_self_eq_true _)
          w_fin
          refine ⟨p, _, rfl, hl, ?_⟩
          w_fin
          refine ⟨_, hl, hz, ?_⟩
          w_fin
          rw [← hf, ← fmUp_succ]
          exact ⟨by walk_at "w lk", by walk_at "w lk", s_self, up hle⟩
        first | refine if_no (by intro q; exact hh (eq_of_beq q)) ?_ | rw [if_neg (by intro q; exact hh (eq_of_beq q))]
        w_fin
        exact ⟨by walk_at "w lk", by walk_at "w lk", by walk_at "w lk", hl, hle, next (by unfold fmHit; rw [if_pos hi0]; exact beq_eq_false_iff_ne.mpr hh)⟩
      first | refine if_no (by intro q; have := eq_of_beq q; lia) ?_ | rw [if_neg (by intro q; have := eq_of_beq q; omega)]
      w_fin
      by_cases hh : Builtin.bitAnd mode ((fmTab i)[j]).1 = ((fmTab i)[j]).1
      · first | refine if_yes (by rw [hh]; exact beq_self_eq_true _) ?_ | rw [if_pos (by rw [hh]; exact beq_self_eq_true _)]
        have hf := find (by unfold fmHit; rw [if_neg hi0, hh]; exact beq_self_eq_true _)
        w_fin
        refine ⟨p, _, rfl, hl, ?_⟩
        w_fin
        refine ⟨_, hl, hz, ?_⟩
        w_fin
        rw [← hf, ← fmUp_succ]
        exact ⟨by walk_at "w lk", by walk_at "w lk", s_self, up hle⟩
      first | refine if_no (by intro q; exact hh (eq_of_beq q)) ?_ | rw [if_neg (by intro q; exact hh (eq_of_beq q))]
      w_fin
      exact ⟨by walk_at "w lk", by walk_at "w lk", by walk_at "w lk", hl, hle, next (by unfold fmHit; rw [if_neg hi0]; exact beq_eq_false_iff_ne.mpr hh)⟩
    refine el_AAAAA q_ ?_; clear q_; intro hm hperm hidx hl hle hno
    have hnone : (fmTab i).find? (fmHit mode i) = none := find_no fun j y e => hno j y (by rw [hrl]; exact (List.getElem?_eq_some_iff.mp e).1) e
    have hz : (sL (fmUp mode i)).length ≤ sizeLine := by rw [fmUp_len, sizeLine_eq]; lia
    w_fin
    by_cases hi0 : i = 0
    · first | refine if_yes (by rw [hi0]; rfl) ?_ | rw [if_pos (by rw [hi0]; rfl)]
      have hf : Str.ofString "?" = chr1 (fmChar mode i) := by unfold fmChar; rw [hnone]; dsimp only; rw [if_pos hi0]; decide +kernel
      w_fin
      refine ⟨p, _, rfl, hl, ?_⟩
      w_fin
      refine ⟨_, hl, hz, ?_⟩
      w_fin
      rw [hf, ← fmUp_succ]
      exact ⟨by walk_at "w lk", by walk_at "w lk", s_self, up hle⟩
    first | refine if_no (by intro q; have := eq_of_beq q; lia) ?_ | rw [if_neg (by intro q; have := eq_of_beq q; omega)]
    have hf : Str.ofString "-" = chr1 (fmChar mode i) := by unfold fmChar; rw [hnone]; dsimp only; rw [if_neg hi0]; decide +kernel
    w_fin
    refine ⟨p, _, rfl, hl, ?_⟩
    w_fin
    refine ⟨_, hl, hz, ?_⟩
    w_fin
    rw [hf, ← fmUp_succ]
    exact ⟨by walk_at "w lk", by walk_at "w lk", s_self, up hle⟩
  refine el_AAA q_ ?_; clear q_; intro hm hperm hl hle
  rw [htl] at hl
  w_fin
  refine ⟨_, rfl, ?_⟩
  w_fin
  refine ⟨p, _, _, rfl, hl, sL_are _, ?_, ?_⟩
  · have : ((fmUp mode 10).map (·.length)).sum + (fmUp mode 10).length * (Str.ofString "").length = 10 := by
      unfold fmUp
      rw [List.map_map]
      rfl
    rw [this]; decide
  w_fin
  exact ⟨S, ⟨fun _ _ e => e, hle⟩, h⟩
end
end
section
section
variable {g : Gl Int} {c : Ac} {S S' : St Int} {Q : Value -> St Int -> Prop} {a b : Addr} {xs ys : List Value} {P : Params}
theorem fn_ranks (hK : g.K = hd.heap_1 P) : FnIs g.K 221 (bodyOf P 221) (fdOf P 221).scope (fdOf P 221) :=
  fnIs ⟨_, _, _, rfl⟩ (by kernel_rfl) rfl rfl rfl rfl hK
theorem so_ranks : scopeOk (fdOf P 221).scope = true := by kernel_rfl
noncomputable def rowLt (rs : List Str) (k i : Nat) : Bool := if rs.getD k Str.empty = rs.getD i Str.empty then decide ((k : Int) < (i : Int)) else decide ((rs.getD k Str.empty).cps.toList < (rs.getD i Str.empty).cps.toList)
noncomputable def rankAt (rs : List Str) (n i : Nat) : Nat := ((List.range n).filter fun k => rowLt rs k i).length
noncomputable def ranksOf (rs : List Str) : List Int := (List.range rs.length).map fun i => (rankAt rs rs.length i : Int)
theorem W_ranks (hK : g.K = hd.heap_1 P) (hd : c.Deep 1) {rs : List Str} (ha : S.σ a = some (.list (sL rs))) (hn : rs.length ≤ 1000) (h : ∀ r, S.σ r = none -> Q (.ref r) ⟨S.m, upd S.σ r (.list (iL (ranksOf rs)))⟩) : WC g c (.ref 221) [.ref a] S Q := by
  have sl : (sL rs).length = rs.length := by unfold sL; simp
  refine WC.drop (WC_def (n := 0) hd (fn_ranks hK) so_ranks (B := [(Str.ofString "rows", .ref a)]) (fun us hu => ?_) (by kernel_rfl) fun c' hs hx hd' => ?_)
  · (refine el_EA (map1 hu) ?_; intro u rfl_64 hu'; subst rfl_64)
    exact ⟨[(Str.ofString "rows", u)], by kernel_rfl, by simp [hu']⟩
  refine WXs.le (S' := ⟨setv (fun _ => none) (Str.ofString "rows") (.ref a), S.σ⟩) ?_ (Le.refl _)
  show WXs g c' (_ :: _) _ _
  w_fin
  refine WC_len ha (by rw [sl]; exact om26 (Nat.le_trans ‹_› (by decide))) ?_
  rw [sl]
  w_fin
  refine WC_range1 fun r hr => ?_
  w_fin
  refine WE_CompR (fun _ _ => rfl) hs (by kernel_rfl) (by kernel_rfl) (by kernel_rfl) ?_
  w_fin
  have hrange : ∀ (l : List Nat) i, iL (l.map fun i => (rankAt rs rs.length i : Int)) ++ [.int (rankAt rs rs.length i) 0] = iL ((l ++ [i]).map fun i => (rankAt rs rs.length i : Int)) := fun l i => by unfold iL; simp
  let Inv_1 : Nat -> List Value -> St Int -> Prop := fun i acc S' => S'.m (Str.ofString "rows") = some (.ref a) /\ S'.m (Str.ofString "spots") = some (.ref r) /\ acc = iL ((List.range i).map fun i => (rankAt rs rs.length i : Int)) /\ S'.σ r = some (rngO 0 rs.length 1) /\ (∀ b o, S.σ b = some o -> S'.σ b = some o)
  refine ⟨r, 0, rs.length, rfl, by walk_at "w st", by exact om16, by exact om17, by exact om27 _, by exact om25 (Nat.le_trans ‹_› (by decide)), by rw [sizeLine_eq]; exact Nat.le_trans ‹_› (by decide), Inv_1,
    ⟨by walk_at "w lk", by walk_at "w lk", rfl, by walk_at "w st", upd_le hr⟩, fun i acc S₂ hI => by rw [hI.2.2.1]; unfold iL; simp, fun c₁ hs₁ hx₁ hd₁ i acc S₂ hi q_ => ?_, fun acc S₂ ⟨hrows, hspots, hacc, hrg, hle⟩ D hD => ?_⟩
  · (refine el_AAAA q_ ?_; clear q_; intro hrows hspots hacc hrg hle)
    rw [Int.zero_add]
    w_fin
    refine WE_CompR (fun _ _ => rfl) hs₁ (by kernel_rfl) (by kernel_rfl) (by kernel_rfl) ?_
    w_fin
    let Inv_2 : Nat -> List Value -> St Int -> Prop := fun k acc S' => S'.m (Str.ofString "rows") = some (.ref a) /\ S'.m (Str.ofString "i") = some (.int i 0) /\ acc = iL (((List.range k).filter fun k => rowLt rs k i).map fun (k : Nat) => (k : Int)) /\ S'.σ r = some (rngO 0 rs.length 1) /\ (∀ b o, S.σ b = some o -> S'.σ b = some o)
    refine ⟨r, 0, rs.length, rfl, by walk_at "w st", by exact om16, by exact om17, by exact om27 _, by exact om25 (Nat.le_trans ‹_› (by decide)), by rw [sizeLine_eq]; exact Nat.le_trans ‹_› (by decide), Inv_2,
      ⟨by walk_at "w lk", by walk_at "w lk", rfl, by walk_at "w st", hle⟩, fun k acc S₂ hI => by rw [hI.2.2.1]; unfold iL; rw [List.length_map, List.length_map]; exact Nat.le_trans (List.length_filter_le _ _) (by simp), fun c₂ hs₂ hx₂ hd₂ k acc' S₃ hk q_ => ?_, fun acc' S₃ ⟨hrows, hi', hacc', hrg, hle⟩ D hD => ?_⟩
    · (refine el_AAAA q_ ?_; clear q_; intro hrows hi' hacc' hrg hle)
      rw [Int.zero_add]
      w_fin
      have row : ∀ k : Nat, k < rs.length -> (sL rs)[(k : Int).toNat]? = some (.str (rs.getD k Str.empty) 0) := fun k hk => by
        rw [Int.toNat_natCast]; unfold sL; rw [List.getElem?_map, List.getElem?_eq_getElem hk, List.getD_eq_getElem?_getD, List.getElem?_eq_getElem hk]; rfl
      refine WSub_item (hle _ _ ha) (by exact Int.natCast_nonneg _) (by lia) (row k (by exact om22 ‹_›)) ?_
      w_fin
      refine ⟨(by decide +kernel : 2 ≤ sizeLine), fun a₁ ha₁ => ?_⟩
      w_fin
      refine WSub_item (by have := hle _ _ ha; walk_at "w st") (by exact Int.natCast_nonneg _) (by lia) (row i (by exact om22 ‹_›)) ?_
      w_fin
      refine ⟨(by decide +kernel : 2 ≤ sizeLine), fun a₂ ha₂ => ?_⟩
      refine WCmp_ltRow (by walk_at "w st") (by walk_at "w st") ?_
      have hlt : (if rs.getD k Str.empty = rs.getD i Str.empty then decide ((k : Int) < (i : Int)) else decide ((rs.getD k Str.empty).cps.toList < (rs.getD i Str.empty).cps.toList)) = rowLt rs k i := rfl
      rw [hlt]
      w_fin
      have hle' : ∀ b o, S.σ b = some o -> upd (upd S₃.σ a₁ (.list [.str (rs.getD k Str.empty) 0, .int k 0])) a₂ (.list [.str (rs.getD i Str.empty) 0, .int i 0]) b = some o := fun b o e => by
        have := hle b o e; walk_at "w st"
      by_cases q : rowLt rs k i = true
      · first | refine if_yes q ?_ | rw [if_pos q]
        w_fin
        refine ⟨by walk_at "w lk", by walk_at "w lk", ?_, by walk_at "w st", hle'⟩
        rw [hacc', List.range_succ, List.filter_append]
        simp [q, iL]
      first | refine if_no q ?_ | rw [if_neg q]
      refine ⟨by walk_at "w lk", by walk_at "w lk", ?_, by walk_at "w st", hle'⟩
      rw [hacc', List.range_succ, List.filter_append]
      simp [q, iL]
    w_fin
    refine WC_len (by walk_at "w st") (by rw [hacc']; unfold iL; rw [List.length_map, List.length_map]; have := List.length_filter_le (fun k => rowLt rs k i) (List.range ((rs.length : Int) - 0).toNat); simp at this ⊢; lia) ?_
    refine ⟨by walk_at "w lk", by walk_at "w lk", ?_, by walk_at "w st", fun b o e => by have := hle b o e; walk_at "w st"⟩
    have : acc'.length = rankAt rs rs.length i := by
      rw [hacc']; unfold iL rankAt
      rw [List.length_map, List.length_map]
      simp
    rw [this, hacc, List.range_succ, ← hrange]
  have hfin : acc = iL (ranksOf rs) := by
    rw [hacc]; unfold ranksOf
    simp
  subst hfin
  show ∃ S'', Le S'' _ /\ _
  have hDS : S.σ D = none := by
    cases z : S.σ D with
    | none => rfl
    | some o => have := hle D o z; rw [hD] at this; exact Mine.ns this
  refine ⟨⟨S.m, upd S.σ D (.list (iL (ranksOf rs)))⟩, ⟨fun _ _ e => e, fun b o e => ?_⟩, h D hDS⟩
  have e : upd S.σ D _ b = some o := e
  show upd S₂.σ D _ b = some o
  unfold upd at e ⊢
  by_cases q : b = D
  · rw [if_pos q] at e ⊢; exact e
  rw [if_neg q] at e ⊢; exact hle b o e
end
end
section
section
variable {g : Gl Int} {c : Ac} {S S' : St Int} {Q : Value -> St Int -> Prop} {a b : Addr} {xs ys : List Value} {P : Params}
theorem fn_steps (hK : g.K = hd.heap_1 P) : FnIs g.K 226 (bodyOf P 226) (fdOf P 226).scope (fdOf P 226) :=
  fnIs ⟨_, _, _, rfl⟩ (by kernel_rfl) rfl rfl rfl rfl hK
theorem so_steps : scopeOk (fdOf P 226).scope = true := by kernel_rfl
noncomputable def pairs1 (n k : Nat) : List (Int × Int) := (List.range k).map fun (i : Nat) => (1 + (i : Int) - 1, 1 + (i : Int))
noncomputable def pairs2 (n k : Nat) : List (Int × Int) := (List.range k).map fun (j : Nat) => ((j : Int), (n : Int) + (j : Int))
noncomputable def stepPairs (ns : List Int) (i j : Nat) : List (Int × Int) :=
  (if ns.getD i 0 + 1 = ns.getD j 0 then [((ns.length : Int) + i, (ns.length : Int) + j)] else []) ++ (if (i : Int) < j /\ ns.getD i 0 < ns.getD j 0 then [((ns.length : Int) + i, (j : Int))] else [])
noncomputable def stepRow (ns : List Int) (i j : Nat) : List (Int × Int) := (List.range j).flatMap (stepPairs ns i)
noncomputable def stepsUp (ns : List Int) (i : Nat) : List (Int × Int) := pairs1 ns.length (ns.length - 1) ++ pairs2 ns.length ns.length ++ (List.range i).flatMap fun i => stepRow ns i ns.length
noncomputable def stepsOf (ns : List Int) : List (Int × Int) := stepsUp ns ns.length
theorem stepRow_succ (ns : List Int) (i j : Nat) : stepRow ns i (j + 1) = stepRow ns i j ++ stepPairs ns i j := by
  unfold stepRow; rw [List.range_succ, List.flatMap_append]; simp
theorem stepsUp_succ (ns : List Int) (i : Nat) : stepsUp ns (i + 1) = stepsUp ns i ++ stepRow ns i ns.length := by
  unfold stepsUp; rw [List.range_succ, List.flatMap_append, ← List.append_assoc]; simp
theorem W_steps (hK : g.K = hd.heap_1 P) (hd : c.Deep 1) {ns : List Int} (ha : S.σ a = some (.list (iL ns))) (hn : ns.length ≤ 100) (hn1 : 1 ≤ ns.length)
    (h : ∀ r vs σ', S.σ r = none -> (∀ b o, S.σ b = some o -> σ' b = some o) -> σ' r = some (.list vs) -> Refs σ' r vs (stepsOf ns) -> Q (.ref r) ⟨S.m, σ'⟩) : WC g c (.ref 226) [.ref a] S Q := by
  refine WC.drop (WC_def (n := 0) hd (fn_steps hK) so_steps (B := [(Str.ofString "ranks", .ref a)]) (fun us hu => ?_) (by kernel_rfl) fun c' hs hx hd' => ?_)
  · (refine el_EA (map1 hu) ?_; intro u rfl_70 hu'; subst rfl_70)
    exact ⟨[(Str.ofString "ranks", u)], by kernel_rfl, by simp [hu']⟩
  refine WXs.le (S' := ⟨setv (fun _ => none) (Str.ofString "ranks") (.ref a), S.σ⟩) ?_ (Le.refl _)
  show WXs g c' (_ :: _) _ _
  w_fin
  refine WC_len ha (by rw [iL_len]; exact om26 (Nat.le_trans ‹_› (by decide))) ?_
  rw [iL_len]
  w_fin
  refine WE_CompR (fun _ _ => rfl) hs (by kernel_rfl) (by kernel_rfl) (by kernel_rfl) ?_
  w_fin
  refine WC_range2 fun r₁ hr₁ => ?_
  have ne0 : ∀ {σ : Addr -> Option (AO Int)} {r : Addr}, (∀ b o, S.σ b = some o -> σ b = some o) -> σ r = none -> r ≠ a := fun hle hr e => by
    have := hle _ _ ha; rw [← e, hr] at this; exact Mine.ns this
  let Inv_1 : Nat -> List Value -> St Int -> Prop := fun i acc S' => Refs S'.σ a acc (pairs1 ns.length i) /\ (∀ b o, S.σ b = some o -> S'.σ b = some o)
  refine ⟨r₁, 1, ns.length, rfl, by walk_at "w st", by exact om27 _, by exact Int.natCast_nonneg _, by exact om27 _, by exact om25 (Nat.le_trans ‹_› (by decide)), by rw [sizeLine_eq]; omega, Inv_1, ⟨Refs.nil, upd_le hr₁⟩, fun i acc S₂ hI => by rw [hI.1.1]; unfold pairs1; simp, fun c₁ hs₁ hx₁ hd₁ i acc S₂ hi q_ => ?_, fun acc S₂ ⟨href, hle⟩ D hD => ?_⟩
  · (refine el_A q_ ?_; clear q_; intro href hle)
    w_fin
    refine ⟨(by decide +kernel : 2 ≤ sizeLine), fun r hr => ⟨?_, fun b o e => upd_le hr b o (hle b o e)⟩⟩
    have := (href.new (o := .list [.int (1 + (i : Int) - 1) 0, .int (1 + (i : Int)) 0]) hr).snoc (p := (1 + (i : Int) - 1, 1 + (i : Int))) upd_self (ne0 hle hr)
    unfold pairs1 at this ⊢
    rw [List.range_succ, List.map_append]
    exact this
  have e1 : (ns.length - 1 : Int).toNat = ns.length - 1 := by exact om46 ‹_›
  rw [e1] at href
  have hle₁ := fun b o e => upd_le (o := (.list acc : AO Int)) hD b o (hle b o e)
  have href₁ := href.new (o := (.list acc : AO Int)) hD
  have hDa : D ≠ a := ne0 hle hD
  w_fin
  refine WE_CompR (fun _ _ => rfl) hs (by kernel_rfl) (by kernel_rfl) (by kernel_rfl) ?_
  w_fin
  refine WC_range1 fun r₂ hr₂ => ?_
  let Inv_2 : Nat -> List Value -> St Int -> Prop := fun i acc₂ S' => S'.m (Str.ofString "many") = some (.int ns.length 0) /\ S'.σ D = some (.list acc) /\ Refs S'.σ a acc (pairs1 ns.length (ns.length - 1)) /\ Refs S'.σ a acc₂ (pairs2 ns.length i) /\ (∀ b o, S.σ b = some o -> S'.σ b = some o)
  refine ⟨r₂, 0, ns.length, rfl, by walk_at "w st", by exact om16, by exact om17, by exact om27 _, by exact om25 (Nat.le_trans ‹_› (by decide)), by rw [sizeLine_eq]; exact Nat.le_trans ‹_› (by decide), Inv_2,
    ⟨by walk_at "w lk", by walk_at "w st", href₁.new hr₂, Refs.nil, fun b o e => upd_le hr₂ b o (hle₁ b o e)⟩, fun i acc₂ S₂ hI => by rw [hI.2.2.2.1.1]; unfold pairs2; simp, fun c₁ hs₁ hx₁ hd₁ i acc₂ S₃ hi q_ => ?_, fun acc₂ S₃ ⟨hmany, hDl, href, href₂, hle⟩ D₂ hD₂ => ?_⟩
  · (refine el_AAAA q_ ?_; clear q_; intro hmany hDl href href₂ hle)
    rw [Int.zero_add]
    w_fin
    refine ⟨(by decide +kernel : 2 ≤ sizeLine), fun r hr => ⟨by walk_at "w lk", by walk_at "w st", href.new hr, ?_, fun b o e => upd_le hr b o (hle b o e)⟩⟩
    have := (href₂.new (o := .list [.int (i : Int) 0, .int ((ns.length : Int) + i) 0]) hr).snoc (p := ((i : Int), (ns.length : Int) + i)) upd_self (ne0 hle hr)
    unfold pairs2 at this ⊢
    rw [List.range_succ, List.map_append]
    exact this
  have e2 : ((ns.length : Int) - 0).toNat = ns.length := by exact Nat.sub_zero _
  rw [e2] at href₂
  have hDn : D ≠ D₂ := fun e => by rw [e, hD₂] at hDl; exact Mine.ns hDl
  refine WBin_addL (xs := acc) (ys := acc₂) (by walk_at "w st") (by walk_at "w st") (by rw [href.1, href₂.1, sizeLine_eq]; unfold pairs1 pairs2; simp; lia) fun T hT => ?_
  have hT : upd S₃.σ D₂ (.list acc₂) T = none := hT
  have hle₂ : ∀ b o, S.σ b = some o -> upd S₃.σ D₂ (.list acc₂) b = some o := fun b o e => upd_le hD₂ b o (hle b o e)
  have hTS : S.σ T = none := (Le.new (S := S) (o := (.list [] : AO Int)) hle₂ hT).1
  have hTa : T ≠ a := ne0 hle₂ hT
  have r0 : Refs (upd S₃.σ D₂ (.list acc₂)) a (acc ++ acc₂) (stepsUp ns 0) := by
    have := (href.new (o := (.list acc₂ : AO Int)) hD₂).append (href₂.new (o := (.list acc₂ : AO Int)) hD₂)
    unfold stepsUp
    simpa using this
  have r1 : Refs (upd (upd S₃.σ D₂ (.list acc₂)) T (.list (acc ++ acc₂))) T (acc ++ acc₂) (stepsUp ns 0) :=
    r0.mono fun r p e _ => ⟨upd_le hT r _ e, fun q => by unfold HasP at e; rw [q, hT] at e; exact Mine.ns e⟩
  have hle₃ : ∀ b o, S.σ b = some o -> upd (upd S₃.σ D₂ (.list acc₂)) T (.list (acc ++ acc₂)) b = some o := fun b o e => upd_le hT b o (hle₂ b o e)
  have size : ∀ i j, i ≤ ns.length -> j ≤ ns.length -> (stepsUp ns i ++ stepRow ns i j).length ≤ 100000 := fun i j h1 h2 => by
    have hp : ∀ i j, (stepPairs ns i j).length ≤ 2 := fun i j => by unfold stepPairs; split <;> split <;> simp
    have hr : ∀ i j, (stepRow ns i j).length ≤ 2 * j := fun i j => by
      induction j with
      | zero => simp [stepRow]
      | succ j ih => rw [stepRow_succ, List.length_append]; have := hp i j; lia
    have hu : ∀ i, (stepsUp ns i).length ≤ 2 * ns.length + 2 * ns.length * i := fun i => by
      induction i with
      | zero => simp [stepsUp, pairs1, pairs2]; lia
      | succ i ih => rw [stepsUp_succ, List.length_append, Nat.mul_succ]; have := hr i ns.length; lia
    rw [List.length_append]
    have u1 := hu i
    have u2 := hr i j
    have u3 : 2 * ns.length * i ≤ 2 * ns.length * 100 := Nat.mul_le_mul_left _ (by exact Nat.le_trans ‹_› ‹_›)
    lia
  w_fin
  refine WC_range1 fun r₃ hr₃ => ?_
  let Inv_3 : Nat -> St Int -> Prop := fun i S' => S'.m (Str.ofString "ranks") = some (.ref a) /\ S'.m (Str.ofString "many") = some (.int ns.length 0) /\ S'.m (Str.ofString "steps") = some (.ref T) /\ (∃ vs, S'.σ T = some (.list vs) /\ Refs S'.σ T vs (stepsUp ns i)) /\ (∀ b o, S.σ b = some o -> S'.σ b = some o)
  refine ⟨r₃, 0, ns.length, rfl, by walk_at "w st", by exact om16, by exact om17, by exact om27 _, by exact om25 (Nat.le_trans ‹_› (by decide)), Inv_3,
    ⟨by walk_at "w lk", by walk_at "w lk", by walk_at "w lk", ⟨_, by walk_at "w st", r1.new hr₃⟩, fun b o e => upd_le hr₃ b o (hle₃ b o e)⟩, fun i S₄ hi q_ => ?_, fun S₄ q_ => ?_⟩
  · (refine el_AAAA q_ ?_; clear q_; intro hranks hmany hsteps nn_69 hle; obtain ⟨vs, hvs, href⟩ := nn_69)
    refine W_StoreS hs hx (by kernel_rfl) ?_
    rw [Int.zero_add]
    w_fin
    refine WC_range1 fun r₄ hr₄ => ?_
    let Inv_4 : Nat -> St Int -> Prop := fun j S' => S'.m (Str.ofString "ranks") = some (.ref a) /\ S'.m (Str.ofString "many") = some (.int ns.length 0) /\ S'.m (Str.ofString "steps") = some (.ref T) /\ S'.m (Str.ofString "i") = some (.int i 0) /\ (∃ vs, S'.σ T = some (.list vs) /\ Refs S'.σ T vs (stepsUp ns i ++ stepRow ns i j)) /\ (∀ b o, S.σ b = some o -> S'.σ b = some o)
    refine ⟨r₄, 0, ns.length, rfl, by walk_at "w st", by exact om16, by exact om17, by exact om27 _, by exact om25 (Nat.le_trans ‹_› (by decide)), Inv_4,
      ⟨by walk_at "w lk", by walk_at "w lk", by walk_at "w lk", by walk_at "w lk", ⟨_, by walk_at "w st", by simpa [stepRow] using href.new hr₄⟩, fun b o e => upd_le hr₄ b o (hle b o e)⟩, fun j S₅ hj q_ => ?_, fun S₅ q_ => ?_⟩
    · (refine el_AAAAA q_ ?_; clear q_; intro hranks hmany hsteps hii nn_68 hle; obtain ⟨vs, hvs, href⟩ := nn_68)
      refine W_StoreS hs hx (by kernel_rfl) ?_
      rw [Int.zero_add]
      refine WXs_cut (fun S' => S'.m (Str.ofString "ranks") = some (.ref a) /\ S'.m (Str.ofString "many") = some (.int ns.length 0) /\ S'.m (Str.ofString "steps") = some (.ref T) /\ S'.m (Str.ofString "i") = some (.int i 0) /\ S'.m (Str.ofString "j") = some (.int j 0) /\ (∃ vs, S'.σ T = some (.list vs) /\ Refs S'.σ T vs (stepsUp ns i ++ stepRow ns i j ++ (if ns.getD i 0 + 1 = ns.getD j 0 then [((ns.length : Int) + i, (ns.length : Int) + j)] else []))) /\ (∀ b o, S.σ b = some o -> S'.σ b = some o)) ?_ fun S₆ q_ => ?_
      · w_fin
        refine WSub_iL (hle _ _ ha) (by exact Int.natCast_nonneg _) (by lia) (getD_get (by exact om22 ‹_›)) ?_
        w_fin
        refine WSub_iL (hle _ _ ha) (by exact Int.natCast_nonneg _) (by lia) (getD_get (by exact om22 ‹_›)) ?_
        w_fin
        rw [Int.toNat_natCast, Int.toNat_natCast]
        by_cases q : ns.getD i 0 + 1 = ns.getD j 0
        · first | refine if_yes (by rw [q]; exact beq_self_eq_true _) ?_ | rw [if_pos (by rw [q]; exact beq_self_eq_true _)]
          w_fin
          refine ⟨T, vs, rfl, hvs, ?_⟩
          w_fin
          refine ⟨(by decide +kernel : 2 ≤ sizeLine), fun r hr => ⟨vs, by walk_at "w st", by rw [href.1, sizeLine_eq]; have := size i j (by lia) (by lia); exact Nat.le_trans ‹_› (by decide), ?_⟩⟩
          have hr : S₅.σ r = none := hr
          have hrT : r ≠ T := fun e => by rw [e, hvs] at hr; exact Mine.sn hr
          w_fin
          refine ⟨rfl, by walk_at "w lk", by walk_at "w lk", by walk_at "w lk", by walk_at "w lk", by walk_at "w lk", ⟨_, s_self, ?_⟩, fun b o e => ?_⟩
          · first | refine if_yes q ?_ | rw [if_pos q]
            exact ((href.new hr).snoc (p := ((ns.length : Int) + i, (ns.length : Int) + j)) upd_self hrT).upd
          exact (if_neg (by rintro rfl; rw [hTS] at e; exact Mine.ns e)).trans (upd_le hr b o (hle b o e))
        first | refine if_no (by intro e; exact q (eq_of_beq e)) ?_ | rw [if_neg (by intro e; exact q (eq_of_beq e))]
        w_fin
        refine ⟨rfl, by walk_at "w lk", by walk_at "w lk", by walk_at "w lk", by walk_at "w lk", by walk_at "w lk", ⟨vs, hvs, ?_⟩, hle⟩
        rw [if_neg q, List.append_nil]; exact href
      refine el_AAAAAA q_ ?_; clear q_; intro hranks hmany hsteps hii hjj nn_67 hle; obtain ⟨vs, hvs, href⟩ := nn_67
      have one : ∀ (b : Prop) [Decidable b] (x : Int × Int), (if b then [x] else []).length ≤ 1 := fun b _ x => by split <;> simp
      have skip : ¬ ((i : Int) < j /\ ns.getD i 0 < ns.getD j 0) -> Refs S₆.σ T vs (stepsUp ns i ++ stepRow ns i (j + 1)) := fun q => by
        rw [stepRow_succ]
        unfold stepPairs
        rw [if_neg q, List.append_nil, ← List.append_assoc]; exact href
      w_fin
      by_cases q : (i : Int) < j
      · rw [if_pos (decide_eq_true q)]
        w_fin
        refine WSub_iL (hle _ _ ha) (by exact Int.natCast_nonneg _) (by omega) (getD_get (by exact om22 ‹_›)) ?_
        w_fin
        refine WSub_iL (hle _ _ ha) (by exact Int.natCast_nonneg _) (by omega) (getD_get (by exact om22 ‹_›)) ?_
        w_fin
        rw [Int.toNat_natCast, Int.toNat_natCast]
        by_cases q' : ns.getD i 0 < ns.getD j 0
        · rw [if_pos (decide_eq_true q')]
          w_fin
          refine ⟨T, vs, rfl, hvs, ?_⟩
          w_fin
          refine ⟨(by decide +kernel : 2 ≤ sizeLine), fun r hr => ⟨vs, by walk_at "w st", by rw [href.1, sizeLine_eq, List.length_append]; have u1 := size i j (by omega) (by omega); have u2 := one (ns.getD i 0 + 1 = ns.getD j 0) ((ns.length : Int) + i, (ns.length : Int) + j); omega, ?_⟩⟩
          have hr : S₆.σ r = none := hr
          have hrT : r ≠ T := fun e => by rw [e, hvs] at hr; exact Mine.sn hr
          w_fin
          refine ⟨by walk_at "w lk", by walk_at "w lk", by walk_at "w lk", by walk_at "w lk", ⟨_, s_self, ?_⟩, fun b o e => ?_⟩
          · rw [stepRow_succ]
            unfold stepPairs
            rw [if_pos (show (i : Int) < j /\ ns.getD i 0 < ns.getD j 0 from ⟨q, q'⟩), ← List.append_assoc, ← List.append_assoc]
            exact ((href.new hr).snoc (p := ((ns.length : Int) + i, (j : Int))) upd_self hrT).upd
          exact (if_neg (by rintro rfl; rw [hTS] at e; exact Mine.ns e)).trans (upd_le hr b o (hle b o e))
        first | refine if_no (by simpa using q') ?_ | rw [if_neg (by simpa using q')]
        w_fin
        exact ⟨hranks, hmany, hsteps, hii, ⟨vs, hvs, skip fun e => q' e.2⟩, hle⟩
      first | refine if_no (by simpa using q) ?_ | rw [if_neg (by simpa using q)]
      w_fin
      exact ⟨hranks, hmany, hsteps, hii, ⟨vs, hvs, skip fun e => q e.1⟩, hle⟩
    refine el_AAAAA q_ ?_; clear q_; intro hranks hmany hsteps hii nn_66 hle; obtain ⟨vs, hvs, href⟩ := nn_66
    w_fin
    refine ⟨hranks, hmany, hsteps, ⟨vs, hvs, ?_⟩, hle⟩
    rw [stepsUp_succ]
    rw [e2] at href; exact href
  refine el_AAAA q_ ?_; clear q_; intro hranks hmany hsteps nn_65 hle; obtain ⟨vs, hvs, href⟩ := nn_65
  w_fin
  rw [e2] at href
  exact ⟨⟨S.m, S₄.σ⟩, Le.refl _, h T vs S₄.σ hTS hle hvs href⟩
end
end
section
section
variable {g : Gl Int} {c : Ac} {S S' : St Int} {Q : Value -> St Int -> Prop} {a b : Addr} {xs ys : List Value} {P : Params}
theorem fn_run (hK : g.K = hd.heap_1 P) : FnIs g.K 245 (bodyOf P 245) (fdOf P 245).scope (fdOf P 245) :=
  fnIs ⟨_, _, _, rfl⟩ (by kernel_rfl) rfl rfl rfl rfl hK
theorem so_run : scopeOk (fdOf P 245).scope = true := by kernel_rfl
structure Mch where
  ev : List Int
  pile : List Int
  gone : Int
  come : Int
noncomputable def Mch.top (m : Mch) : Int := m.pile.getLastD 0
noncomputable def Mch.step (ns : List Int) (m : Mch) : Mch :=
  if m.pile ≠ [] /\ ns.getD m.top.toNat 0 = m.gone then { m with ev := m.ev ++ [(ns.length : Int) + m.top], pile := m.pile.dropLast, gone := m.gone + 1 }
  else if m.come < (ns.length : Int) /\ (m.pile = [] ∨ ns.getD m.come.toNat 0 < ns.getD m.top.toNat 0) then { m with pile := m.pile ++ [m.come], ev := m.ev ++ [m.come], come := m.come + 1 }
  else m
noncomputable def runUp (ns : List Int) : Nat -> Mch
  | 0 => ⟨[], [], 0, 0⟩
  | k + 1 => (runUp ns k).step ns
noncomputable def runOf (ns : List Int) : List Int := (runUp ns (2 * ns.length)).ev
noncomputable def Mch.Ok (ns : List Int) (k : Nat) (m : Mch) : Prop := m.ev.length ≤ k /\ m.pile.length ≤ k /\ 0 ≤ m.come /\ m.come ≤ ns.length /\ ∀ t ∈ m.pile, 0 ≤ t /\ t < (ns.length : Int)
theorem runUp_ok (ns : List Int) : ∀ k, (runUp ns k).Ok ns k
  | 0 => ⟨Nat.le_refl _, Nat.le_refl _, Int.le_refl _, Int.natCast_nonneg _, fun t h => nomatch h⟩
  | k + 1 => by
    refine el_AAAA (runUp_ok ns k) ?_; intro h1 h2 h3 h4 h5
    unfold runUp Mch.step
    split
    · refine ⟨by simp; omega, by simp; lia, h3, h4, fun t h => h5 t (List.dropLast_subset _ h)⟩
    split
    · rename_i q
      refine ⟨by simp; omega, by simp; omega, by show 0 ≤ _ + 1; lia, by show _ + 1 ≤ _; lia, fun t h => ?_⟩
      rcases List.mem_append.mp h with h | h
      · exact h5 t h
      simp at h; subst h; exact ⟨h3, q.1⟩
    exact ⟨by exact om50 ‹_›, by exact om50 ‹_›, h3, h4, h5⟩
theorem pile_last {m : Mch} (h : m.pile ≠ []) : m.pile = m.pile.dropLast ++ [m.top] := by
  unfold Mch.top
  rw [List.getLastD_eq_getLast?, List.getLast?_eq_some_getLast h]
  exact (List.dropLast_concat_getLast h).symm
theorem mulSmall {x y : Int} (hx : x.natAbs < 4611686018427387904) (hy : y.natAbs < 4611686018427387904) : IntMulOk x y := IntMulOk.of_le (m := 62) (n := 62) (intBits_le_iff.mpr hx) (intBits_le_iff.mpr hy) (by decide)
theorem iL_append (l r : List Int) : iL (l ++ r) = iL l ++ iL r := List.map_append ..
structure RunS (S : St Int) (a E L : Addr) (ns : List Int) (m : Mch) (S' : St Int) : Prop where
  ranks : S'.m (Str.ofString "ranks") = some (.ref a)
  many : S'.m (Str.ofString "many") = some (.int ns.length 0)
  events : S'.m (Str.ofString "events") = some (.ref E)
  pile : S'.m (Str.ofString "pile") = some (.ref L)
  gone : S'.m (Str.ofString "gone") = some (.int m.gone 0)
  come : S'.m (Str.ofString "come") = some (.int m.come 0)
  hE : S'.σ E = some (.list (iL m.ev))
  hL : S'.σ L = some (.list (iL m.pile))
  hle : ∀ b o, S.σ b = some o -> S'.σ b = some o
theorem W_run (hK : g.K = hd.heap_1 P) (hd : c.Deep 1) {ns : List Int} (ha : S.σ a = some (.list (iL ns))) (hn : ns.length ≤ 100)
    (h : ∀ r, S.σ r = none -> Q (.ref r) ⟨S.m, upd S.σ r (.list (iL (runOf ns)))⟩) : WC g c (.ref 245) [.ref a] S Q := by
  refine WC.drop (WC_def (n := 0) hd (fn_run hK) so_run (B := [(Str.ofString "ranks", .ref a)]) (fun us hu => ?_) (by kernel_rfl) fun c' hs hx hd' => ?_)
  · (refine el_EA (map1 hu) ?_; intro u rfl_71 hu'; subst rfl_71)
    exact ⟨[(Str.ofString "ranks", u)], by kernel_rfl, by simp [hu']⟩
  refine WXs.le (S' := ⟨setv (fun _ => none) (Str.ofString "ranks") (.ref a), S.σ⟩) ?_ (Le.refl _)
  show WXs g c' (_ :: _) _ _
  w_fin
  refine WC_len ha (by rw [iL_len]; exact om26 (Nat.le_trans ‹_› (by decide))) ?_
  rw [iL_len]
  w_fin
  refine ⟨by decide +kernel, fun E hE => ?_⟩
  w_fin
  refine ⟨by decide +kernel, fun L hL => ?_⟩
  w_fin
  refine WBin_mul (mulSmall (by exact Nat.le_add_left _ _) (by exact om34 (Nat.le_trans ‹_› (by decide)))) ?_
  w_fin
  have hES : S.σ E = none := hE
  have hLS : S.σ L = none := by
    have hL : upd S.σ E (.list []) L = none := hL
    exact (Le.new (S := S) (o := (.list [] : AO Int)) (upd_le hE) hL).1
  have hEL : E ≠ L := fun e => by
    have hL : upd S.σ E (.list []) L = none := hL
    rw [← e, upd_self] at hL; exact Mine.sn hL
  have upE : ∀ {σ : Addr -> Option (AO Int)} {o : AO Int}, (∀ b o', S.σ b = some o' -> σ b = some o') -> ∀ b o', S.σ b = some o' -> upd σ E o b = some o' := fun hle b o' e => upd_other (by rintro rfl; rw [hES] at e; exact Mine.ns e) (hle b o' e)
  have upL : ∀ {σ : Addr -> Option (AO Int)} {o : AO Int}, (∀ b o', S.σ b = some o' -> σ b = some o') -> ∀ b o', S.σ b = some o' -> upd σ L o b = some o' := fun hle b o' e => upd_other (by rintro rfl; rw [hLS] at e; exact Mine.ns e) (hle b o' e)
  refine WC_range1 fun r hr => ?_
  let Inv_1 : Nat -> St Int -> Prop := fun k S' => RunS S a E L ns (runUp ns k) S'
  refine ⟨r, 0, 2 * ns.length, rfl, by walk_at "w st", by exact om16, by exact om17, by exact om27 _, by lia, Inv_1,
    ⟨by walk_at "w lk", by walk_at "w lk", by walk_at "w lk", by walk_at "w lk", by walk_at "w lk", by walk_at "w lk", upd_le hr E _ (upd_le hL E _ upd_self), upd_le hr L _ upd_self, fun b o e => upd_le hr b o (upd_le hL b o (upd_le hE b o e))⟩, fun k S₁ hk hR => ?_, fun S₁ hR => ?_⟩
  · refine W_StoreS hs hx (by kernel_rfl) ?_
    refine el_AAAA (runUp_ok ns k) ?_; intro o1 o2 o3 o4 o5
    have hsucc : runUp ns (k + 1) = (runUp ns k).step ns := rfl
    have hR : RunS S a E L ns (runUp ns k) S₁ := hR
    generalize hm : runUp ns k = m at *
    rw [Int.zero_add]
    have hR : RunS S a E L ns m ⟨setv S₁.m (Str.ofString "turn") (.int k 0), S₁.σ⟩ := (let ⟨h1, h2, h3, h4, h5, h6, h7, h8, h9⟩ := hR; ⟨by walk_at "w lk", by walk_at "w lk", by walk_at "w lk", by walk_at "w lk", by walk_at "w lk", by walk_at "w lk", h7, h8, h9⟩)
    revert hR
    generalize (⟨setv S₁.m (Str.ofString "turn") (.int k 0), S₁.σ⟩ : St Int) = S₂
    intro hR
    have nil : ((iL m.pile).isEmpty = true) ↔ m.pile = [] := by unfold iL; simp
    have lastAt : m.pile ≠ [] -> (iL m.pile)[((-1 : Int) + (iL m.pile).length).toNat]? = some (.int m.top 0) := fun q => by
      have e := pile_last q
      have hl : (iL m.pile).length = m.pile.dropLast.length + 1 := by
        rw [iL_len]
        have := congrArg List.length e
        rw [List.length_append] at this
        exact this
      have e2 : ((-1 : Int) + (iL m.pile).length).toNat = m.pile.dropLast.length := by rw [hl]; lia
      rw [e2]
      apply iL_get
      rw [e]
      simp
    have topOk : m.pile ≠ [] -> 0 ≤ m.top /\ m.top < (ns.length : Int) := fun q => o5 m.top (by rw [pile_last q]; simp)
    have lenPos : m.pile ≠ [] -> (iL m.pile).length ≥ 1 := fun q => by rw [iL_len]; cases hq : m.pile with | nil => exact absurd hq q | cons x l => simp
    have keep : ∀ {S₃ : St Int} {D : Addr} {o : AO Int}, RunS S a E L ns m S₃ -> S₃.σ D = none -> RunS S a E L ns m ⟨S₃.m, upd S₃.σ D o⟩ := fun hR hD => (let ⟨h1, h2, h3, h4, h5, h6, h7, h8, h9⟩ := hR; ⟨h1, h2, h3, h4, h5, h6, upd_le hD _ _ h7, upd_le hD _ _ h8, fun b o e => upd_le hD b o (h9 b o e)⟩)
    refine WXs_consL ?_
    intro Q_
    refine WX_IfC (m.pile ≠ [] /\ ns.getD m.top.toNat 0 = m.gone) (RunS S a E L ns m) ?_ (fun hC S₃ hR => ?_) (fun hC S₃ hR => ?_)
    · obtain ⟨hranks, hmany, hev, hpi, hgone, hcome, hE₁, hL₁, hle⟩ := id hR
      w_fin
      refine ⟨by decide +kernel, fun N₁ hN₁ => ?_⟩
      refine WCmp_neNil (by walk_at "w st") (by walk_at "w st") ?_
      w_fin
      by_cases q1 : m.pile = []
      · first | refine if_no (by rw [nil.mpr q1]; simp) ?_ | rw [if_neg (by rw [nil.mpr q1]; simp)]
        exact ⟨⟨(fun e => nomatch e), fun e => absurd q1 e.1⟩, keep hR hN₁⟩
      first | refine if_yes (by rw [Bool.not_eq_true']; exact Bool.eq_false_iff.mpr fun e => q1 (nil.mp e)) ?_ | rw [if_pos (by rw [Bool.not_eq_true']; exact Bool.eq_false_iff.mpr fun e => q1 (nil.mp e))]
      w_fin
      refine WSub_neg (by walk_at "w st") (by exact Int.natCast_nonneg _) (by have := lenPos q1; lia) (by exact Int.natCast_nonneg _) (lastAt q1) ?_
      have tk := topOk q1
      refine WSub_iL (by have := hle _ _ ha; walk_at "w st") (by omega) (by lia) (getD_get (by lia)) ?_
      w_fin
      by_cases q2 : ns.getD m.top.toNat 0 = m.gone
      · first | refine if_yes (by rw [q2]; exact beq_self_eq_true _) ?_ | rw [if_pos (by rw [q2]; exact beq_self_eq_true _)]
        w_fin
        exact ⟨⟨fun _ => ⟨q1, q2⟩, fun _ => rfl⟩, keep hR hN₁⟩
      first | refine if_no (by intro e; exact q2 (eq_of_beq e)) ?_ | rw [if_neg (by intro e; exact q2 (eq_of_beq e))]
      exact ⟨⟨(fun e => nomatch e), fun e => absurd e.2 q2⟩, keep hR hN₁⟩
    · have hs1 : runUp ns (k + 1) = { m with ev := m.ev ++ [(ns.length : Int) + m.top], pile := m.pile.dropLast, gone := m.gone + 1 } := by rw [hsucc]; unfold Mch.step; rw [if_pos hC]
      obtain ⟨hranks, hmany, hev, hpi, hgone, hcome, hE₁, hL₁, hle⟩ := hR
      have hL₂ : S₃.σ L = some (.list (iL m.pile.dropLast ++ [.int m.top 0])) := by
        have e := hL₁
        rw [pile_last hC.1, iL_append] at e
        exact e
      w_fin
      refine ⟨E, _, rfl, hE₁, ?_⟩
      w_fin
      refine ⟨L, _, _, rfl, hL₂, by rw [iL_len, sizeLine_eq, List.length_dropLast]; lia, ?_⟩
      w_fin
      refine ⟨_, (if_neg hEL).trans hE₁, by rw [iL_len, sizeLine_eq]; lia, ?_⟩
      w_fin
      show RunS S a E L ns (runUp ns (k + 1)) _
      rw [hs1]
      refine ⟨by walk_at "w lk", by walk_at "w lk", by walk_at "w lk", by walk_at "w lk", by walk_at "w lk", by walk_at "w lk", ?_, ?_, upE (upL hle)⟩
      · rw [show iL (m.ev ++ [(ns.length : Int) + m.top]) = iL m.ev ++ [.int ((ns.length : Int) + m.top) 0] from iL_append _ _]
        exact s_self
      exact (if_neg (Ne.symm hEL)).trans upd_self
    refine WXs_consL ?_
    intro Q_
    refine WX_IfC (m.come < (ns.length : Int) /\ (m.pile = [] ∨ ns.getD m.come.toNat 0 < ns.getD m.top.toNat 0)) (RunS S a E L ns m) ?_ (fun hC' S₄ hR => ?_) (fun hC' S₄ hR => ?_)
    · obtain ⟨hranks, hmany, hev, hpi, hgone, hcome, hE₁, hL₁, hle⟩ := id hR
      w_fin
      by_cases q0 : m.come < (ns.length : Int)
      · rw [if_pos (decide_eq_true q0)]
        w_fin
        refine ⟨by decide +kernel, fun N₁ hN₁ => ?_⟩
        refine WCmp_eqNil (by walk_at "w st") (by walk_at "w st") ?_
        w_fin
        by_cases q1 : m.pile = []
        · rw [if_pos (nil.mpr q1)]
          w_fin
          exact ⟨⟨fun _ => ⟨q0, .inl q1⟩, fun _ => rfl⟩, keep hR hN₁⟩
        rw [if_neg (fun e => q1 (nil.mp e))]
        w_fin
        refine WSub_iL (by have := hle _ _ ha; walk_at "w st") (by omega) (by lia) (getD_get (by exact om07 ‹_› ‹_›)) ?_
        w_fin
        refine WSub_neg (by walk_at "w st") (by exact Int.natCast_nonneg _) (by have := lenPos q1; omega) (by exact Int.natCast_nonneg _) (lastAt q1) ?_
        have tk := topOk q1
        refine WSub_iL (by have := hle _ _ ha; walk_at "w st") (by omega) (by omega) (getD_get (by omega)) ?_
        w_fin
        by_cases q2 : ns.getD m.come.toNat 0 < ns.getD m.top.toNat 0
        · rw [if_pos (decide_eq_true q2)]
          w_fin
          exact ⟨⟨fun _ => ⟨q0, .inr q2⟩, fun _ => rfl⟩, keep hR hN₁⟩
        first | refine if_no (by simpa using q2) ?_ | rw [if_neg (by simpa using q2)]
        w_fin
        exact ⟨⟨(fun e => nomatch e), fun e => e.2.elim (fun e => absurd e q1) (fun e => absurd e q2)⟩, keep hR hN₁⟩
      first | refine if_no (by simpa using q0) ?_ | rw [if_neg (by simpa using q0)]
      exact ⟨⟨(fun e => nomatch e), fun e => absurd e.1 q0⟩, hR⟩
    · have hs1 : runUp ns (k + 1) = { m with pile := m.pile ++ [m.come], ev := m.ev ++ [m.come], come := m.come + 1 } := by rw [hsucc]; unfold Mch.step; rw [if_neg hC, if_pos hC']
      obtain ⟨hranks, hmany, hev, hpi, hgone, hcome, hE₁, hL₁, hle⟩ := hR
      w_fin
      refine ⟨L, _, rfl, hL₁, ?_⟩
      w_fin
      refine ⟨_, hL₁, by rw [iL_len, sizeLine_eq]; lia, ?_⟩
      w_fin
      refine ⟨E, _, rfl, (if_neg hEL).trans hE₁, ?_⟩
      w_fin
      refine ⟨_, (if_neg hEL).trans hE₁, by rw [iL_len, sizeLine_eq]; omega, ?_⟩
      w_fin
      show RunS S a E L ns (runUp ns (k + 1)) _
      rw [hs1]
      refine ⟨by walk_at "w lk", by walk_at "w lk", by walk_at "w lk", by walk_at "w lk", by walk_at "w lk", by walk_at "w lk", ?_, ?_, upE (upL hle)⟩
      · rw [show iL (m.ev ++ [m.come]) = iL m.ev ++ [.int m.come 0] from iL_append _ _]
        exact s_self
      rw [show iL (m.pile ++ [m.come]) = iL m.pile ++ [.int m.come 0] from iL_append _ _]
      exact (if_neg (Ne.symm hEL)).trans upd_self
    have hs1 : runUp ns (k + 1) = m := by rw [hsucc]; unfold Mch.step; rw [if_neg hC, if_neg hC']
    w_fin
    show RunS S a E L ns (runUp ns (k + 1)) _
    rw [hs1]; exact hR
  obtain ⟨hranks, hmany, hev, hpi, hgone, hcome, hE₁, hL₁, hle⟩ := hR
  have : ((2 : Int) * ns.length - 0).toNat = 2 * ns.length := by exact Nat.sub_zero _
  rw [this] at hE₁
  w_fin
  refine ⟨⟨S.m, upd S.σ E (.list (iL (runOf ns)))⟩, ⟨fun _ _ e => e, fun b o e => ?_⟩, h E hES⟩
  have e : upd S.σ E _ b = some o := e
  unfold upd at e
  by_cases q : b = E
  · rw [if_pos q] at e; (replace e := Option.some.inj e; subst e); rw [q]; exact hE₁
  rw [if_neg q] at e; exact hle b o e
end
end
section
section
variable {g : Gl Int} {c : Ac} {S S' : St Int} {Q : Value -> St Int -> Prop} {a b : Addr} {xs ys : List Value} {P : Params}
theorem fn_rings (hK : g.K = hd.heap_1 P) : FnIs g.K 231 (bodyOf P 231) (fdOf P 231).scope (fdOf P 231) :=
  fnIs ⟨_, _, _, rfl⟩ (by kernel_rfl) rfl rfl rfl rfl hK
theorem so_rings : scopeOk (fdOf P 231).scope = true := by kernel_rfl
structure RingOk (q : List Int) (ps : List (Int × Int)) : Prop where
  two : 2 ≤ q.length
  closed : q.getD 0 0 = q.getD (q.length - 1) 0
  steps : ∀ i, i + 1 < q.length -> (q.getD i 0, q.getD (i + 1) 0) ∈ ps
  once : ∀ i j, i < j -> j + 1 < q.length -> q.getD i 0 ≠ q.getD j 0
noncomputable def aroundOf (q : List Int) (k : Nat) : List (Int × Int) := (List.range k).map fun i => (q.getD i 0, q.getD (i + 1) 0)
theorem EqW.pair {x y : Addr} {p p' : Int × Int} (hx : HasP S.σ x p) (hy : HasP S.σ y p') (hne : x ≠ y) : EqW g S 1 (.ref x) (.ref y) (p.1 == p'.1 && p.2 == p'.2) := by
  have := EqW.lists (k := 0) (e := fun j => if j = 0 then p.1 == p'.1 else p.2 == p'.2) hx hy hne rfl (fun j u v h1 h2 => by
    match j, h1, h2 with
    | 0, h1, h2 => (replace h1 := Option.some.inj h1; subst h1); (replace h2 := Option.some.inj h2; subst h2); exact EqW.int _ _
    | 1, h1, h2 => (replace h1 := Option.some.inj h1; subst h1); (replace h2 := Option.some.inj h2; subst h2); exact EqW.int _ _
    | j + 2, h1, _ => exact Mine.ns h1) (g := g)
  simpa [List.range, List.range.loop] using this
theorem W_rings (hK : g.K = hd.heap_1 P) (hd : c.Deep 1) {q : List Int} {ps : List (Int × Int)} {T : Addr} {vs : List Value} (ha : S.σ a = some (.list (iL q))) (hT : S.σ T = some (.list vs)) (hps : Refs S.σ T vs ps) (hq : q.length ≤ 1000) (ok : RingOk q ps) (hps' : ps.length ≤ 1000000)
    (h : Q (.bool true) S) : WC g c (.ref 231) [.ref a, .ref T] S Q := by
  refine WC.drop (WC_def (n := 0) hd (fn_rings hK) so_rings (B := [(Str.ofString "ring", .ref a), (Str.ofString "steps", .ref T)]) (fun us hu => ?_) (by kernel_rfl) fun c' hs hx hd' => ?_)
  · (refine el_EEAA (map2 hu) ?_; intro u u' rfl_74 hu1 hu2; subst rfl_74)
    exact ⟨[(Str.ofString "ring", u), (Str.ofString "steps", u')], by kernel_rfl, by simp [hu1, hu2]⟩
  refine WXs.le (S' := ⟨setv (setv (fun _ => none) (Str.ofString "ring") (.ref a)) (Str.ofString "steps") (.ref T), S.σ⟩) ?_ (Le.refl _)
  show WXs g c' (_ :: _) _ _
  have t2 := ok.two
  w_fin
  refine WX_CompR (fun _ _ => rfl) hs (by kernel_rfl) (by kernel_rfl) (by kernel_rfl) hx (by kernel_rfl) (by kernel_rfl) ?_
  w_fin
  refine WC_len ha (by rw [iL_len]; exact om26 (Nat.le_trans ‹_› (by decide))) ?_
  rw [iL_len]
  w_fin
  refine WC_range1 fun r₁ hr₁ => ?_
  have isNew : ∀ {σ : Addr -> Option (AO Int)} {r : Addr}, (∀ b o, S.σ b = some o -> σ b = some o) -> σ r = none -> S.σ r = none := fun hle hr => (Le.new (S := S) (o := (.list [] : AO Int)) hle hr).1
  let Inv_1 : Nat -> List Value -> St Int -> Prop := fun i acc S' => S'.m (Str.ofString "ring") = some (.ref a) /\ Refs S'.σ a acc (aroundOf q i) /\ (∀ (j : Nat) v, acc[j]? = some v -> ∃ r, v = Value.ref r /\ S.σ r = none) /\ (∀ b o, S.σ b = some o -> S'.σ b = some o)
  refine ⟨r₁, 0, (q.length : Int) - 1, rfl, by walk_at "w st", by exact om16, by exact om17, by lia, by lia, by rw [sizeLine_eq]; lia, Inv_1,
    ⟨by walk_at "w lk", Refs.nil, fun j v e => by simp at e, upd_le hr₁⟩, fun i acc S₂ hI => by rw [hI.2.1.1]; unfold aroundOf; simp, fun c₁ hs₁ hx₁ hd₁ i acc S₂ hi q_ => ?_, fun acc S₂ ⟨hring, href, hnew, hle⟩ D hD => ?_⟩
  · (refine el_AAA q_ ?_; clear q_; intro hring href hnew hle)
    rw [Int.zero_add]
    w_fin
    refine WSub_iL (hle _ _ ha) (by exact Int.natCast_nonneg _) (by lia) (getD_get (by lia)) ?_
    w_fin
    refine WSub_iL (hle _ _ ha) (by exact Int.natCast_nonneg _) (by lia) (getD_get (by lia)) ?_
    w_fin
    have e1 : ((i : Int) + 1).toNat = i + 1 := by exact Nat.sub_zero _
    rw [Int.toNat_natCast, e1]
    refine ⟨(by decide +kernel : 2 ≤ sizeLine), fun r hr => ⟨by walk_at "w lk", ?_, fun j v e => ?_, fun b o e => upd_le hr b o (hle b o e)⟩⟩
    · have hra : r ≠ a := fun e => by have := hle _ _ ha; rw [← e] at this; exact absurd (this.symm.trans hr) (by simp)
      have := (href.new (o := .list [.int (q.getD i 0) 0, .int (q.getD (i + 1) 0) 0]) hr).snoc (p := (q.getD i 0, q.getD (i + 1) 0)) upd_self hra
      unfold aroundOf at this ⊢
      rw [List.range_succ, List.map_append]
      exact this
    by_cases w : j < acc.length
    · rw [List.getElem?_append_left w] at e; exact hnew j v e
    rw [List.getElem?_append_right (by exact Nat.not_lt.mp ‹_›)] at e
    match hj : j - acc.length, e with
    | 0, e => simp at e; exact ⟨r, e.symm, isNew hle hr⟩
    | k + 1, e => simp at e
  have e1 : ((q.length : Int) - 1 - 0).toNat = q.length - 1 := by (simp)
  rw [e1] at href
  have hl : acc.length = q.length - 1 := by rw [href.1]; unfold aroundOf; simp
  have hDS := isNew hle hD
  have href₁ := href.new (o := (.list acc : AO Int)) hD
  have hle₁ : ∀ b o, S.σ b = some o -> upd S₂.σ D (.list acc) b = some o := fun b o e => upd_le hD b o (hle b o e)
  w_fin
  refine ⟨by decide +kernel, fun N₁ hN₁ => ?_⟩
  refine WCmp_eqNil (xs := acc) (by walk_at "w st") (by walk_at "w st") ?_
  have hacc : acc.isEmpty = false := by cases acc with | nil => simp at hl; lia | cons x l => rfl
  rw [hacc]
  w_fin
  have hle₂ : ∀ b o, S.σ b = some o -> upd (upd S₂.σ D (.list acc)) N₁ (.list []) b = some o := fun b o e => upd_le hN₁ b o (hle₁ b o e)
  refine WSub_iL (hle₂ _ _ ha) (by exact Int.natCast_nonneg _) (by exact Int.natCast_nonneg _) (getD_get (by exact Nat.le_of_lt ‹_›)) ?_
  w_fin
  refine WSub_neg (hle₂ _ _ ha) (by exact Int.natCast_nonneg _) (by rw [iL_len]; lia) (by exact Int.natCast_nonneg _) (iL_get (k := q.getD (q.length - 1) 0) (by
    have : ((-1 : Int) + (iL q).length).toNat = q.length - 1 := by rw [iL_len]; exact om47 ‹_›
    rw [this]; exact getD_get (by lia))) ?_
  w_fin
  rw [show q.getD (0 : Int).toNat 0 = q.getD 0 0 from rfl, ok.closed, if_neg (by simp)]
  w_fin
  have sT : ∀ {σ : Addr -> Option (AO Int)}, (∀ b o, S.σ b = some o -> σ b = some o) -> Refs σ T vs ps := fun hle => hps.mono fun r p e n => ⟨hle r _ e, n⟩
  refine WE_Comp (fun _ _ => rfl) hs (by kernel_rfl) (by kernel_rfl) (by kernel_rfl) ?_
  w_fin
  let Inv_2 : Nat -> List Value -> St Int -> Prop := fun i acc' S' => acc' = [] /\ S'.m (Str.ofString "steps") = some (.ref T) /\ S'.σ D = some (.list acc) /\ Refs S'.σ a acc (aroundOf q (q.length - 1)) /\ (∀ b o, S.σ b = some o -> S'.σ b = some o)
  refine ⟨acc, _, iter_list (by walk_at "w st"), Inv_2,
    ⟨rfl, by walk_at "w lk", by walk_at "w st", href₁.new hN₁, hle₂⟩, fun i acc' S' hI => ⟨hI.2.2.1, by rw [hI.1]; exact Nat.zero_le _⟩, by rw [hl, sizeLine_eq]; lia, fun c₂ hs₂ hx₂ hd₂ i y acc' S₃ hy q_ => ?_, fun acc' S₃ ⟨e0, hst, hDl, href, hle⟩ D₂ hD₂ => ?_⟩
  · (refine el_AAAA q_ ?_; clear q_; intro e0 hst hDl href hle)
    have hi : i < q.length - 1 := by rw [← hl]; exact (List.getElem?_eq_some_iff.mp hy).1
    have hp : (aroundOf q (q.length - 1))[i]? = some (q.getD i 0, q.getD (i + 1) 0) := by
      unfold aroundOf
      rw [List.getElem?_map, List.getElem?_range hi]; rfl
    refine el_EAA (href.2 i _ hp) ?_; intro r e1 hr _
    refine el_EA (hnew i y hy) ?_; intro r' e2 hrn
    have er' : r' = r := by rw [hy] at e1; (replace e1 := Option.some.inj e1; subst e1); (replace e2 := PySem.Value.ref.inj e2; subst e2); rfl
    subst er'
    subst e2
    have hin := ok.steps i (by lia)
    generalize hpe : ((q.getD i 0, q.getD (i + 1) 0) : Int × Int) = p at hr hin
    w_fin
    refine WCmp_notInL (k := 1) (e := fun v => @decide (∃ r'', v = Value.ref r'' /\ HasP S.σ r'' p) (Classical.propDecidable _)) (hle T _ hT) (by decide) (fun v hv => ?_) ?_
    · (refine el_E (List.getElem?_of_mem hv) ?_; intro j hj)
      have hjl : j < ps.length := by rw [← hps.1]; exact (List.getElem?_eq_some_iff.mp hj).1
      refine el_EAA (hps.2 j _ (List.getElem?_eq_getElem hjl)) ?_; intro r₂ e3 hr₂ _
      rw [hj] at e3
      (replace e3 := Option.some.inj e3; subst e3)
      have hne : r₂ ≠ r' := fun e => by unfold HasP at hr₂; rw [e, hrn] at hr₂; exact Mine.ns hr₂
      have := EqW.pair (g := g) (S := ⟨setv S₃.m (Str.ofString "step") (.ref r'), S₃.σ⟩) (hle _ _ hr₂) hr hne
      have eqb : ((ps[j]).1 == p.1 && (ps[j]).2 == p.2) = @decide (∃ r'', Value.ref r₂ = Value.ref r'' /\ HasP S.σ r'' p) (Classical.propDecidable _) := ?_
      · rw [← eqb]; exact this
      by_cases w : ps[j] = p
      · rw [w, @decide_eq_true _ (Classical.propDecidable _) (⟨r₂, rfl, w ▸ hr₂⟩ : ∃ r'', Value.ref r₂ = Value.ref r'' /\ HasP S.σ r'' p)]
        simp
      rw [@decide_eq_false _ (Classical.propDecidable _) (fun ⟨r'', e4, h4⟩ => w (by
        (replace e4 := PySem.Value.ref.inj e4; subst e4)
        unfold HasP at hr₂ h4
        rw [hr₂] at h4
        simp only [Option.some.injEq, AO.list.injEq, List.cons.injEq, Value.int.injEq, and_true] at h4
        exact Prod.ext h4.1 h4.2) : ¬ ∃ r'', Value.ref r₂ = Value.ref r'' /\ HasP S.σ r'' p)]
      rw [Bool.and_eq_false_iff]
      by_cases w1 : ps[j].1 = p.1
      · right; exact beq_eq_false_iff_ne.mpr fun w2 => w (Prod.ext w1 w2)
      left; exact beq_eq_false_iff_ne.mpr w1
    have any : (vs.any fun v => @decide (∃ r'', v = Value.ref r'' /\ HasP S.σ r'' p) (Classical.propDecidable _)) = true := by
      refine el_E (List.getElem?_of_mem hin) ?_; intro j hj
      refine el_EAA (hps.2 j _ hj) ?_; intro r₂ e3 hr₂ _
      rw [List.any_eq_true]
      exact ⟨_, List.mem_of_getElem? e3, @decide_eq_true _ (Classical.propDecidable _) ⟨r₂, rfl, hr₂⟩⟩
    rw [any]
    w_fin
    exact ⟨e0, by walk_at "w lk", hDl, href, hle⟩
  subst e0
  have href₃ := href.new (o := (.list [] : AO Int)) hD₂
  have hle₃ : ∀ b o, S.σ b = some o -> upd S₃.σ D₂ (.list []) b = some o := fun b o e => upd_le hD₂ b o (hle b o e)
  w_fin
  refine ⟨by decide +kernel, fun N₂ hN₂ => ?_⟩
  refine WCmp_neNil (xs := []) (by walk_at "w st") (by walk_at "w st") ?_
  w_fin
  rw [show (!([] : List Value).isEmpty) = false from rfl, if_neg Bool.false_ne_true]
  w_fin
  have hle₄ : ∀ b o, S.σ b = some o -> upd (upd S₃.σ D₂ (.list [])) N₂ (.list []) b = some o := fun b o e => upd_le hN₂ b o (hle₃ b o e)
  refine WE_CompR (fun _ _ => rfl) hs (by kernel_rfl) (by kernel_rfl) (by kernel_rfl) ?_
  w_fin
  refine WC_len (xs := acc) (by walk_at "w st") (by omega) ?_
  rw [hl]
  w_fin
  refine WC_range1 fun r₂ hr₂ => ?_
  let Inv_3 : Nat -> List Value -> St Int -> Prop := fun i acc' S' => acc' = [] /\ S'.m (Str.ofString "ring") = some (.ref a) /\ (∀ b o, S.σ b = some o -> S'.σ b = some o)
  refine ⟨r₂, 0, ((q.length - 1 : Nat) : Int), rfl, by walk_at "w st", by exact om16, by exact om17, by exact om27 _, by omega, by rw [sizeLine_eq]; lia, Inv_3,
    ⟨rfl, by walk_at "w lk", fun b o e => upd_le hr₂ b o (hle₄ b o e)⟩, fun i acc' S' hI => by rw [hI.1]; exact Nat.zero_le _, fun c₃ hs₃ hx₃ hd₃ i acc' S₄ hi q_ => ?_, fun acc' S₄ ⟨e0, hring, hle₅⟩ D₃ hD₃ => ?_⟩
  · (refine el_AA q_ ?_; clear q_; intro e0 hring hle₅)
    rw [Int.zero_add]
    have hqa := hle₅ _ _ ha
    w_fin
    refine WSub_iL hqa (by exact Int.natCast_nonneg _) (by lia) (getD_get (by lia)) ?_
    rw [Int.toNat_natCast]
    refine WE_SliceL ?_
    w_fin
    refine ⟨a, rfl, WPart_none (WPart_some ?_)⟩
    w_fin
    refine ⟨_, rfl, iL q, .inl (by walk_at "w st"), by rw [iL_len, sizeLine_eq]; exact Nat.le_trans ‹_› (by decide), fun D₄ hD₄ => ?_⟩
    have hpick : pickL (iL q) none (some (i : Int)) = iL (q.take i) := by
      unfold pickL
      simp only [Option.elim_none, Option.elim_some, List.drop_zero, Nat.sub_zero]
      have : clipAt (iL q).length (i : Int) = i := by unfold clipAt; rw [iL_len, if_neg (by (simp))]; exact om04 (Nat.le_of_lt (Nat.lt_of_lt_of_le (om22 ‹_›) (Nat.sub_le _ _)))
      rw [this]
      unfold iL
      rw [List.map_take]
    rw [hpick]
    refine WCmp_inL (k := 0) (e := fun v => v == .int (q.getD i 0) 0) (by walk_at "w st") (by decide) (fun v hv => ?_) ?_
    · (refine el_EA (List.mem_map.mp hv) ?_; intro j hj rfl_73; subst rfl_73)
      have : ((Value.int j 0) == Value.int (q.getD i 0) 0) = (j == q.getD i 0) := by
        by_cases w : j = q.getD i 0
        · subst w; simp
        have w' : (Value.int j 0) ≠ Value.int (q.getD i 0) 0 := fun e => w (by cases e; rfl)
        rw [beq_eq_false_iff_ne.mpr w, beq_eq_false_iff_ne.mpr w']
      rw [this]
      exact EqW.int _ _
    have any : ((iL (q.take i)).any fun v => v == .int (q.getD i 0) 0) = false := by
      rw [List.any_eq_false]
      intro v hv
      refine el_EA (List.mem_map.mp hv) ?_; intro j hj rfl_72; subst rfl_72
      obtain ⟨k, hk, hkj⟩ := List.mem_take_iff_getElem.mp hj
      have := ok.once k i (by exact om30 ‹_›) (by lia)
      intro e
      have e : Value.int j 0 = .int (q.getD i 0) 0 := eq_of_beq e
      cases e
      apply this
      rw [← hkj, List.getD_eq_getElem?_getD, List.getElem?_eq_getElem (by exact om31 ‹_›)]; rfl
    rw [any]
    w_fin
    exact ⟨e0, by walk_at "w lk", fun b o e => upd_le hD₄ b o (hle₅ b o e)⟩
  subst e0
  w_fin
  refine ⟨by decide +kernel, fun N₃ hN₃ => ?_⟩
  refine WCmp_eqNil (xs := []) (by walk_at "w st") (by walk_at "w st") ?_
  exact ⟨S, ⟨fun _ _ e => e, fun b o e => upd_le hN₃ b o (upd_le hD₃ b o (hle₅ b o e))⟩, h⟩
end
end
section
section
variable {g : Gl Int} {c : Ac} {S S' : St Int} {Q : Value -> St Int -> Prop} {a b : Addr} {xs ys : List Value} {P : Params}
theorem ownA (hK : g.K = hd.heap_1 P) {x : Str} (h : ownAttr (Mine.hd.heap_1 P) 137 x = true) : ownAttr g.K 137 x = true := by rw [hK]; exact h
section
variable {kv : Int -> Value} {A : SA Int} {G : SG Int} {fr : Addr -> Option (AO Int)} {k : Int}
theorem G_n2i (hK : g.K = hd.heap_1 P) (s : SrtF 137 40 kv A G a fr S.σ) (h : Q (.ref A.D) S) : WGet g c (.ref a) (Str.ofString "_node2info") S Q :=
  let ⟨_, h1, h2⟩ := s.s.ns
  WGet_own (ownA hK (by kernel_rfl)) s.s.inst h1 h2.n2i rfl h
theorem G_rdy (hK : g.K = hd.heap_1 P) (s : SrtF 137 40 kv A G a fr S.σ) (h : Q (rdyV A G) S) : WGet g c (.ref a) (Str.ofString "_ready_nodes") S Q :=
  let ⟨_, h1, h2⟩ := s.s.ns
  WGet_own (ownA hK (by kernel_rfl)) s.s.inst h1 h2.rdy (by unfold rdyV; cases G.ready <;> rfl) h
theorem G_po (hK : g.K = hd.heap_1 P) (s : SrtF 137 40 kv A G a fr S.σ) (h : Q (.int G.po 0) S) : WGet g c (.ref a) (Str.ofString "_npassedout") S Q :=
  let ⟨_, h1, h2⟩ := s.s.ns
  WGet_own (ownA hK (by kernel_rfl)) s.s.inst h1 h2.po rfl h
theorem G_nf (hK : g.K = hd.heap_1 P) (s : SrtF 137 40 kv A G a fr S.σ) (h : Q (.int G.nf 0) S) : WGet g c (.ref a) (Str.ofString "_nfinished") S Q :=
  let ⟨_, h1, h2⟩ := s.s.ns
  WGet_own (ownA hK (by kernel_rfl)) s.s.inst h1 h2.nf rfl h
theorem fn_of (hK : g.K = hd.heap_1 P) {x : Str} {f : Addr} (h1 : plainGet (Mine.hd.heap_1 P) 137 x = true) (h2 : findIn (Mine.hd.heap_1 P) (.ref 137) x = some (some (.ref f))) (h3 : isFn (Mine.hd.heap_1 P) (.ref f) = true)
    (s : SrtF 137 40 kv A G a fr S.σ) (hx : x ≠ n_n2i /\ x ≠ n_rdy /\ x ≠ n_po /\ x ≠ n_nf) {Q : Value -> List Value -> St Int -> Prop} (h : Q (.ref f) [.ref a] S) : WGM g c (.ref a) x S Q :=
  let ⟨_, k1, k2⟩ := s.s.ns
  WGM_inst (by rw [hK]; exact h1) (by rw [hK]; exact h2) (by rw [hK]; exact h3) s.s.inst k1 (k2.out x hx.1 hx.2.1 hx.2.2.1 hx.2.2.2) h
theorem M_get_nodeinfo (hK : g.K = hd.heap_1 P) (s : SrtF 137 40 kv A G a fr S.σ) {Q : Value -> List Value -> St Int -> Prop} (h : Q (.ref 80) [.ref a] S) : WGM g c (.ref a) (Str.ofString "_get_nodeinfo") S Q :=
  fn_of hK (by kernel_rfl) (by kernel_rfl) (by kernel_rfl) s (by unfold n_n2i n_rdy n_po n_nf; decide +kernel) h
theorem M_add (hK : g.K = hd.heap_1 P) (s : SrtF 137 40 kv A G a fr S.σ) {Q : Value -> List Value -> St Int -> Prop} (h : Q (.ref 87) [.ref a] S) : WGM g c (.ref a) (Str.ofString "add") S Q :=
  fn_of hK (by kernel_rfl) (by kernel_rfl) (by kernel_rfl) s (by unfold n_n2i n_rdy n_po n_nf; decide +kernel) h
theorem M_prepare (hK : g.K = hd.heap_1 P) (s : SrtF 137 40 kv A G a fr S.σ) {Q : Value -> List Value -> St Int -> Prop} (h : Q (.ref 92) [.ref a] S) : WGM g c (.ref a) (Str.ofString "prepare") S Q :=
  fn_of hK (by kernel_rfl) (by kernel_rfl) (by kernel_rfl) s (by unfold n_n2i n_rdy n_po n_nf; decide +kernel) h
theorem M_get_ready (hK : g.K = hd.heap_1 P) (s : SrtF 137 40 kv A G a fr S.σ) {Q : Value -> List Value -> St Int -> Prop} (h : Q (.ref 99) [.ref a] S) : WGM g c (.ref a) (Str.ofString "get_ready") S Q :=
  fn_of hK (by kernel_rfl) (by kernel_rfl) (by kernel_rfl) s (by unfold n_n2i n_rdy n_po n_nf; decide +kernel) h
theorem M_is_active (hK : g.K = hd.heap_1 P) (s : SrtF 137 40 kv A G a fr S.σ) {Q : Value -> List Value -> St Int -> Prop} (h : Q (.ref 106) [.ref a] S) : WGM g c (.ref a) (Str.ofString "is_active") S Q :=
  fn_of hK (by kernel_rfl) (by kernel_rfl) (by kernel_rfl) s (by unfold n_n2i n_rdy n_po n_nf; decide +kernel) h
theorem M_done (hK : g.K = hd.heap_1 P) (s : SrtF 137 40 kv A G a fr S.σ) {Q : Value -> List Value -> St Int -> Prop} (h : Q (.ref 120) [.ref a] S) : WGM g c (.ref a) (Str.ofString "done") S Q :=
  fn_of hK (by kernel_rfl) (by kernel_rfl) (by kernel_rfl) s (by unfold n_n2i n_rdy n_po n_nf; decide +kernel) h
theorem M_find_cycle (hK : g.K = hd.heap_1 P) (s : SrtF 137 40 kv A G a fr S.σ) {Q : Value -> List Value -> St Int -> Prop} (h : Q (.ref 127) [.ref a] S) : WGM g c (.ref a) (Str.ofString "_find_cycle") S Q :=
  fn_of hK (by kernel_rfl) (by kernel_rfl) (by kernel_rfl) s (by unfold n_n2i n_rdy n_po n_nf; decide +kernel) h
theorem fn_niInit (hK : g.K = hd.heap_1 P) : FnIs g.K 36 (bodyOf P 36) (fdOf P 36).scope (fdOf P 36) :=
  fnIs ⟨_, _, _, rfl⟩ (by kernel_rfl) rfl rfl rfl rfl hK
theorem so_niInit : scopeOk (fdOf P 36).scope = true := by kernel_rfl
theorem slotA (hK : g.K = hd.heap_1 P) {x : Str} {i : Nat} (h : slotAttr (Mine.hd.heap_1 P) 40 x i = true) : slotAttr g.K 40 x i = true := by rw [hK]; exact h
theorem W_niInit (hK : g.K = hd.heap_1 P) (hd : c.Deep 1) {x dx : Addr} {v : Value} (hv : handedIn v = true) (hx : S.σ x = some (.slots 40 dx [])) (hdx : S.σ dx = some (.ns (fun _ => none) 0))
    (h : ∀ y, S.σ y = none -> Q .none ⟨S.m, upd (upd S.σ y (.list [])) x (.slots 40 dx [some v, some (.int 0 0), some (.ref y)])⟩) : WD g c (.ref 36) [.ref x, v] S Q := by
  refine WD.drop (WD_def (n := 0) hd (fn_niInit hK) so_niInit (B := [(Str.ofString "self", .ref x), (Str.ofString "node", v)]) (fun us hu => ?_) (by kernel_rfl) fun c' hs hx' hd' => ?_)
  · (refine el_EEAA (map2 hu) ?_; intro u u' rfl_9 hu1 hu2; subst rfl_9)
    exact ⟨[(Str.ofString "self", u), (Str.ofString "node", u')], by kernel_rfl, by simp [hu1, hu2]⟩
  refine WXs.le (S' := ⟨setv (setv (fun _ => none) (Str.ofString "self") (.ref x)) (Str.ofString "node") v, S.σ⟩) ?_ (Le.refl _)
  show WXs g c' (_ :: _) _ _
  have hne : dx ≠ x := ne_of_kind hdx hx (fun e => by exact (nomatch e))
  w_fin
  refine WSet_slot (slotA hK (i := 0) (by kernel_rfl)) hx hdx (by decide) ?_
  w_fin
  refine WSet_slot (slotA hK (i := 1) (by kernel_rfl)) upd_self ((if_neg hne).trans hdx) (by decide) ?_
  w_fin
  refine ⟨by decide +kernel, fun y hy => ?_⟩
  w_fin
  have hyx : x ≠ y := fun e => by
    have hy : upd (upd S.σ x _) x _ y = none := hy
    rw [← e, upd_self] at hy; exact Mine.sn hy
  have hyS : S.σ y = none := by
    have hy : upd (upd S.σ x _) x _ y = none := hy
    unfold upd at hy
    rw [if_neg (Ne.symm hyx), if_neg (Ne.symm hyx)] at hy
    exact hy
  have hdy : dx ≠ y := fun e => by rw [← e, hdx] at hyS; exact Mine.sn hyS
  refine WSet_slot (slotA hK (i := 2) (by kernel_rfl)) ((if_neg hyx).trans upd_self) ((if_neg hdy).trans ((if_neg hne).trans ((if_neg hne).trans hdx))) (by decide) ?_
  w_fin
  refine ⟨⟨S.m, upd (upd S.σ y (.list [])) x (.slots 40 dx [some v, some (.int 0 0), some (.ref y)])⟩, ⟨fun _ _ e => e, fun b o e => ?_⟩, h y hyS⟩
  have e : upd (upd S.σ y (.list [])) x _ b = some o := e
  show upd (upd (upd (upd S.σ x _) x _) y _) x _ b = some o
  unfold upd at e ⊢
  by_cases q : b = x
  · rw [if_pos q] at e ⊢; exact e
  rw [if_neg q] at e ⊢
  by_cases q2 : b = y
  · rw [if_pos q2] at e ⊢; exact e
  rw [if_neg q2] at e ⊢; rw [if_neg q, if_neg q]; exact e
end
end
end
section
section
variable {g : Gl Int} {c : Ac} {S S' : St Int} {Q : Value -> St Int -> Prop} {a b : Addr} {xs ys : List Value} {P : Params}
section
variable {kv : Int -> Value} {A : SA Int} {G : SG Int} {fr : Addr -> Option (AO Int)} {k : Int}
theorem fn_tsInit (hK : g.K = hd.heap_1 P) : FnIs g.K 73 (bodyOf P 73) (fdOf P 73).scope (fdOf P 73) :=
  fnIs ⟨_, _, _, rfl⟩ (by kernel_rfl) rfl rfl rfl rfl hK
theorem so_tsInit : scopeOk (fdOf P 73).scope = true := by kernel_rfl
noncomputable def SG.nil : SG Int := ⟨[], fun _ => 0, fun _ => [], none, 0, 0⟩
theorem setsA (hK : g.K = hd.heap_1 P) {x : Str} (h : setsAttr (Mine.hd.heap_1 P) 137 x = true) : setsAttr g.K 137 x = true := by rw [hK]; exact h
theorem W_new (hK : g.K = hd.heap_1 P) (hd : c.Deep 2) (kv : Int -> Value) (h : ∀ A a σ', (∀ b o, S.σ b = some o -> σ' b = some o) -> SrtF 137 40 kv A SG.nil a S.σ σ' -> Q (.ref a) ⟨S.m, σ'⟩) : WC g c (.ref 137) [] S Q := by
  refine WC_new (n := 1) hd (fI := 73) (by rw [hK]; kernel_rfl) (by rw [hK]; kernel_rfl) (by rw [hK]; kernel_rfl) (fun d => .inst 137 d) (fun _ => .inl rfl) fun x dx hx hdx hne c₁ e₁ e₂ hd₁ => ?_
  refine WD_defP (n := 0) hd₁ (fn_tsInit hK) so_tsInit (B := [(Str.ofString "self", .ref x), (Str.ofString "graph", .none)]) (fun us hu => ?_) (by kernel_rfl) fun c' hs hx' hd' => ?_
  · (refine el_EA (map1 hu) ?_; intro u rfl_10 hu1; subst rfl_10)
    exact ⟨[(Str.ofString "self", u), (Str.ofString "graph", .none)], by rw [hK]; kernel_rfl, by simp [hu1]; rfl⟩
  refine WXs.le (S' := ⟨setv (setv (fun _ => none) (Str.ofString "self") (.ref x)) (Str.ofString "graph") .none, upd (upd S.σ dx (.ns (fun _ => none) 0)) x (.inst 137 dx)⟩) ?_ (Le.refl _)
  show WXs g c' (_ :: _) _ _
  have hdx₁ : upd (upd S.σ dx (.ns (fun _ => none) 0)) x (.inst 137 dx) dx = some (.ns (fun _ => none) 0) := (if_neg (Ne.symm hne)).trans upd_self
  w_fin
  intro D hD lo
  have hDx : x ≠ D := fun e => by
    have hD : upd (upd S.σ dx _) x _ D = none := hD
    rw [← e, upd_self] at hD; exact Mine.sn hD
  have hDdx : dx ≠ D := fun e => by
    have hD : upd (upd S.σ dx _) x _ D = none := hD
    rw [← e] at hD
    rw [hdx₁] at hD; exact Mine.sn hD
  have hDS : S.σ D = none := by
    have hD : upd (upd S.σ dx _) x _ D = none := hD
    unfold upd at hD
    rwa [if_neg (Ne.symm hDx), if_neg (Ne.symm hDdx)] at hD
  w_fin
  refine WSet_own (k' := 1) (setsA hK (by kernel_rfl)) ((if_neg hDx).trans upd_self) ((if_neg hDdx).trans hdx₁) (by decide) (.inl rfl) ?_
  w_fin
  refine WSet_own (k' := 2) (setsA hK (by kernel_rfl)) ((if_neg hne).trans ((if_neg hDx).trans upd_self)) upd_self (by decide) (.inl rfl) ?_
  w_fin
  refine WSet_own (k' := 3) (setsA hK (by kernel_rfl)) ((if_neg hne).trans ((if_neg hne).trans ((if_neg hDx).trans upd_self))) upd_self (by decide) (.inl rfl) ?_
  w_fin
  refine WSet_own (k' := 4) (setsA hK (by kernel_rfl)) ((if_neg hne).trans ((if_neg hne).trans ((if_neg hne).trans ((if_neg hDx).trans upd_self)))) upd_self (by decide) (.inl rfl) ?_
  w_fin
  rw [show (!(Value.none == Value.none)) = false from rfl]
  w_fin
  refine ⟨rfl, h ⟨dx, D, fun _ => 0, fun _ => 0, fun _ => 0, 0⟩ x _ (fun b o e => ?_) ⟨⟨?_, ⟨_, upd_self, ?_⟩, ⟨0, ?_⟩, lo, (fun _ h => nomatch h), (fun _ h => nomatch h), (fun _ h => nomatch h), List.nodup_nil, (fun _ h => nomatch h), (fun _ h => nomatch h), (fun _ h => nomatch h), (fun _ h => nomatch h)⟩, fun b o e => ?_, fun b o e ho => ?_⟩⟩
  · have n1 : b ≠ dx := by rintro rfl; rw [hdx] at e; exact Mine.ns e
    have n2 : b ≠ x := by rintro rfl; rw [hx] at e; exact Mine.ns e
    have n3 : b ≠ D := by rintro rfl; rw [hDS] at e; exact Mine.ns e
    exact (if_neg n1).trans ((if_neg n1).trans ((if_neg n1).trans ((if_neg n1).trans ((if_neg n3).trans ((if_neg n2).trans ((if_neg n1).trans e))))))
  · exact (if_neg hne).trans ((if_neg hne).trans ((if_neg hne).trans ((if_neg hne).trans ((if_neg hDx).trans upd_self))))
  · exact NsIs.four rfl rfl rfl
  · have n1 : D ≠ dx := Ne.symm hDdx
    exact (if_neg n1).trans ((if_neg n1).trans ((if_neg n1).trans ((if_neg n1).trans upd_self)))
  · have n1 : b ≠ dx := by rintro rfl; rw [hdx] at e; exact Mine.ns e
    have n2 : b ≠ x := by rintro rfl; rw [hx] at e; exact Mine.ns e
    have n3 : b ≠ D := by rintro rfl; rw [hDS] at e; exact Mine.ns e
    exact (if_neg n1).trans ((if_neg n1).trans ((if_neg n1).trans ((if_neg n1).trans ((if_neg n3).trans ((if_neg n2).trans ((if_neg n1).trans e))))))
  rcases ho with rfl | rfl | rfl | ⟨k, hk, _⟩ | ⟨hr, _⟩
  · rw [hx] at e; exact Mine.ns e
  · rw [hdx] at e; exact Mine.ns e
  · rw [hDS] at e; exact Mine.ns e
  · cases hk
  exact Mine.ft hr
end
end
end
section
section
variable {g : Gl Int} {c : Ac} {S S' : St Int} {Q : Value -> St Int -> Prop} {a b : Addr} {xs ys : List Value} {P : Params}
section
variable {kv : Int -> Value} {A : SA Int} {G : SG Int} {fr : Addr -> Option (AO Int)} {k : Int}
theorem fn_getinfo (hK : g.K = hd.heap_1 P) : FnIs g.K 80 (bodyOf P 80) (fdOf P 80).scope (fdOf P 80) :=
  fnIs ⟨_, _, _, rfl⟩ (by kernel_rfl) rfl rfl rfl rfl hK
theorem so_getinfo : scopeOk (fdOf P 80).scope = true := by kernel_rfl
theorem W_getinfo (hK : g.K = hd.heap_1 P) (hd : c.Deep 3) (K : KeyOk g kv) (s : SrtF 137 40 kv A G a fr S.σ) (hz : G.ks.length ≤ 1000)
    (h : ∀ A' σ', SrtF 137 40 kv A' (G.addNode k) a fr σ' -> Q (.ref (A'.info k)) ⟨S.m, σ'⟩) : WC g c (.ref 80) [.ref a, kv k] S Q := by
  refine WC.drop (WC_of (WD_def (n := 2) hd (fn_getinfo hK) so_getinfo (B := [(Str.ofString "self", .ref a), (Str.ofString "node", kv k)]) (fun us hu => ?_) (by kernel_rfl) fun c' hs hx hd' => ?_))
  · (refine el_EEAA (map2 hu) ?_; intro u u' rfl_11 hu1 hu2; subst rfl_11)
    exact ⟨[(Str.ofString "self", u), (Str.ofString "node", u')], by kernel_rfl, by simp [hu1, hu2]⟩
  refine WXs.le (S' := ⟨setv (setv (fun _ => none) (Str.ofString "self") (.ref a)) (Str.ofString "node") (kv k), S.σ⟩) ?_ (Le.refl _)
  show WXs g c' (_ :: _) _ _
  refine el_E s.s.dict ?_; intro ep hD
  w_fin
  refine G_n2i hK s ?_
  refine WGM_dict (kvs := _) PySem.F.slot_dict_get PySem.F.type_dict_get (by walk_at "w st") ?_
  w_fin
  refine WC_dictGet K (kvs := _) (by walk_at "w st") s.s.lo ?_
  rw [valueAt_keys]
  by_cases hk : k ∈ G.ks
  · first | refine if_yes hk ?_ | rw [if_pos hk]
    dsimp only [Option.getD]
    w_fin
    rw [show (Value.ref (A.info k) == Value.none) = false from rfl]
    w_fin
    refine ⟨S, ⟨fun _ _ e => e, fun b o e => e⟩, h A S.σ ?_⟩
    unfold SG.addNode
    first | refine if_yes hk ?_ | rw [if_pos hk]
    exact s
  first | refine if_no hk ?_ | rw [if_neg hk]
  dsimp only [Option.getD]
  w_fin
  refine WC_new (n := 1) (hd'.less (by decide)) (fI := 36) (by rw [hK]; kernel_rfl) (by rw [hK]; kernel_rfl) (by rw [hK]; kernel_rfl) (fun d => .slots 40 d []) (fun _ => .inr rfl) fun x dx hx₀ hdx₀ hne c₁ e₁ e₂ hd₁ => ?_
  have hxS : S.σ x = none := hx₀
  have hdxS : S.σ dx = none := hdx₀
  refine W_niInit hK (hd₁.less (by decide)) (K.hand k) upd_self ((if_neg (Ne.symm hne)).trans upd_self) fun y hy => ⟨rfl, ?_⟩
  have hyx : y ≠ x := fun e => by
    have hy : upd (upd S.σ dx _) x _ y = none := hy
    rw [e, upd_self] at hy; exact Mine.sn hy
  have hydx : y ≠ dx := fun e => by
    have hy : upd (upd S.σ dx _) x _ y = none := hy
    rw [e] at hy
    rw [show upd (upd S.σ dx (.ns (fun _ => none) 0)) x (.slots 40 dx []) dx = _ from (if_neg (Ne.symm hne)).trans upd_self] at hy; exact Mine.sn hy
  have hyS : S.σ y = none := by
    have hy : upd (upd S.σ dx _) x _ y = none := hy
    unfold upd at hy
    rwa [if_neg hyx, if_neg hydx] at hy
  have keep : ∀ b o, S.σ b = some o -> upd (upd (upd (upd S.σ dx (.ns (fun _ => none) 0)) x (.slots 40 dx [])) y (.list [])) x (.slots 40 dx [some (kv k), some (.int 0 0), some (.ref y)]) b = some o := fun b o e => by
    have n1 : b ≠ dx := by rintro rfl; rw [hdxS] at e; exact Mine.ns e
    have n2 : b ≠ x := by rintro rfl; rw [hxS] at e; exact Mine.ns e
    have n3 : b ≠ y := by rintro rfl; rw [hyS] at e; exact Mine.ns e
    exact (if_neg n2).trans ((if_neg n3).trans ((if_neg n2).trans ((if_neg n1).trans e)))
  have s₁ := s.le keep
  have hD₁ := keep _ _ hD
  have fx : upd (upd (upd (upd S.σ dx (.ns (fun _ => none) 0)) x (.slots 40 dx [])) y (.list [])) x (.slots 40 dx [some (kv k), some (.int 0 0), some (.ref y)]) x = some (.slots 40 dx [some (kv k), some (.int 0 0), some (.ref y)]) := upd_self
  have fdx : upd (upd (upd (upd S.σ dx (.ns (fun _ => none) 0)) x (.slots 40 dx [])) y (.list [])) x (.slots 40 dx [some (kv k), some (.int 0 0), some (.ref y)]) dx = some (.ns (fun _ => none) 0) := (if_neg (Ne.symm hne)).trans ((if_neg (Ne.symm hydx)).trans ((if_neg (Ne.symm hne)).trans upd_self))
  have fy : upd (upd (upd (upd S.σ dx (.ns (fun _ => none) 0)) x (.slots 40 dx [])) y (.list [])) x (.slots 40 dx [some (kv k), some (.int 0 0), some (.ref y)]) y = some (.list []) := (if_neg hyx).trans upd_self
  generalize hσ₁ : upd (upd (upd (upd S.σ dx (.ns (fun _ => none) 0)) x (.slots 40 dx [])) y (.list [])) x (.slots 40 dx [some (kv k), some (.int 0 0), some (.ref y)]) = σ₁ at *
  show WAsg g c' _ _ ⟨_, σ₁⟩ _
  w_fin
  refine G_n2i hK s₁ ?_
  w_fin
  refine WSetItem_dict K (kvs := _) (by walk_at "w st") (by rw [List.length_map, sizeLine_eq]; exact Nat.le_trans ‹_› (by decide)) fun ep' => ?_
  rw [stored_new (by rw [List.map_map]; simpa using hk)]
  w_fin
  have hnx : ∀ {z : Addr}, S.σ z = none -> z ≠ A.D := fun hz e => by rw [e, hD] at hz; exact Mine.sn hz
  refine ⟨⟨S.m, upd σ₁ A.D (.dict ((G.ks.map fun j => (j, .ref (A.info j))) ++ [(k, .ref x)]) ep')⟩, ⟨fun _ _ e => e, fun b o e => e⟩, ?_⟩
  have fin := s.addNode (σ' := upd σ₁ A.D (.dict ((G.ks.map fun j => (j, .ref (A.info j))) ++ [(k, .ref x)]) ep')) hk (fun b o e hb => (if_neg hb).trans (keep b o e)) upd_self
    ((if_neg (hnx hxS)).trans fx) ((if_neg (hnx hdxS)).trans fdx) ((if_neg (hnx hyS)).trans fy) hxS hdxS hyS
  have := h _ _ fin
  have e : (A.addNode k x dx y).info k = x := if_pos rfl
  rw [e] at this
  exact this
end
end
end
end
section
section
variable {g : Gl Int} {c : Ac} {S S' : St Int} {Q : Value -> St Int -> Prop} {a b : Addr} {xs ys : List Value} {P : Params}
section
variable {kv : Int -> Value} {A : SA Int} {G : SG Int} {fr : Addr -> Option (AO Int)} {k : Int}
theorem fn_add (hK : g.K = hd.heap_1 P) : FnIs g.K 87 (bodyOf P 87) (fdOf P 87).scope (fdOf P 87) :=
  fnIs ⟨_, _, _, rfl⟩ (by kernel_rfl) rfl rfl rfl rfl hK
theorem so_add : scopeOk (fdOf P 87).scope = true := by kernel_rfl
noncomputable def SG.add1 (k : Int) (G : SG Int) (p : Int) : SG Int := (G.addNode p).pushSu p k
noncomputable def SG.add0 (G : SG Int) (k : Int) (n : Int) : SG Int := (G.addNode k).setNp k ((G.addNode k).np k + n)
noncomputable def SG.add (G : SG Int) (k : Int) (ps : List Int) : SG Int := ps.foldl (SG.add1 k) (G.add0 k ps.length)
theorem SG.mem_addNode (G : SG Int) (k : Int) : k ∈ (G.addNode k).ks := by
  unfold SG.addNode
  split
  · assumption
  simp
theorem SG.sub_addNode (G : SG Int) (k : Int) {j : Int} (h : j ∈ G.ks) : j ∈ (G.addNode k).ks := by
  unfold SG.addNode
  split
  · exact h
  exact List.mem_append_left _ h
theorem SG.len_addNode (G : SG Int) (k : Int) : (G.addNode k).ks.length ≤ G.ks.length + 1 := by
  unfold SG.addNode
  split
  · exact Nat.le_succ _
  simp
theorem SG.add1_ok (k : Int) (G : SG Int) (n : Nat) (ps : List Int) : ∀ i, k ∈ ((ps.take i).foldl (SG.add1 k) (G.add0 k n)).ks /\ ((ps.take i).foldl (SG.add1 k) (G.add0 k n)).ks.length ≤ G.ks.length + 1 + i
  | 0 => ⟨G.mem_addNode k, G.len_addNode k⟩
  | i + 1 => by
    refine el_A (SG.add1_ok k G n ps i) ?_; intro h1 h2
    cases h : ps[i]? with
    | none =>
      have : ps.length ≤ i := List.getElem?_eq_none_iff.mp h
      rw [List.take_of_length_le (by exact om50 ‹_›)]
      rw [List.take_of_length_le this] at h1 h2
      exact ⟨h1, by exact om50 ‹_›⟩
    | some p =>
      rw [List.take_succ, h, Option.toList, List.foldl_append]
      refine ⟨SG.sub_addNode _ p h1, Nat.le_trans (SG.len_addNode _ p) (by exact Nat.lt_succ_of_le ‹_›)⟩
theorem SG.su_addNode (G : SG Int) (k j : Int) : ((G.addNode k).su j).length ≤ (G.su j).length := by
  unfold SG.addNode
  split
  · exact Nat.le_refl _
  dsimp only
  split
  · exact Nat.zero_le _
  exact Nat.le_refl _
theorem SG.su_add1 {k : Int} {G : SG Int} {b : Nat} (hb : ∀ j, (G.su j).length ≤ b) (p j : Int) : ((SG.add1 k G p).su j).length ≤ b + 1 := by
  unfold SG.add1 SG.pushSu
  dsimp only
  have := G.su_addNode p
  split
  · rw [List.length_append]
    exact Nat.add_le_add_right (Nat.le_trans (this p) (hb p)) 1
  exact Nat.le_trans (this j) (Nat.le_trans (hb j) (Nat.le_succ _))
theorem SG.su_fold {k : Int} {b n : Nat} {G : SG Int} (hb : ∀ j, (G.su j).length ≤ b) : ∀ (ps : List Int) (j : Int), ((ps.foldl (SG.add1 k) (G.add0 k n)).su j).length ≤ b + ps.length := by
  have gen : ∀ (ps : List Int) (G : SG Int) (b : Nat), (∀ j, (G.su j).length ≤ b) -> ∀ j, ((ps.foldl (SG.add1 k) G).su j).length ≤ b + ps.length := by
    intro ps
    induction ps with
    | nil => exact fun G b hb j => hb j
    | cons p ps ih =>
      intro G b hb j
      rw [List.foldl_cons, List.length_cons]
      have := ih (SG.add1 k G p) (b + 1) (fun j => SG.su_add1 hb p j) j
      lia
  intro ps j
  exact gen ps (G.add0 k n) b (fun j => Nat.le_trans (G.su_addNode k j) (hb j)) j
theorem SrtF.weak {C NI : Addr} {σ fr' : Addr -> Option (AO Int)} (s : SrtF C NI kv A G a fr σ) (h : ∀ b o, fr' b = some o -> fr b = some o) : SrtF C NI kv A G a fr' σ := ⟨s.s, fun b o e => s.keep b o (h b o e), fun b o e => s.apart b o (h b o e)⟩
theorem G_slot (hK : g.K = hd.heap_1 P) (s : SrtF 137 40 kv A G a fr S.σ) (hk : k ∈ G.ks) {x : Str} {i : Nat} {v : Value} (hx : slotAttr (Mine.hd.heap_1 P) 40 x i = true) (hi : (slotsOf kv A G k)[i]? = some (some v)) (hv : handedIn v = true) (h : Q v S) : WGet g c (.ref (A.info k)) x S Q :=
  WGet_slot (slotA hK hx) (s.s.info k hk) (s.s.dx k hk) hi hv h
theorem S_np (hK : g.K = hd.heap_1 P) (K : KeyOk g kv) (s : SrtF 137 40 kv A G a fr S.σ) (hk : k ∈ G.ks) {v : Int} {Q : St Int -> Prop} (h : ∀ σ', SrtF 137 40 kv A (G.setNp k v) a fr σ' -> Q ⟨S.m, σ'⟩) : WSet g c (.ref (A.info k)) (Str.ofString "npredecessors") (.int v 0) S Q :=
  WSet_slot (slotA hK (i := 1) (by kernel_rfl)) (s.s.info k hk) (s.s.dx k hk) (by decide) (h _ (s.setNp (fun _ _ => K.inj) hk v))
theorem fr_new {T : Addr} {o : AO Int} {σ : Addr -> Option (AO Int)} {C NI : Addr} (s : SrtF C NI kv A G a fr σ) (hT : σ T = none) : ∀ b o', fr b = some o' -> upd fr T o b = some o' := fun b o' e => (if_neg (by
  rintro rfl
  have := s.keep _ _ e
  rw [hT] at this; exact Mine.ns this)).trans e
theorem W_add (hK : g.K = hd.heap_1 P) (hd : c.Deep 5) (K : KeyOk g kv) (s : SrtF 137 40 kv A G a fr S.σ) (hr : G.ready = none) (ps : List Int) (hz : G.ks.length + ps.length ≤ 900) {b : Nat} (hb : ∀ j, (G.su j).length ≤ b) (hb' : b + ps.length ≤ 10000) {as : List Value} (has : as = .ref a :: kv k :: ps.map kv)
    (hbind : ∀ us, us.map er = as -> ∃ (rest : List Value) (bs : Addr -> List (Str × Value)) (gg : Addr -> Option (List (Str × Value))), peek1 g.K ⟨g.prog, g.w.params⟩ (bindArgs (fdOf P 87) ⟨us, []⟩) = some (({ cls := .type "tuple", data := .seq rest.toArray } : Obj), gg) /\ (∀ D, gg D = some (bs D)) /\ rest.map er = ps.map kv /\ ∀ D, (bs D).map (fun p => (p.1, er p.2)) = [(Str.ofString "self", .ref a), (Str.ofString "node", kv k), (Str.ofString "predecessors", .ref D)])
    (h : ∀ A' σ', SrtF 137 40 kv A' (G.add k ps) a fr σ' -> Q .none ⟨S.m, σ'⟩) : WC g c (.ref 87) as S Q := by
  subst has
  refine WC.drop (WC_of (WD_defS (n := 4) hd (fn_add hK) so_add hbind (fun D => by kernel_rfl) fun T hT c' hs hx hd' => ?_))
  refine WXs.le (S' := ⟨setv (setv (setv (fun _ => none) (Str.ofString "self") (.ref a)) (Str.ofString "node") (kv k)) (Str.ofString "predecessors") (.ref T), upd S.σ T (.tup (ps.map kv))⟩) ?_ (Le.refl _)
  show WXs g c' (_ :: _) _ _
  have s₁ := s.frame (b := T) (o := .tup (ps.map kv)) hT
  have back := fr_new (o := .tup (ps.map kv)) s hT
  have frT : upd fr T (.tup (ps.map kv)) T = some (.tup (ps.map kv)) := upd_self
  generalize upd fr T (.tup (ps.map kv)) = fr₁ at *
  generalize upd S.σ T (.tup (ps.map kv)) = σ₁ at *
  w_fin
  refine G_rdy hK s₁ ?_
  rw [show rdyV A G = .none by unfold rdyV; rw [hr]]
  w_fin
  rw [show (!(Value.none == Value.none)) = false from rfl]
  w_fin
  refine M_get_nodeinfo hK s₁ ?_
  w_fin
  refine W_getinfo hK (hd'.less (by decide)) K s₁ (by lia) fun A₁ σ₂ s₂ => ?_
  have k₁ := G.mem_addNode k
  w_fin
  refine G_slot hK s₂ k₁ (i := 1) (by kernel_rfl) rfl rfl ?_
  w_fin
  refine WC_lenT (s₂.keep _ _ frT) (by rw [List.length_map]; lia) ?_
  rw [List.length_map]
  w_fin
  refine S_np hK K s₂ k₁ fun σ₃ s₃ => ?_
  have s₃ : SrtF 137 40 kv A₁ (G.add0 k ps.length) a fr₁ σ₃ := s₃
  w_fin
  obtain ⟨Gi, hGi⟩ : ∃ f : Nat -> SG Int, ∀ i, f i = (ps.take i).foldl (SG.add1 k) (G.add0 k ps.length) := ⟨_, fun _ => rfl⟩
  have G0 : Gi 0 = G.add0 k ps.length := hGi 0
  refine WX_For (fun _ _ => rfl) ?_
  w_fin
  let Inv_1 : Nat -> St Int -> Prop := fun i S' => S'.m (Str.ofString "self") = some (.ref a) /\ S'.m (Str.ofString "node") = some (kv k) /\ ∃ A', SrtF 137 40 kv A' (Gi i) a fr₁ S'.σ
  refine ⟨ps.map kv, _, iter_tup (s₃.keep _ _ frT), Inv_1,
    ⟨by walk_at "w lk", by walk_at "w lk", A₁, by rw [G0]; exact s₃⟩, fun i S₂ ⟨_, _, A', s'⟩ => s'.keep _ _ frT, fun i x S₂ hx' q_ => ?_, fun S₂ q_ => ?_⟩
  · (refine el_AAE q_ ?_; clear q_; intro hself hnode A' s')
    rw [List.getElem?_map, Option.map_eq_some_iff] at hx'
    refine el_EA hx' ?_; (try clear hx'); intro p hp rfl_14; subst rfl_14
    refine el_A (SG.add1_ok k G ps.length ps i) ?_; intro o1 o2
    have hil : i < ps.length := (List.getElem?_eq_some_iff.mp hp).1
    have hsucc : Gi (i + 1) = SG.add1 k (Gi i) p := by
      rw [hGi, hGi, List.take_succ, hp, Option.toList, List.foldl_append]; rfl
    have hsu : ∀ j, ((Gi i).su j).length ≤ 10000 := fun j => by
      have := SG.su_fold (k := k) (n := ps.length) hb (ps.take i) j
      rw [← hGi, List.length_take] at this
      lia
    rw [← hGi] at o1 o2
    obtain ⟨m₂, σ₂'⟩ := S₂
    have s' : SrtF 137 40 kv A' (Gi i) a fr₁ σ₂' := s'
    have hself : m₂ (Str.ofString "self") = some (.ref a) := hself
    have hnode : m₂ (Str.ofString "node") = some (kv k) := hnode
    generalize Gi i = G₁ at *
    w_fin
    refine M_get_nodeinfo hK s' ?_
    w_fin
    refine W_getinfo hK (hd'.less (by decide)) K s' (by lia) fun A₂ σ₄ s₄ => ?_
    have k₂ := G₁.mem_addNode p
    have k₃ := G₁.sub_addNode p o1
    w_fin
    refine G_slot hK s₄ k₂ (i := 2) (by kernel_rfl) rfl rfl ?_
    refine ⟨_, _, rfl, s₄.s.sl p k₂, ?_⟩
    w_fin
    refine ⟨_, s₄.s.sl p k₂, by rw [List.length_map, sizeLine_eq]; exact Nat.le_trans (Nat.le_trans (G₁.su_addNode p p) (hsu p)) (by decide), ?_⟩
    w_fin
    refine ⟨by walk_at "w lk", by walk_at "w lk", A₂, ?_⟩
    rw [hsucc]
    exact s₄.pushSu k₂ k₃
  refine el_AAE q_ ?_; clear q_; intro hself hnode A' s'
  w_fin
  rw [List.length_map, hGi, List.take_of_length_le (Nat.le_refl _)] at s'
  exact ⟨⟨S.m, S₂.σ⟩, ⟨fun _ _ e => e, fun b o e => e⟩, h A' _ (s'.weak back)⟩
theorem W_add1 (hK : g.K = hd.heap_1 P) (hd : c.Deep 5) (K : KeyOk g kv) (s : SrtF 137 40 kv A G a fr S.σ) (hr : G.ready = none) {p : Int} (hz : G.ks.length ≤ 800) {b : Nat} (hb : ∀ j, (G.su j).length ≤ b) (hb' : b ≤ 9000)
    (h : ∀ A' σ', SrtF 137 40 kv A' (G.add k [p]) a fr σ' -> Q .none ⟨S.m, σ'⟩) : WC g c (.ref 87) [.ref a, kv k, kv p] S Q := by
  refine W_add hK hd K s hr [p] (by simp; exact Nat.le_trans ‹_› (by decide)) hb (by simp; exact Nat.le_trans ‹_› (by decide)) rfl (fun us hu => ?_) h
  refine el_EEEAAA (map3 hu) ?_; intro u v w rfl_13 h1 h2 h3; subst rfl_13
  exact ⟨[w], fun D => [(Str.ofString "self", u), (Str.ofString "node", v), (Str.ofString "predecessors", .ref D)], fun D => some [(Str.ofString "self", u), (Str.ofString "node", v), (Str.ofString "predecessors", .ref D)], by rw [hK]; kernel_rfl, fun _ => rfl, by rw [List.map_cons, List.map_nil, h3]; rfl, fun D => by rw [List.map_cons, List.map_cons, List.map_cons, List.map_nil, h1, h2]; rfl⟩
end
end
end
section
section
variable {g : Gl Int} {c : Ac} {S S' : St Int} {Q : Value -> St Int -> Prop} {a b : Addr} {xs ys : List Value} {P : Params}
section
variable {kv : Int -> Value} {A : SA Int} {G : SG Int} {fr : Addr -> Option (AO Int)} {k : Int} {l : List Int}
theorem boot_boolX : bootBuiltins "bool" = some (.type "bool") := by decide +kernel
theorem fn_active (hK : g.K = hd.heap_1 P) : FnIs g.K 106 (bodyOf P 106) (fdOf P 106).scope (fdOf P 106) :=
  fnIs ⟨_, _, _, rfl⟩ (by kernel_rfl) rfl rfl rfl rfl hK
theorem so_active : scopeOk (fdOf P 106).scope = true := by kernel_rfl
theorem W_active (hK : g.K = hd.heap_1 P) (hd : c.Deep 1) (s : SrtF 137 40 kv A G a fr S.σ) (hr : G.ready = some l) (hz : l.length ≤ 10000)
    (h : Q (.bool (decide (G.nf < G.po) || !l.isEmpty)) S) : WC g c (.ref 106) [.ref a] S Q := by
  refine WC.drop (WC_def (n := 0) hd (fn_active hK) so_active (B := [(Str.ofString "self", .ref a)]) (fun us hu => ?_) (by kernel_rfl) fun c' hs hx hd' => ?_)
  · (refine el_EA (map1 hu) ?_; intro u rfl_17 hu'; subst rfl_17)
    exact ⟨[(Str.ofString "self", u)], by kernel_rfl, by simp [hu']⟩
  refine WXs.le (S' := ⟨setv (fun _ => none) (Str.ofString "self") (.ref a), S.σ⟩) ?_ (Le.refl _)
  show WXs g c' (_ :: _) _ _
  have eR : rdyV A G = .ref A.R := by unfold rdyV; rw [hr]
  w_fin
  refine G_rdy hK s ?_
  rw [eR]
  w_fin
  rw [show (Value.ref A.R == Value.none) = false from rfl]
  w_fin
  refine WE_Or2 ?_
  w_fin
  refine G_nf hK s ?_
  w_fin
  refine G_po hK s ?_
  w_fin
  have fin : ∀ b : Bool, b = (decide (G.nf < G.po) || !l.isEmpty) -> ∃ S'', Le S'' (⟨S.m, S.σ⟩ : St Int) /\ Q (.bool b) S'' := fun b hb => ⟨S, ⟨fun _ _ e => e, fun b o e => e⟩, by rw [hb]; exact h⟩
  by_cases q : G.nf < G.po
  · rw [if_pos (decide_eq_true q)]
    exact fin _ (by rw [decide_eq_true q]; rfl)
  first | refine if_no (by simpa using q) ?_ | rw [if_neg (by simpa using q)]
  w_fin
  refine WE_BuiltS hs hK boot_boolX (by kernel_rfl) (by kernel_rfl) (by decide +kernel) ?_
  w_fin
  refine G_rdy hK s ?_
  rw [eR]
  w_fin
  refine WC_boolL (s.s.rdy l hr).1 (by rw [List.length_map]; exact om26 (Nat.le_trans ‹_› (by decide))) ?_
  exact fin _ (by rw [decide_eq_false q]; cases l <;> rfl)
theorem fn_get_ready (hK : g.K = hd.heap_1 P) : FnIs g.K 99 (bodyOf P 99) (fdOf P 99).scope (fdOf P 99) :=
  fnIs ⟨_, _, _, rfl⟩ (by kernel_rfl) rfl rfl rfl rfl hK
theorem so_get_ready : scopeOk (fdOf P 99).scope = true := by kernel_rfl
noncomputable def SG.outs (G : SG Int) (l : List Int) : SG Int := l.foldl (fun G k => G.setNp k (-1)) G
noncomputable def SG.getReady (G : SG Int) (l : List Int) : SG Int := { (G.outs l) with ready := some [], po := G.po + l.length }
theorem SG.outs_ok (G : SG Int) : ∀ l : List Int, (G.outs l).ks = G.ks /\ (G.outs l).su = G.su /\ (G.outs l).ready = G.ready /\ (G.outs l).po = G.po /\ (G.outs l).nf = G.nf := by
  intro l
  unfold SG.outs
  induction l generalizing G with
  | nil => exact ⟨rfl, rfl, rfl, rfl, rfl⟩
  | cons k l ih => rw [List.foldl_cons]; exact ih (G.setNp k (-1))
theorem W_get_ready (hK : g.K = hd.heap_1 P) (hd : c.Deep 1) (K : KeyOk g kv) (s : SrtF 137 40 kv A G a fr S.σ) (hr : G.ready = some l) (hz : l.length ≤ 10000)
    (h : ∀ T σ', S.σ T = none -> SrtF 137 40 kv A (G.getReady l) a (upd fr T (.tup (l.map kv))) σ' -> Q (.ref T) ⟨S.m, σ'⟩) : WC g c (.ref 99) [.ref a] S Q := by
  refine WC.drop (WC_def (n := 0) hd (fn_get_ready hK) so_get_ready (B := [(Str.ofString "self", .ref a)]) (fun us hu => ?_) (by kernel_rfl) fun c' hs hx hd' => ?_)
  · (refine el_EA (map1 hu) ?_; intro u rfl_16 hu'; subst rfl_16)
    exact ⟨[(Str.ofString "self", u)], by kernel_rfl, by simp [hu']⟩
  refine WXs.le (S' := ⟨setv (fun _ => none) (Str.ofString "self") (.ref a), S.σ⟩) ?_ (Le.refl _)
  show WXs g c' (_ :: _) _ _
  have eR : rdyV A G = .ref A.R := by unfold rdyV; rw [hr]
  w_fin
  refine G_rdy hK s ?_
  rw [eR]
  w_fin
  rw [show (Value.ref A.R == Value.none) = false from rfl]
  w_fin
  refine G_rdy hK s ?_
  rw [eR]
  w_fin
  refine WC_tuple (xs := l.map kv) (s.s.rdy l hr).1 (by rw [List.length_map]; exact Nat.le_trans ‹_› (by decide)) fun T hT => ?_
  have hT : S.σ T = none := hT
  have s₁ := s.frame (b := T) (o := .tup (l.map kv)) hT
  have frT : upd fr T (.tup (l.map kv)) T = some (.tup (l.map kv)) := upd_self
  generalize hfr : upd fr T (.tup (l.map kv)) = fr₁ at *
  generalize hσ : upd S.σ T (.tup (l.map kv)) = σ₁ at *
  show WXs g c' _ ⟨_, σ₁⟩ _
  w_fin
  refine G_n2i hK s₁ ?_
  w_fin
  refine WX_For (fun _ _ => rfl) ?_
  w_fin
  let Inv_1 : Nat -> St Int -> Prop := fun i S' => S'.m (Str.ofString "self") = some (.ref a) /\ S'.m (Str.ofString "result") = some (.ref T) /\ S'.m (Str.ofString "n2i") = some (.ref A.D) /\ SrtF 137 40 kv A (G.outs (l.take i)) a fr₁ S'.σ
  refine ⟨l.map kv, _, iter_tup (s₁.keep _ _ frT), Inv_1,
    ⟨by walk_at "w lk", by walk_at "w lk", by walk_at "w lk", s₁⟩, fun i S₂ ⟨_, _, _, s'⟩ => s'.keep _ _ frT, fun i x S₂ hx' q_ => ?_, fun S₂ q_ => ?_⟩
  · (refine el_AAA q_ ?_; clear q_; intro hself hres hn2i s')
    rw [List.getElem?_map, Option.map_eq_some_iff] at hx'
    refine el_EA hx' ?_; (try clear hx'); intro p hp rfl_15; subst rfl_15
    have hpl : p ∈ l := List.mem_of_getElem? hp
    have hpk := s.s.rin l hr p hpl
    have hsucc : G.outs (l.take (i + 1)) = (G.outs (l.take i)).setNp p (-1) := by
      unfold SG.outs
      rw [List.take_add_one, hp, Option.toList, List.foldl_append]; rfl
    refine el_AAAA (G.outs_ok (l.take i)) ?_; intro o1 o2 o3 o4 o5
    obtain ⟨m₂, σ₂'⟩ := S₂
    have s' : SrtF 137 40 kv A (G.outs (l.take i)) a fr₁ σ₂' := s'
    have hself : m₂ (Str.ofString "self") = some (.ref a) := hself
    have hres : m₂ (Str.ofString "result") = some (.ref T) := hres
    have hn2i : m₂ (Str.ofString "n2i") = some (.ref A.D) := hn2i
    have hp' : p ∈ (G.outs (l.take i)).ks := by rw [o1]; exact hpk
    refine el_E s'.s.dict ?_; intro ep hD
    w_fin
    refine WSub_dict (kvs := _) hD ⟨_, fun _ _ => rfl⟩ (WItem_dict K (kvs := _) hD (by rw [valueAt_keys, if_pos hp']) ?_)
    refine S_np hK K s' hp' fun σ₃ s₃ => ?_
    w_fin
    exact ⟨by walk_at "w lk", by walk_at "w lk", by walk_at "w lk", by rw [hsucc]; exact s₃⟩
  refine el_AAA q_ ?_; clear q_; intro hself hres hn2i s'
  rw [List.length_map, List.take_of_length_le (Nat.le_refl _)] at s'
  refine el_AAAA (G.outs_ok l) ?_; intro o1 o2 o3 o4 o5
  obtain ⟨m₂, σ₂⟩ := S₂
  have s' : SrtF 137 40 kv A (G.outs l) a fr₁ σ₂ := s'
  have hself : m₂ (Str.ofString "self") = some (.ref a) := hself
  have hres : m₂ (Str.ofString "result") = some (.ref T) := hres
  have hr' : (G.outs l).ready = some l := o3.trans hr
  have eR' : rdyV A (G.outs l) = .ref A.R := by unfold rdyV; rw [hr']
  w_fin
  refine G_rdy hK s' ?_
  rw [eR']
  refine WGM_list PySem.F.slot_list_clear PySem.F.type_list_clear (s'.s.rdy l hr').1 ?_
  w_fin
  refine WC_clear' (s'.s.rdy l hr').1 (by rw [List.length_map, sizeLine_eq]; exact om24 (Nat.le_trans ‹_› (by decide))) ?_
  have s₃ := s'.setRdy (l' := []) hr' (fun _ h => nomatch h)
  rw [List.map_nil] at s₃
  generalize upd σ₂ A.R (.list []) = σ₃ at *
  show WXs g c' _ ⟨_, σ₃⟩ _
  w_fin
  refine G_po hK s₃ ?_
  w_fin
  refine WC_lenT (s₃.keep _ _ frT) (by rw [List.length_map]; exact om26 (Nat.le_trans ‹_› (by decide))) ?_
  rw [List.length_map]
  w_fin
  refine el_EA s₃.s.ns ?_; intro m n1 n2
  refine WSet_own (k' := 4) (setsA hK (by kernel_rfl)) s₃.s.inst n1 (by decide) (.inr ⟨rfl, by rw [show m (Str.ofString "_npassedout") = _ from n2.po]; rfl⟩) ?_
  have e4 : (G.outs l).po = G.po := o4
  have s₄ := s₃.setNs (A' := A) (G' := G.getReady l) (m := setv m n_po (.int ((G.outs l).po + l.length) 0)) (by
      have := n2.setPo (G' := G.getReady l) rfl rfl
      rw [o4]; exact this) rfl rfl rfl rfl (fun l' hl' => by
      (replace hl' := Option.some.inj hl'; subst hl')
      exact ⟨(s₃.s.rdy [] rfl).1, (s₃.s.rdy [] rfl).2, (fun _ h => nomatch h), fun o e => s₃.apart _ o e (.inr (.inr (.inr (.inr ⟨rfl, rfl⟩))))⟩)
  w_fin
  subst hfr
  exact ⟨⟨S.m, _⟩, ⟨fun _ _ e => e, fun b o e => e⟩, h T _ hT s₄⟩
end
end
end
section
section
variable {g : Gl Int} {c : Ac} {S S' : St Int} {Q : Value -> St Int -> Prop} {a b : Addr} {xs ys : List Value} {P : Params}
section
variable {kv : Int -> Value} {A : SA Int} {G : SG Int} {fr : Addr -> Option (AO Int)} {k : Int} {l : List Int}
theorem WIn_sub {i j : Int} (h : Q (.int (i - j) 0) S) : WIn g c .Sub (.int i 0) (.int j 0) S Q := by
  intro u v hu hv H s R
  refine el_E (er_int hu) ?_; intro t rfl_21; subst rfl_21
  refine el_E (er_int hv) ?_; intro t' rfl_20; subst rfl_20
  exact isub_int ⟨S, R.toks, h⟩
theorem fn_done (hK : g.K = hd.heap_1 P) : FnIs g.K 120 (bodyOf P 120) (fdOf P 120).scope (fdOf P 120) :=
  fnIs ⟨_, _, _, rfl⟩ (by kernel_rfl) rfl rfl rfl rfl hK
theorem so_done : scopeOk (fdOf P 120).scope = true := by kernel_rfl
noncomputable def SG.dec (G : SG Int) (w : Int) : SG Int := { (G.setNp w (G.np w - 1)) with ready := if G.np w - 1 = 0 then G.ready.map (· ++ [w]) else G.ready }
noncomputable def SG.decs (G : SG Int) (ws : List Int) : SG Int := ws.foldl SG.dec G
noncomputable def SG.done (G : SG Int) (k : Int) : SG Int := { (G.setNp k (-2)).decs (G.su k) with nf := G.nf + 1 }
theorem SG.decs_ok {l : List Int} : ∀ (ws : List Int) (G : SG Int), G.ready = some l -> (G.decs ws).ks = G.ks /\ (G.decs ws).su = G.su /\ (G.decs ws).po = G.po /\ (G.decs ws).nf = G.nf /\ ∃ l', (G.decs ws).ready = some l' /\ l'.length ≤ l.length + ws.length := by
  intro ws
  unfold SG.decs
  induction ws generalizing l with
  | nil => intro G h; exact ⟨rfl, rfl, rfl, rfl, l, h, Nat.le_refl _⟩
  | cons w ws ih =>
    intro G h
    rw [List.foldl_cons, List.length_cons]
    obtain ⟨l₁, e1, e2⟩ : ∃ l₁, (G.dec w).ready = some l₁ /\ l₁.length ≤ l.length + 1 := by
      unfold SG.dec
      dsimp only
      split
      · rw [h]; exact ⟨_, rfl, by simp⟩
      rw [h]; exact ⟨_, rfl, by exact Nat.le_succ _⟩
    refine el_AAAAEA (ih (G.dec w) e1) ?_; intro o1 o2 o3 o4 l' o5 o6
    exact ⟨o1, o2, o3, o4, l', o5, by lia⟩
theorem W_done (hK : g.K = hd.heap_1 P) (hd : c.Deep 1) (K : KeyOk g kv) (s : SrtF 137 40 kv A G a fr S.σ) (hr : G.ready = some l) (hk : k ∈ G.ks) (hnp : G.np k = -1) (hz : l.length + (G.su k).length ≤ 10000)
    (h : ∀ σ', SrtF 137 40 kv A (G.done k) a fr σ' -> Q .none ⟨S.m, σ'⟩) : WC g c (.ref 120) [.ref a, kv k] S Q := by
  refine WC.drop (WC_of (WD_defS (n := 0) hd (fn_done hK) so_done (B := fun D => [(Str.ofString "self", .ref a), (Str.ofString "nodes", .ref D)]) (restE := [kv k]) (fun us hu => ?_) (fun D => by kernel_rfl) fun T hT c' hs hx hd' => ?_))
  · (refine el_EEAA (map2 hu) ?_; intro u v rfl_19 h1 h2; subst rfl_19)
    exact ⟨[v], fun D => [(Str.ofString "self", u), (Str.ofString "nodes", .ref D)], fun D => some [(Str.ofString "self", u), (Str.ofString "nodes", .ref D)], by rw [hK]; kernel_rfl, fun _ => rfl, by rw [List.map_cons, List.map_nil, h2], fun D => by rw [List.map_cons, List.map_cons, List.map_nil, h1]; rfl⟩
  refine WXs.le (S' := ⟨setv (setv (fun _ => none) (Str.ofString "self") (.ref a)) (Str.ofString "nodes") (.ref T), upd S.σ T (.tup [kv k])⟩) ?_ (Le.refl _)
  show WXs g c' (_ :: _) _ _
  have s₁ := s.frame (b := T) (o := .tup [kv k]) hT
  have back := fr_new (o := .tup [kv k]) s hT
  have frT : upd fr T (.tup [kv k]) T = some (.tup [kv k]) := upd_self
  generalize upd fr T (.tup [kv k]) = fr₁ at *
  generalize upd S.σ T (.tup [kv k]) = σ₁ at *
  have eR : rdyV A G = .ref A.R := by unfold rdyV; rw [hr]
  w_fin
  refine G_rdy hK s₁ ?_
  rw [eR]
  w_fin
  rw [show (Value.ref A.R == Value.none) = false from rfl]
  w_fin
  refine G_n2i hK s₁ ?_
  w_fin
  refine WX_For (fun _ _ => rfl) ?_
  w_fin
  let Inv_1 : Nat -> St Int -> Prop := fun i S' => S'.m (Str.ofString "self") = some (.ref a) /\ S'.m (Str.ofString "n2i") = some (.ref A.D) /\ SrtF 137 40 kv A (if i = 0 then G else G.done k) a fr₁ S'.σ
  refine ⟨[kv k], _, iter_tup (s₁.keep _ _ frT), Inv_1,
    ⟨by walk_at "w lk", by walk_at "w lk", s₁⟩, fun i S₂ ⟨_, _, s'⟩ => s'.keep _ _ frT, fun i x S₂ hx' q_ => ?_, fun S₂ q_ => ?_⟩
  · (refine el_AA q_ ?_; clear q_; intro hself hn2i s')
    match i, hx' with
    | 0, hx' =>
      have hx' : some (kv k) = some x := hx'
      obtain rfl := Option.some.inj hx'
      obtain ⟨m₂, σ₂⟩ := S₂
      have s' : SrtF 137 40 kv A G a fr₁ σ₂ := s'
      have hself : m₂ (Str.ofString "self") = some (.ref a) := hself
      have hn2i : m₂ (Str.ofString "n2i") = some (.ref A.D) := hn2i
      refine el_E s'.s.dict ?_; intro ep hD
      w_fin
      refine WGM_dict (kvs := _) PySem.F.slot_dict_get PySem.F.type_dict_get hD ?_
      w_fin
      refine WC_dictGet K (kvs := _) hD s'.s.lo ?_
      rw [valueAt_keys, if_pos hk]
      dsimp only [Option.getD]
      w_fin
      rw [show (Value.ref (A.info k) == Value.none) = false from rfl]
      w_fin
      refine G_slot hK s' hk (i := 1) (by kernel_rfl) rfl rfl ?_
      rw [hnp]
      w_fin
      refine WCmp_ne (i := -1) (j := -1) ?_
      rw [show ((-1 : Int) != -1) = false from rfl]
      w_fin
      refine S_np hK K s' hk fun σ₃ s₃ => ?_
      w_fin
      have hk₃ : k ∈ (G.setNp k (-2)).ks := hk
      refine WX_For (fun _ _ => rfl) ?_
      w_fin
      refine G_slot hK s₃ hk₃ (i := 2) (by kernel_rfl) rfl rfl ?_
      obtain ⟨Gi, hGi⟩ : ∃ f : Nat -> SG Int, ∀ i, f i = (G.setNp k (-2)).decs ((G.su k).take i) := ⟨_, fun _ => rfl⟩
      have G0 : Gi 0 = G.setNp k (-2) := hGi 0
      have ok : ∀ i, (Gi i).ks = G.ks /\ (Gi i).su = G.su /\ (Gi i).po = G.po /\ (Gi i).nf = G.nf /\ ∃ l', (Gi i).ready = some l' /\ l'.length ≤ 10000 := fun i => by
        refine el_AAAAEA (SG.decs_ok (l := l) ((G.su k).take i) (G.setNp k (-2)) hr) ?_; intro o1 o2 o3 o4 l' o5 o6
        rw [← hGi] at o1 o2 o3 o4 o5
        exact ⟨o1, o2, o3, o4, l', o5, by rw [List.length_take] at o6; lia⟩
      let Inv_2 : Nat -> St Int -> Prop := fun i S' => S'.m (Str.ofString "self") = some (.ref a) /\ S'.m (Str.ofString "n2i") = some (.ref A.D) /\ SrtF 137 40 kv A (Gi i) a fr₁ S'.σ
      refine ⟨(G.su k).map kv, _, iter_list (s₃.s.sl k hk₃), Inv_2,
        ⟨by walk_at "w lk", by walk_at "w lk", by rw [G0]; exact s₃⟩, fun i S₄ q_ => ?_, fun i x S₄ hx' q_ => ?_, fun S₄ q_ => ?_⟩
      · (refine el_AA q_ ?_; clear q_; intro _ _ s'')
        refine el_AA (ok i) ?_; intro o1 o2 _
        have := s''.s.sl k (by rw [o1]; exact hk)
        rw [o2] at this; exact this
      · (refine el_AA q_ ?_; clear q_; intro hself hn2i s'')
        rw [List.getElem?_map, Option.map_eq_some_iff] at hx'
        refine el_EA hx' ?_; (try clear hx'); intro w hw rfl_18; subst rfl_18
        have hsucc : Gi (i + 1) = (Gi i).dec w := by
          rw [hGi, hGi]
          unfold SG.decs
          rw [List.take_add_one, hw, Option.toList, List.foldl_append]; rfl
        refine el_AAAAEA (ok i) ?_; intro o1 o2 o3 o4 l' o5 o6
        have hwk : w ∈ (Gi i).ks := by rw [o1]; exact s.s.clo k hk w (List.mem_of_getElem? hw)
        obtain ⟨m₄, σ₄⟩ := S₄
        have s'' : SrtF 137 40 kv A (Gi i) a fr₁ σ₄ := s''
        have hself : m₄ (Str.ofString "self") = some (.ref a) := hself
        have hn2i : m₄ (Str.ofString "n2i") = some (.ref A.D) := hn2i
        generalize Gi i = G₁ at *
        refine el_E s''.s.dict ?_; intro ep₂ hD₂
        w_fin
        refine WSub_dict (kvs := _) hD₂ ⟨_, fun _ _ => rfl⟩ (WItem_dict K (kvs := _) hD₂ (by rw [valueAt_keys, if_pos hwk]) ?_)
        w_fin
        refine G_slot hK s'' hwk (i := 1) (by kernel_rfl) rfl rfl ?_
        w_fin
        refine WIn_sub ?_
        refine S_np hK K s'' hwk fun σ₅ s₅ => ?_
        w_fin
        refine G_slot hK s₅ (show w ∈ (G₁.setNp w (G₁.np w - 1)).ks from hwk) (i := 1) (by kernel_rfl) rfl rfl ?_
        have e5 : (G₁.setNp w (G₁.np w - 1)).np w = G₁.np w - 1 := if_pos rfl
        rw [e5]
        w_fin
        by_cases q : G₁.np w - 1 = 0
        · first | refine if_yes (by rw [q]; rfl) ?_ | rw [if_pos (by rw [q]; rfl)]
          w_fin
          refine G_rdy hK s₅ ?_
          have eR₅ : rdyV A (G₁.setNp w (G₁.np w - 1)) = .ref A.R := by unfold rdyV SG.setNp; dsimp only; rw [o5]
          rw [eR₅]
          have r₅ := (s₅.s.rdy l' o5).1
          refine ⟨_, _, rfl, r₅, ?_⟩
          w_fin
          refine ⟨_, r₅, by rw [List.length_map, sizeLine_eq]; exact om24 (Nat.le_trans ‹_› (by decide)), ?_⟩
          w_fin
          refine ⟨by walk_at "w lk", by walk_at "w lk", ?_⟩
          have s₆ := s₅.setRdy (l' := l' ++ [w]) o5 (fun x hx => by
            rcases List.mem_append.mp hx with hx | hx
            · exact s₅.s.rin l' o5 x hx
            · rw [List.mem_singleton.mp hx]; exact hwk)
          have e : (G₁.dec w) = { (G₁.setNp w (G₁.np w - 1)) with ready := some (l' ++ [w]) } := by
            unfold SG.dec
            rw [if_pos q, o5]; rfl
          rw [hsucc, e]
          rw [List.map_append] at s₆
          exact s₆
        first | refine if_no (by simpa using q) ?_ | rw [if_neg (by simpa using q)]
        w_fin
        refine ⟨by walk_at "w lk", by walk_at "w lk", ?_⟩
        have e : (G₁.dec w) = G₁.setNp w (G₁.np w - 1) := by
          unfold SG.dec
          rw [if_neg q]; rfl
        rw [hsucc, e]; exact s₅
      refine el_AA q_ ?_; clear q_; intro hself hn2i s''
      refine el_AAAAEA (ok ((G.su k).map kv).length) ?_; intro o1 o2 o3 o4 l' o5 o6
      have eG : Gi ((G.su k).map kv).length = (G.setNp k (-2)).decs (G.su k) := by
        rw [hGi, List.length_map, List.take_of_length_le (Nat.le_refl _)]
      rw [eG] at s'' o4 o5
      obtain ⟨m₄, σ₄⟩ := S₄
      have s'' : SrtF 137 40 kv A ((G.setNp k (-2)).decs (G.su k)) a fr₁ σ₄ := s''
      have hself : m₄ (Str.ofString "self") = some (.ref a) := hself
      have hn2i : m₄ (Str.ofString "n2i") = some (.ref A.D) := hn2i
      w_fin
      refine G_nf hK s'' ?_
      w_fin
      refine el_EA s''.s.ns ?_; intro m n1 n2
      refine WSet_own (k' := 4) (setsA hK (by kernel_rfl)) s''.s.inst n1 (by decide) (.inr ⟨rfl, by rw [show m (Str.ofString "_nfinished") = _ from n2.nf]; rfl⟩) ?_
      have s₄ := s''.setNs (A' := A) (G' := G.done k) (m := setv m n_nf (.int (((G.setNp k (-2)).decs (G.su k)).nf + 1) 0)) (by
          have := n2.setNf (G' := G.done k) rfl rfl
          rw [o4]; exact this) rfl rfl rfl rfl (fun l₂ hl₂ => by
          have hl₂ : ((G.setNp k (-2)).decs (G.su k)).ready = some l₂ := hl₂
          exact ⟨(s''.s.rdy l₂ hl₂).1, (s''.s.rdy l₂ hl₂).2, s''.s.rin l₂ hl₂, fun o e => s''.apart _ o e (.inr (.inr (.inr (.inr ⟨by rw [hl₂]; rfl, rfl⟩))))⟩)
      w_fin
      exact ⟨by walk_at "w lk", by walk_at "w lk", s₄⟩
    | i + 1, hx' => exact nomatch (show (none : Option Value) = some x from hx')
  refine el_AA q_ ?_; clear q_; intro hself hn2i s'
  obtain ⟨m₂, σ₂⟩ := S₂
  have s' : SrtF 137 40 kv A (G.done k) a fr₁ σ₂ := s'
  w_fin
  exact ⟨⟨S.m, _⟩, ⟨fun _ _ e => e, fun b o e => e⟩, h _ (s'.weak back)⟩
end
end
end
section
section
variable {g : Gl Int} {c : Ac} {S S' : St Int} {Q : Value -> St Int -> Prop} {a b : Addr} {xs ys : List Value} {P : Params}
section
variable {kv : Int -> Value} {A : SA Int} {G : SG Int} {fr : Addr -> Option (AO Int)} {k : Int} {l : List Int}
theorem fn_find_cycle (hK : g.K = hd.heap_1 P) : FnIs g.K 127 (bodyOf P 127) (fdOf P 127).scope (fdOf P 127) :=
  fnIs ⟨_, _, _, rfl⟩ (by kernel_rfl) rfl rfl rfl rfl hK
theorem so_find_cycle : scopeOk (fdOf P 127).scope = true := by kernel_rfl
theorem W_find_cycle (hK : g.K = hd.heap_1 P) (hd : c.Deep 1) (K : KeyOk g kv) (s : SrtF 137 40 kv A G a fr S.σ) (hz : G.ks.length ≤ 1000)
    (h1 : ∀ (r : Int -> Nat) σ', (∀ k ∈ G.ks, ∀ w ∈ G.su k, r w < r k) -> (∀ b o, S.σ b = some o -> σ' b = some o) -> Q .none ⟨S.m, σ'⟩)
    (h2 : ∀ q R σ', IsRing G.su q -> (∀ z ∈ q, z ∈ G.ks) -> S.σ R = none -> (∀ b o, S.σ b = some o -> σ' b = some o) -> σ' R = some (.list (q.map kv)) -> Q (.ref R) ⟨S.m, σ'⟩) : WCX g c .none (.ref 127) [.ref a] S Q (fun _ => False) := by
  refine WCX.drop (WCX.ofD (WDX_def (n := 0) hd (fn_find_cycle hK) so_find_cycle (B := [(Str.ofString "self", .ref a)]) (fun us hu => ?_) (by kernel_rfl) fun c' hs hx hd' => ?_))
  · (refine el_EA (map1 hu) ?_; intro u rfl_27 hu'; subst rfl_27)
    exact ⟨[(Str.ofString "self", u)], by kernel_rfl, by simp [hu']⟩
  refine WXsX.of (WXsF.le (S' := ⟨setv (fun _ => none) (Str.ofString "self") (.ref a), S.σ⟩) ?_ (Le.refl _))
  show WXsF g c' (_ :: _) _ _
  obtain ⟨sm, σ₀⟩ := S
  have s : SrtF 137 40 kv A G a fr σ₀ := s
  w_fin
  refine G_n2i hK s ?_
  w_fin
  refine ⟨by decide +kernel, fun T hT => ?_⟩
  w_fin
  refine ⟨by decide +kernel, fun I hI => ?_⟩
  w_fin
  refine WC_set0 fun E hE => ?_
  w_fin
  intro D hD lo
  w_fin
  have hσ₀ : ∀ b o, σ₀ b = some o -> upd (upd (upd (upd σ₀ T (.list [])) I (.list [])) E (.set (fun _ => false) 0)) D (.dict [] 0) b = some o := fun b o e => by
    rw [upd_le hD b o (upd_le hE b o (upd_le hI b o (upd_le hT b o e)))]
  have hD : upd (upd (upd σ₀ T (.list [])) I (.list [])) E (.set (fun _ => false) 0) D = none := hD
  have hE : upd (upd σ₀ T (.list [])) I (.list []) E = none := hE
  have hI : upd σ₀ T (.list []) I = none := hI
  have hT : σ₀ T = none := hT
  have TI : T ≠ I := by rintro rfl; rw [upd_self] at hI; exact Mine.sn hI
  have TE : T ≠ E := by rintro rfl; rw [upd_le hI _ _ upd_self] at hE; exact Mine.sn hE
  have IE : I ≠ E := by rintro rfl; rw [upd_self] at hE; exact Mine.sn hE
  have d₀ : DS kv A σ₀ T I E D [] [] [] (upd (upd (upd (upd σ₀ T (.list [])) I (.list [])) E (.set (fun _ => false) 0)) D (.dict [] 0)) := by
    refine ⟨hσ₀, upd_le hD _ _ (upd_le hE _ _ (upd_le hI _ _ upd_self)), upd_le hD _ _ (upd_le hE _ _ upd_self), ⟨_, fun _ => rfl, upd_le hD _ _ upd_self⟩, ⟨0, upd_self⟩, trivial, fun b hb => ?_, TI, List.nodup_nil, (fun _ h => nomatch h)⟩
    have no : ∀ {σ : Addr -> Option (AO Int)} {z : Addr} {σ₁ : Addr -> Option (AO Int)}, (∀ b o, σ₁ b = some o -> σ b = some o) -> σ z = none -> σ₁ z = none := fun {σ z σ₁} h e => by
      cases q : σ₁ z with
      | none => rfl
      | some o => rw [h _ _ q] at e; exact Mine.sn e
    rcases hb with rfl | rfl | rfl | rfl | ⟨_, hm, _⟩
    · exact hT
    · exact no (upd_le hT) hI
    · exact no (fun b o e => upd_le hI b o (upd_le hT b o e)) hE
    · exact no (fun b o e => upd_le hE b o (upd_le hI b o (upd_le hT b o e))) hD
    cases hm
  refine el_E s.s.dict ?_; intro ep₀ hAD
  refine WXF_For (fun _ _ => rfl) ?_
  w_fin
  generalize upd (upd (upd (upd σ₀ T (.list [])) I (.list [])) E (.set (fun _ => false) 0)) D (.dict [] 0) = σ₁ at *
  let Inv_1 : Nat -> St Int -> Prop := fun i S' => Nm S'.m A.D T I E D /\ ∃ sn r cnt, DS kv A σ₀ T I E D sn [] [] S'.σ /\ DI G.ks G.su sn [] r cnt /\ ∀ j x, j < i -> G.ks[j]? = some x -> x ∈ sn
  refine ⟨_, _, iter_dict K (d₀.keep _ _ hAD) s.s.lo, Inv_1,
    ⟨⟨by walk_at "w lk", by walk_at "w lk", by walk_at "w lk", by walk_at "w lk", by walk_at "w lk"⟩, [], _, _, d₀, .start, fun j x h => absurd h (Nat.not_lt_zero _)⟩, fun i S₂ ⟨_, sn, r, cnt, d, _⟩ => d.keep _ _ hAD, fun i x S₂ hx' q_ => ?_, fun S₂ q_ => ?_⟩
  · (refine el_AEEEAA q_ ?_; clear q_; intro nm sn r cnt d di old)
    rw [List.getElem?_map, List.getElem?_map, Option.map_map, Option.map_eq_some_iff] at hx'
    refine el_EA hx' ?_; (try clear hx'); intro x₀ hx₀ rfl_26; subst rfl_26
    show WAsg g c' _ (kv x₀) _ _
    have hx₀k : x₀ ∈ G.ks := List.mem_of_getElem? hx₀
    obtain ⟨m₂, σ₂⟩ := S₂
    have nm : Nm m₂ A.D T I E D := nm
    have d : DS kv A σ₀ T I E D sn [] [] σ₂ := d
    obtain ⟨n1, n2, n3, n4, n5⟩ := id nm
    w_fin
    refine el_EA d.hE ?_; intro Pd hPd hE₂
    refine WCmp_inS K hE₂ ?_
    rw [hPd]
    w_fin
    by_cases q₀ : x₀ ∈ sn
    · rw [if_pos (decide_eq_true q₀)]
      w_fin
      refine ⟨nm.set _, sn, r, cnt, d, di, fun j x hj hx => ?_⟩
      rcases Nat.lt_succ_iff_lt_or_eq.mp hj with hj | rfl
      · exact old j x hj hx
      rw [hx₀] at hx; (replace hx := Option.some.inj hx; subst hx); exact q₀
    first | refine if_no (by simpa using q₀) ?_ | rw [if_neg (by simpa using q₀)]
    w_fin
    refine WXF_While (fun n S' => StA kv A G σ₀ T I E D sn x₀ n S') _ ⟨nm.set _, sn, [], [], r, cnt, x₀, rfl, by walk_at "w lk", hx₀k, d, di, trivial, .inr rfl, fun _ h => h⟩ fun n S₃ q_ => ?_
    refine el_AEEEEEEAAAAAAA q_ ?_; clear q_; intro nm₃ sn₃ stk ms r₃ cnt₃ x hn hnode hxk d₃ di₃ pa hx₀' sub
    obtain ⟨m₃, σ₃⟩ := S₃
    have nm₃ : Nm m₃ A.D T I E D := nm₃
    have hnode : m₃ (Str.ofString "node") = some (kv x) := hnode
    have d₃ : DS kv A σ₀ T I E D sn₃ stk ms σ₃ := d₃
    obtain ⟨n1, n2, n3, n4, n5⟩ := id nm₃
    refine el_EA d₃.hE ?_; intro Pd₃ hPd₃ hE₃
    refine WT_value (fun _ _ => rfl) (WE_bool (WTr_bool ?_))
    first | refine if_yes rfl ?_ | rw [if_pos rfl]
    refine WXsF_cons ?_
    refine WXF.mono (Q := fun f S' => match f with | .next => ∃ m, m ≤ n /\ StB kv A G σ₀ T I E D sn x₀ m S' | .ret v => ∃ q R, v = .ref R /\ IsRing G.su q /\ (∀ z ∈ q, z ∈ G.ks) /\ σ₀ R = none /\ (∀ b o, σ₀ b = some o -> S'.σ b = some o) /\ S'.σ R = some (.list (q.map kv)) | _ => False) ?_ fun f S₄ hf => ?_
    · w_fin
      refine WCmp_inS K hE₃ ?_
      rw [hPd₃]
      w_fin
      by_cases q₁ : x ∈ sn₃
      · rw [if_pos (decide_eq_true q₁)]
        refine el_E d₃.hD ?_; intro ep₃ hD₃
        w_fin
        refine WCmp_inD K hD₃ lo ?_
        rw [nk_has]
        w_fin
        by_cases q₂ : x ∈ stk.map (·.1)
        · rw [if_pos (decide_eq_true q₂)]
          refine el_EA (List.mem_map.mp q₂) ?_; intro nn_25 hm e; obtain ⟨x', p⟩ := nn_25
          obtain rfl : x' = x := e
          refine el_EE (List.append_of_mem hm) ?_; intro top rest rfl_24; subst rfl_24
          refine WXsF_consL ?_
          intro Q_
          refine WXF_ofReturn (WX_Return (WE_BinOp (WE_SliceL ?_)))
          w_fin
          refine ⟨T, rfl, WPart_some ?_⟩
          w_fin
          refine WSub_dict hD₃ ⟨_, fun _ _ => rfl⟩ (WItem_dict K hD₃ (v := .int rest.length 0) (by
            have := nk_at (x := x') (top := top.map (·.1)) (rest := rest.map (·.1)) (by have := di₃.nd; rw [List.map_append, List.map_cons] at this; exact this)
            rw [List.length_map] at this
            rw [List.map_append, List.map_cons]; exact this) ?_)
          refine ⟨_, rfl, WPart_none ⟨_, .inl d₃.hT, ?_, fun R₁ hR₁ => ?_⟩⟩
          · rw [List.length_map, List.length_reverse, sizeLine_eq]
            have := nodup_sub_length di₃.nd (fun z hz => di₃.sk z (di₃.ss z hz))
            exact om23 ‹_› (Nat.le_trans ‹_› (by decide))
          have hR₁ : σ₃ R₁ = none := hR₁
          have eP : pickL (((top ++ (x', p) :: rest).map (·.1)).reverse.map kv) (some rest.length) none = (x' :: (top.map (·.1)).reverse).map kv := pick_top
          rw [eP]
          w_fin
          refine ⟨(show 1 ≤ sizeLine by decide +kernel), fun R₂ hR₂ => ?_⟩
          have hR₂ : upd σ₃ R₁ (.list ((x' :: (top.map (·.1)).reverse).map kv)) R₂ = none := hR₂
          refine WBin_addL (upd_le hR₂ _ _ upd_self) upd_self ?_ fun R hR => ?_
          · have h1 := nodup_sub_length di₃.nd (fun z hz => di₃.sk z (di₃.ss z hz))
            rw [List.map_append, List.map_cons, List.length_append, List.length_cons, List.length_map] at h1
            rw [List.length_map, List.length_cons, List.length_reverse, List.length_map, sizeLine_eq]
            show _ + 1 ≤ _
            lia
          have hR : upd (upd σ₃ R₁ (.list ((x' :: (top.map (·.1)).reverse).map kv))) R₂ (.list [kv x']) R = none := hR
          refine ⟨x' :: (top.map (·.1)).reverse ++ [x'], R, rfl, di₃.ring pa, fun z hz => ?_, ?_, fun b o e => upd_le hR _ _ (upd_le hR₂ _ _ (upd_le hR₁ _ _ (d₃.keep b o e))), ?_⟩
          · refine di₃.sk z (di₃.ss z ?_)
            simp only [List.mem_append, List.mem_cons, List.mem_reverse, List.not_mem_nil, or_false] at hz
            rw [List.map_append, List.map_cons, List.mem_append, List.mem_cons]
            rcases hz with (hz | hz) | hz
            · exact .inr (.inl hz)
            · exact .inl hz
            exact .inr (.inl hz)
          · cases q : σ₀ R with
            | none => rfl
            | some o => rw [upd_le hR₂ _ _ (upd_le hR₁ _ _ (d₃.keep R o q))] at hR; exact Mine.sn hR
          show upd _ R _ R = _
          rw [upd_self, List.map_append]; rfl
        first | refine if_no (by simpa using q₂) ?_ | rw [if_neg (by simpa using q₂)]
        w_fin
        exact ⟨n, Nat.le_refl _, nm₃, sn₃, stk, ms, r₃, cnt₃, hn, d₃, di₃, pa.seen ⟨q₁, q₂⟩, hx₀'.elim id (fun h => h ▸ q₁), sub⟩
      first | refine if_no (by simpa using q₁) ?_ | rw [if_neg (by simpa using q₁)]
      have hlen := nodup_sub_length di₃.nd (fun z hz => di₃.sk z (di₃.ss z hz))
      have hsl := nodup_sub_length di₃.snd di₃.sk
      w_fin
      refine WGM_setAdd hE₃ ?_
      w_fin
      refine WC_setAdd K hE₃ (Nat.lt_of_le_of_lt (m := 1001) (by lia) (by decide +kernel)) ?_
      first | refine if_no (by rw [hPd₃]; simpa using q₁) ?_ | rw [if_neg (by rw [hPd₃]; simpa using q₁)]
      have s₃ := d₃.srt s
      have sE := fun (b : Addr) (o : AO Int) (e : σ₃ b = some o) (hb : b ≠ E) => (show upd σ₃ E (.set (fun k' => Pd₃ k' || decide (k' = x)) (sn₃.length + 1)) b = some o from (if_neg hb).trans e)
      have nE : ∀ z, σ₃ z = none -> z ≠ E := fun z hz e => by rw [e, hE₃] at hz; exact Mine.sn hz
      refine el_E d₃.hD ?_; intro ep₃ hD₃
      have hDE : D ≠ E := ne_of_kind hD₃ hE₃ (fun e => by exact (nomatch e))
      have hTE : T ≠ E := ne_of_kind d₃.hT hE₃ (fun e => by exact (nomatch e))
      have hIE : I ≠ E := ne_of_kind d₃.hI hE₃ (fun e => by exact (nomatch e))
      have frE : fr E = none := by
        cases q : fr E with
        | none => rfl
        | some o => have := s.keep E o q; rw [d₃.loc E (.inr (.inr (.inl rfl)))] at this; exact Mine.ns this
      have owE : ¬ Own A G a E := fun q => by
        refine el_E (s.s.own q) ?_; intro o e
        rw [d₃.loc E (.inr (.inr (.inl rfl)))] at e; exact Mine.ns e
      have s₄ : SrtF 137 40 kv A G a fr (upd σ₃ E (.set (fun k' => Pd₃ k' || decide (k' = x)) (sn₃.length + 1))) := s₃.ext fun b o e hb => sE b o e (by
        rintro rfl
        rcases hb with hb | ⟨o', hb⟩
        · exact owE hb
        · rw [frE] at hb; exact Mine.ns hb)
      have hE₄ : upd σ₃ E (.set (fun k' => Pd₃ k' || decide (k' = x)) (sn₃.length + 1)) E = some (.set (fun k' => Pd₃ k' || decide (k' = x)) (sn₃.length + 1)) := upd_self
      have hI₄ := sE I _ d₃.hI hIE
      have hT₄ := sE T _ d₃.hT hTE
      have hD₄ := sE D _ hD₃ hDE
      have kp₄ : ∀ b o, σ₃ b = some o -> b ≠ T -> b ≠ I -> b ≠ D -> b ≠ E -> upd σ₃ E (.set (fun k' => Pd₃ k' || decide (k' = x)) (sn₃.length + 1)) b = some o := fun b o e _ _ _ hb => sE b o e hb
      have no₄ : ∀ z, upd σ₃ E (.set (fun k' => Pd₃ k' || decide (k' = x)) (sn₃.length + 1)) z = none -> σ₃ z = none := fun z hz => by
        unfold upd at hz
        split at hz
        · exact Mine.sn hz
        exact hz
      generalize upd σ₃ E (.set (fun k' => Pd₃ k' || decide (k' = x)) (sn₃.length + 1)) = σ₄ at *
      refine el_E s₄.s.dict ?_; intro ep₄ hA₄
      w_fin
      refine ⟨I, _, rfl, hI₄, ?_⟩
      w_fin
      refine WSub_dict hA₄ ⟨_, fun _ _ => rfl⟩ (WItem_dict K (kvs := _) hA₄ (by rw [valueAt_keys, if_pos hxk]) ?_)
      w_fin
      refine G_slot hK s₄ hxk (i := 2) (by kernel_rfl) rfl rfl ?_
      w_fin
      refine WC_iter (s₄.s.sl x hxk) fun it hit => ?_
      w_fin
      refine WGet_next upd_self fun mw hmw => ?_
      have hit : σ₄ it = none := hit
      have hmw₀ : upd σ₄ it (litX (A.sl x)) mw = none := hmw
      have hne : it ≠ mw := by rintro rfl; rw [upd_self] at hmw₀; exact Mine.sn hmw₀
      have hmw : σ₄ mw = none := by
        unfold upd at hmw₀
        rwa [if_neg (Ne.symm hne)] at hmw₀
      have kp₅ : ∀ b o, σ₄ b = some o -> upd (upd (upd σ₄ it (litX (A.sl x))) it (litO (A.sl x) 0)) mw (mwO it) b = some o := fun b o e => by
        have n1 : b ≠ it := by rintro rfl; rw [hit] at e; exact Mine.ns e
        have n2 : b ≠ mw := by rintro rfl; rw [hmw] at e; exact Mine.ns e
        exact (if_neg n2).trans ((if_neg n1).trans ((if_neg n1).trans e))
      have hmw₅ : upd (upd (upd σ₄ it (litX (A.sl x))) it (litO (A.sl x) 0)) mw (mwO it) mw = some (mwO it) := upd_self
      have hit₅ : upd (upd (upd σ₄ it (litX (A.sl x))) it (litO (A.sl x) 0)) mw (mwO it) it = some (litO (A.sl x) 0) := (if_neg hne).trans upd_self
      show ∃ xs, upd (upd (upd σ₄ it (litX (A.sl x))) it (litO (A.sl x) 0)) mw (mwO it) I = some (.list xs) /\ _ /\ _
      generalize upd (upd (upd σ₄ it (litX (A.sl x))) it (litO (A.sl x) 0)) mw (mwO it) = σ₅ at *
      refine ⟨_, kp₅ _ _ hI₄, ?_, ?_⟩
      · rw [List.length_map, List.length_reverse, d₃.len, sizeLine_eq]
        rw [List.length_map] at hlen
        exact om23 ‹_› (Nat.le_trans ‹_› (by decide))
      have hT₅ := kp₅ _ _ hT₄
      have hD₅ := kp₅ _ _ hD₄
      have hE₅ := kp₅ _ _ hE₄
      have hTI := d₃.TI
      have hTD : T ≠ D := ne_of_kind d₃.hT hD₃ (fun e => by exact (nomatch e))
      have hID : I ≠ D := ne_of_kind d₃.hI hD₃ (fun e => by exact (nomatch e))
      have hT₆ : upd σ₅ I (.list (List.map (fun m => Value.ref m.fst) ms.reverse ++ [.ref mw])) T = _ := (if_neg hTI).trans hT₅
      have hD₆ : upd σ₅ I (.list (List.map (fun m => Value.ref m.fst) ms.reverse ++ [.ref mw])) D = _ := (if_neg (Ne.symm hID)).trans hD₅
      have hI₆ : upd σ₅ I (.list (List.map (fun m => Value.ref m.fst) ms.reverse ++ [.ref mw])) I = _ := upd_self
      have kp₆ : ∀ b o, b ≠ I -> σ₅ b = some o -> upd σ₅ I (.list (List.map (fun m => Value.ref m.fst) ms.reverse ++ [.ref mw])) b = some o := fun b o hb e => (if_neg hb).trans e
      show WXsF g c' _ ⟨m₃, upd σ₅ I (.list (List.map (fun m => Value.ref m.fst) ms.reverse ++ [.ref mw]))⟩ _
      generalize upd σ₅ I (.list (List.map (fun m => Value.ref m.fst) ms.reverse ++ [.ref mw])) = σ₆ at *
      w_fin
      refine WX_AssignSub (fun _ => rfl) ?_
      w_fin
      refine WC_len (S := ⟨_, σ₆⟩) hT₆ ?_ ?_
      · rw [List.length_map, List.length_reverse]; lia
      w_fin
      refine WSetItem_dict K (kvs := _) hD₆ ?_ fun ep' => ?_
      · rw [nk_len, sizeLine_eq]; exact om23 ‹_› (Nat.le_trans ‹_› (by decide))
      have hT₇ := (if_neg hTD : (if T = D then some (AO.dict (stored (nk (List.map (·.1) stk)) x (.int (List.map kv (List.map (·.1) stk).reverse).length 0)) ep') else σ₆ T) = _).trans hT₆
      w_fin
      refine ⟨T, _, rfl, hT₇, ?_⟩
      w_fin
      refine ⟨_, hT₇, ?_, ?_⟩
      · rw [List.length_map, List.length_reverse, sizeLine_eq]; omega
      have hxs : x ∉ stk.map (·.1) := fun q => q₁ (di₃.ss x q)
      have hst : stored (nk (List.map (·.1) stk)) x (.int (List.map kv (List.map (·.1) stk).reverse).length 0) = nk (x :: stk.map (·.1)) := by
        rw [stored_new (by rw [nk_keys, List.mem_reverse]; exact hxs), List.length_map, List.length_reverse]; rfl
      refine el_A (di₃.push q₁ hxk pa) ?_; intro di₄ pb₄
      w_fin
      refine ⟨_, Nat.le_of_lt (hn ▸ dm_push hxk q₁), nm₃, sn₃ ++ [x], (x, 0) :: stk, (mw, it) :: ms, r₃, cnt₃, rfl, d₃.push (x := x) (mw := mw) (it := it) (fun b o e h1 h2 h3 h4 => ?_) ?_ ?_ ⟨ep', ?_⟩ ⟨fun k' => Pd₃ k' || decide (k' = x), fun k => ?_, ?_⟩ ?_ ?_ (no₄ _ hmw) (no₄ _ hit) hne, di₄, pb₄, ?_, fun z hz => List.mem_append_left _ (sub z hz)⟩
      · exact (if_neg h1).trans ((if_neg h3).trans (kp₆ _ _ h2 (kp₅ _ _ (kp₄ b o e h1 h2 h3 h4))))
      · show upd _ T _ T = _
        rw [upd_self, List.reverse_cons, List.map_append]; rfl
      · refine (if_neg (Ne.symm hTI)).trans ((if_neg hID).trans (hI₆.trans ?_))
        rw [List.reverse_cons, List.map_append]; rfl
      · refine (if_neg (Ne.symm hTD)).trans ?_
        rw [← hst]; exact upd_self
      · show (Pd₃ k || decide (k = x)) = _
        rw [hPd₃]
        by_cases h1 : k ∈ sn₃ <;> by_cases h2 : k = x <;> simp [h1, h2]
      · refine (if_neg (Ne.symm hTE)).trans ((if_neg (Ne.symm hDE)).trans (kp₆ _ _ (Ne.symm hIE) (hE₅.trans ?_)))
        rw [List.length_append]; rfl
      · have n0 := no₄ _ hmw
        have nn : ∀ z o, σ₃ z = some o -> mw ≠ z := fun z o e q => by rw [← q, n0] at e; exact Mine.ns e
        exact (if_neg (nn _ _ d₃.hT)).trans ((if_neg (nn _ _ hD₃)).trans (kp₆ _ _ (nn _ _ d₃.hI) hmw₅))
      · have n0 := no₄ _ hit
        have nn : ∀ z o, σ₃ z = some o -> it ≠ z := fun z o e q => by rw [← q, n0] at e; exact Mine.ns e
        exact (if_neg (nn _ _ d₃.hT)).trans ((if_neg (nn _ _ hD₃)).trans (kp₆ _ _ (nn _ _ d₃.hI) hit₅))
      rcases hx₀' with h | h
      · exact List.mem_append_left _ h
      rw [h]; simp
    cases f with
    | brk => exact hf.elim
    | cont => exact hf.elim
    | ret v =>
      refine el_EEAAAAA hf ?_; (try clear hf); intro q R rfl_23 hq hqk hR hk hl; subst rfl_23
      exact ⟨⟨sm, S₄.σ⟩, ⟨fun _ _ e => e, fun b o e => e⟩, h2 q R _ hq hqk hR hk hl⟩
    | next =>
      refine el_EA hf ?_; (try clear hf); intro m hm hB
      refine WXsF_cons ?_
      refine WXF_While (fun k S' => k ≤ n /\ StB kv A G σ₀ T I E D sn x₀ k S') m ⟨hm, hB⟩ fun k S₅ q_ => ?_
      refine el_AAEEEEEAAAAA q_ ?_; clear q_; intro hk nm₅ sn₅ stk₅ ms₅ r₅ cnt₅ hn₅ d₅ di₅ pb₅ hx₀₅ sub₅
      obtain ⟨m₅, σ₅⟩ := S₅
      have nm₅ : Nm m₅ A.D T I E D := nm₅
      have d₅ : DS kv A σ₀ T I E D sn₅ stk₅ ms₅ σ₅ := d₅
      obtain ⟨n1, n2, n3, n4, n5⟩ := id nm₅
      have hlen := nodup_sub_length di₅.nd (fun z hz => di₅.sk z (di₅.ss z hz))
      rw [List.length_map] at hlen
      w_fin
      refine WTr_list d₅.hT (by rw [List.length_map, List.length_reverse, List.length_map]; lia) ?_
      cases stk₅ with
      | nil =>
        obtain rfl : ms₅ = [] := List.length_eq_zero_iff.mp d₅.len
        first | refine if_no (by simp) ?_ | rw [if_neg (by simp)]
        w_fin
        refine ⟨nm₅, sn₅, r₅, cnt₅, d₅, di₅, fun j z hj hz => ?_⟩
        rcases Nat.lt_succ_iff_lt_or_eq.mp hj with hj | rfl
        · exact sub₅ z (old j z hj hz)
        rw [hx₀] at hz; (replace hz := Option.some.inj hz; subst hz); exact hx₀₅
      | cons yp stk₅ =>
        obtain ⟨y, p⟩ := yp
        obtain ⟨⟨mw, it⟩, ms₅, rfl⟩ : ∃ m ms', ms₅ = m :: ms' := by
          cases ms₅ with
          | nil => exact d₅.its.elim
          | cons m ms' => exact ⟨m, ms', rfl⟩
        first | refine if_yes (by simp) ?_ | rw [if_pos (by simp)]
        have hI₅ := d₅.hI
        have hT₅ := d₅.hT
        rw [List.reverse_cons, List.map_append] at hI₅
        rw [List.map_cons, List.reverse_cons, List.map_append] at hT₅
        refine el_AA d₅.its ?_; intro its₁ its₂ its₃
        have hms := d₅.len
        rw [List.length_cons, List.length_cons] at hms
        have hyk : y ∈ G.ks := di₅.sk y (di₅.ss y (by rw [List.map_cons]; exact .head _))
        refine WXsF_consL ?_
        intro Q_
        refine WXF_TryNext hs hx (by kernel_rfl) (by kernel_rfl) (by rw [hK]; kernel_rfl) (fun _ => rfl) ?_
        w_fin
        refine WSub_neg (S := ⟨m₅, σ₅⟩) (k := -1) (x := .ref mw) hI₅ (by decide) (by rw [List.length_append, List.length_map]; simp; lia) (by decide) (by
          rw [List.length_append, List.length_map, List.length_reverse]
          show (_ ++ [Value.ref mw])[(-1 + ((ms₅.length + 1 : Nat) : Int)).toNat]? = _
          rw [show (-1 + ((ms₅.length + 1 : Nat) : Int)).toNat = (List.map (fun m : Addr × Addr => Value.ref m.1) ms₅.reverse).length by rw [List.length_map, List.length_reverse]; lia]
          simp) ?_
        refine ⟨mw, it, _, _, rfl, its₁, its₂, _, (d₅.srt s).s.sl y hyk, fun v hv => ?_, fun hv => ?_⟩
        · rw [List.getElem?_map, Option.map_eq_some_iff] at hv
          refine el_EA hv ?_; (try clear hv); intro w hw rfl_22; subst rfl_22
          refine el_A (di₅.adv pb₅ hw) ?_; intro di₆ pa₆
          refine WXsF_nil ?_
          exact ⟨_, Nat.lt_of_lt_of_le (hn₅ ▸ dm_adv (List.getElem?_eq_some_iff.mp hw).1) hk, nm₅.set _, sn₅, (y, p + 1) :: stk₅, (mw, it) :: ms₅, r₅, cnt₅, w, rfl, by walk_at "w lk", s.s.clo y hyk w (List.mem_of_getElem? hw), d₅.adv, di₆, pa₆, .inl hx₀₅, sub₅⟩
        rw [List.getElem?_map, Option.map_eq_none_iff] at hv
        refine el_A (di₅.pop pb₅ hv) ?_; intro di₆ pb₆
        refine el_E d₅.hD ?_; intro ep₅ hD₅
        have nit : ∀ {b o}, σ₅ b = some o -> (∀ P, o ≠ .raw P) -> upd σ₅ it (.raw fun _ => True) b = some o := fun h hn => (if_neg (ne_of_kind h its₂ (hn _))).trans h
        have nd := di₅.nd
        rw [List.map_cons, List.nodup_cons] at nd
        have hTI := d₅.TI
        have hTD : T ≠ D := ne_of_kind d₅.hT hD₅ (fun e => by exact (nomatch e))
        have hID : I ≠ D := ne_of_kind d₅.hI hD₅ (fun e => by exact (nomatch e))
        rw [List.length_cons] at hlen
        refine WXsM_pops K (fun _ => rfl) (fun _ => rfl) (fun _ => rfl) (by rw [hs]; kernel_rfl) (by rw [hs]; kernel_rfl) (by rw [hs]; kernel_rfl) n5 n2 n3 (nit hD₅ (fun _ e => by exact (nomatch e))) (nit hT₅ (fun _ e => by exact (nomatch e))) (nit hI₅ (fun _ e => by exact (nomatch e))) hTI
          (by rw [nk_len, List.length_map, List.length_cons, sizeLine_eq]; exact om23 ‹_› (Nat.le_trans ‹_› (by decide))) (by rw [List.length_map, List.length_reverse, List.length_map, sizeLine_eq]; omega) (by rw [List.length_map, List.length_reverse, sizeLine_eq]; lia) (by rw [nk_has, List.map_cons]; simp) fun ep' => ?_
        refine WXsF_nil ?_
        refine ⟨_, hn₅ ▸ dm_pop, Nat.le_trans (Nat.le_of_lt (hn₅ ▸ dm_pop)) hk, nm₅, sn₅, stk₅, ms₅, _, _, rfl, d₅.pop (fun b o e h1 h2 h3 h4 => ?_) ?_ ?_ ⟨ep', ?_⟩, di₆, pb₆, hx₀₅, sub₅⟩
        · exact (if_neg h2).trans ((if_neg h3).trans ((if_neg h1).trans ((if_neg h4).trans e)))
        · exact (if_neg hTI).trans ((if_neg hTD).trans upd_self)
        · exact upd_self
        refine (if_neg (Ne.symm hID)).trans (upd_self.trans ?_)
        rw [List.map_cons, nk_without nd.1]
  refine el_AEEEAA q_ ?_; clear q_; intro nm sn r cnt d di old
  obtain ⟨m₂, σ₂⟩ := S₂
  have d : DS kv A σ₀ T I E D sn [] [] σ₂ := d
  w_fin
  refine ⟨⟨sm, _⟩, ⟨fun _ _ e => e, fun b o e => e⟩, h1 r _ (fun k hk w hw => ?_) d.keep⟩
  refine el_E (List.getElem?_of_mem hk) ?_; intro j hj
  have hjl : j < (List.map (fun p => kv p.1) (List.map (fun k => (k, Value.ref (A.info k))) G.ks)).length := by
    rw [List.length_map, List.length_map]; exact (List.getElem?_eq_some_iff.mp hj).1
  exact (di.fin k ⟨old j k hjl hj, (fun h => nomatch h)⟩ w hw).2
end
end
end
section
section
variable {g : Gl Int} {c : Ac} {S S' : St Int} {Q : Value -> St Int -> Prop} {a b : Addr} {xs ys : List Value} {P : Params}
section
variable {kv : Int -> Value} {A : SA Int} {G : SG Int} {fr : Addr -> Option (AO Int)} {k : Int} {l : List Int}
theorem fn_prepare (hK : g.K = hd.heap_1 P) : FnIs g.K 92 (bodyOf P 92) (fdOf P 92).scope (fdOf P 92) :=
  fnIs ⟨_, _, _, rfl⟩ (by kernel_rfl) rfl rfl rfl rfl hK
theorem so_prepare : scopeOk (fdOf P 92).scope = true := by kernel_rfl
theorem cycErr (hK : g.K = hd.heap_1 P) : ExcOk g (Str.ofString "CycleError") 55 := ⟨by rw [hK]; exact gl_CycleError, by rw [hK]; kernel_rfl⟩
theorem WE_Joined1 {v : Expr} {pos : Pos} (h : WE g c v S Q) : WE g c (.JoinedStr [v] pos) S Q := fun H s R => wpAny_JoinedStr_one (h H s R)
noncomputable def SG.prep (G : SG Int) : SG Int := { G with ready := some (G.ks.filter fun k => decide (G.np k = 0)) }
theorem W_prepare (hK : g.K = hd.heap_1 P) (hd : c.Deep 2) (K : KeyOk g kv) (s : SrtF 137 40 kv A G a fr S.σ) (hr : G.ready = none) (hz : G.ks.length ≤ 1000) {QE : St Int -> Prop}
    (h1 : ∀ (r : Int -> Nat) A' σ', (∀ k ∈ G.ks, ∀ w ∈ G.su k, r w < r k) -> SrtF 137 40 kv A' G.prep a fr σ' -> Q .none ⟨S.m, σ'⟩)
    (h2 : ∀ q A' σ', IsRing G.su q -> SrtF 137 40 kv A' G.prep a fr σ' -> QE ⟨S.m, σ'⟩) : WCX g c (.ref 55) (.ref 92) [.ref a] S Q QE := by
  refine WCX.drop (WCX.ofD (WDX_def (n := 1) hd (fn_prepare hK) so_prepare (B := [(Str.ofString "self", .ref a)]) (fun us hu => ?_) (by kernel_rfl) fun c' hs hx hd' => ?_))
  · (refine el_EA (map1 hu) ?_; intro u rfl_30 hu'; subst rfl_30)
    exact ⟨[(Str.ofString "self", u)], by kernel_rfl, by simp [hu']⟩
  show WXsX g c' _ (_ :: _) ⟨setv (fun _ => none) (Str.ofString "self") (.ref a), S.σ⟩ _ _
  obtain ⟨sm, σ₀⟩ := S
  have s : SrtF 137 40 kv A G a fr σ₀ := s
  refine WXsX_cons (WXX.of ?_)
  w_fin
  refine G_rdy (S := ⟨_, σ₀⟩) hK s ?_
  rw [show rdyV A G = .none by unfold rdyV; rw [hr]]
  w_fin
  rw [show (!(Value.none == Value.none)) = false from rfl]
  w_fin
  refine WXsX_cons (WXX.of (WXF.of (WX_AssignAttr (fun _ => rfl) ?_)))
  refine WE_Comp (fun _ _ => rfl) hs (by kernel_rfl) (by kernel_rfl) (by kernel_rfl) ?_
  w_fin
  refine G_n2i (S := ⟨_, σ₀⟩) hK s ?_
  refine el_E s.s.dict ?_; intro ep hD
  refine WGM_dict (S := ⟨_, σ₀⟩) (kvs := _) PySem.F.slot_dict_values PySem.F.type_dict_values hD ?_
  w_fin
  refine WC_values (S := ⟨_, σ₀⟩) hD s.s.lo fun r hr₀ => ?_
  have s₁ := s.new (o := valsO A.D) hr₀
  have hr₁ : upd σ₀ r (valsO A.D) r = _ := upd_self
  have hD₁ := upd_le (o := valsO A.D) hr₀ _ _ hD
  show CompPost g c' _ _ _ _ _ _ _ ⟨setv (fun _ => none) (Str.ofString "self") (.ref a), upd σ₀ r (valsO A.D)⟩
  generalize upd σ₀ r (valsO A.D) = σ₁ at *
  have accLen : ∀ i, (((G.ks.take i).filter fun k => decide (G.np k = 0)).map kv).length ≤ i := fun i => by
    rw [List.length_map]
    exact Nat.le_trans (List.length_filter_le _ _) (by rw [List.length_take]; exact Nat.min_le_left _ _)
  let Inv_1 : Nat -> List Value -> St Int -> Prop := fun i acc S' => S'.σ = σ₁ /\ acc = ((G.ks.take i).filter fun k => decide (G.np k = 0)).map kv
  refine ⟨_, _, iter_vals hr₁ hD₁, Inv_1, ⟨rfl, rfl⟩, fun i acc S₂ ⟨e, ea⟩ => ⟨by rw [e]; exact hD₁, by rw [ea]; exact accLen i⟩, by rw [List.length_map, List.length_map, sizeLine_eq]; exact Nat.le_trans ‹_› (by decide), fun c₂ hs₂ hx₂ hd₂ i y acc S₂ hy q_ => ?_, fun acc S₂ ⟨e, ea⟩ R hR => ?_⟩
  · (refine el_A q_ ?_; clear q_; intro e ea)
    rw [List.getElem?_map, List.getElem?_map, Option.map_map, Option.map_eq_some_iff] at hy
    refine el_EA hy ?_; (try clear hy); intro k hk rfl_29; subst rfl_29
    have hkk : k ∈ G.ks := List.mem_of_getElem? hk
    obtain ⟨m₂, σ₂⟩ := S₂
    obtain rfl : σ₂ = σ₁ := e
    show WIfs g c₂ _ ⟨setv m₂ _ (.ref (A.info k)), σ₂⟩ _
    w_fin
    refine G_slot (S := ⟨_, σ₂⟩) hK s₁ hkk (i := 1) (by kernel_rfl) rfl rfl ?_
    w_fin
    have hsucc : (((G.ks.take (i + 1)).filter fun k => decide (G.np k = 0)).map kv) = ((G.ks.take i).filter fun k => decide (G.np k = 0)).map kv ++ (if G.np k = 0 then [kv k] else []) := by
      rw [List.take_add_one, hk, Option.toList, List.filter_append, List.map_append, List.filter_cons]
      by_cases q : G.np k = 0
      · rw [if_pos q, if_pos (by simpa using q)]; rfl
      rw [if_neg q, if_neg (by simpa using q)]; rfl
    by_cases q : G.np k = 0
    · first | refine if_yes (by rw [q]; rfl) ?_ | rw [if_pos (by rw [q]; rfl)]
      w_fin
      refine G_slot (S := ⟨_, σ₂⟩) hK s₁ hkk (i := 0) (by kernel_rfl) rfl (K.hand k) ?_
      exact ⟨rfl, by rw [hsucc, if_pos q, ea]⟩
    first | refine if_no (by simpa using q) ?_ | rw [if_neg (by simpa using q)]
    exact ⟨rfl, by rw [hsucc, if_neg q, ea, List.append_nil]⟩
  obtain ⟨m₂, σ₂⟩ := S₂
  obtain rfl : σ₂ = σ₁ := e
  have hR : σ₂ R = none := hR
  have hacc : acc = (G.ks.filter fun k => decide (G.np k = 0)).map kv := by
    rw [ea, List.take_of_length_le (by rw [List.length_map, List.length_map]; exact Nat.le_refl _)]
  subst hacc
  have s₂ := s₁.new (o := .list ((G.ks.filter fun k => decide (G.np k = 0)).map kv)) hR
  have hR₂ : upd σ₂ R (.list ((G.ks.filter fun k => decide (G.np k = 0)).map kv)) R = _ := upd_self
  w_fin
  refine el_EA s₂.s.ns ?_; intro m n1 n2
  refine WSet_own (k' := 4) (setsA hK (by kernel_rfl)) s₂.s.inst n1 (by decide) (.inr ⟨rfl, by rw [show m (Str.ofString "_ready_nodes") = _ from n2.rdy]; rfl⟩) ?_
  have s₃ := s₂.setNs (A' := { A with R := R }) (G' := G.prep) (m := setv m n_rdy (.ref R)) (n2.setRdy (A' := { A with R := R }) (G' := G.prep) rfl rfl rfl) rfl rfl rfl rfl (fun l hl => by
    (replace hl := Option.some.inj hl; subst hl)
    refine ⟨hR₂, fun k hk e => ?_, fun w hw => (List.mem_filter.mp hw).1, fun o e => ?_⟩
    · have := s₁.s.sl k hk
      rw [e, hR] at this; exact Mine.ns this
    · have := s₁.keep _ o e
      rw [hR] at this; exact Mine.ns this)
  show WXsX g c' _ _ ⟨_, upd (upd σ₂ R (.list ((G.ks.filter fun k => decide (G.np k = 0)).map kv))) A.d (.ns (setv m n_rdy (.ref R)) 4)⟩ _ _
  generalize upd (upd σ₂ R (.list ((G.ks.filter fun k => decide (G.np k = 0)).map kv))) A.d (.ns (setv m n_rdy (.ref R)) 4) = σ₃ at *
  have hK₃ := G.prep.ks
  refine WXsX_cons (WXX.of (WXF_AssignName (fun _ => rfl) (WEF_Meth (fun _ => rfl) rfl ?_)))
  w_fin
  refine M_find_cycle (S := ⟨_, σ₃⟩) hK s₃ ?_
  refine ⟨by rw [hK]; kernel_rfl, W_find_cycle (S := ⟨_, σ₃⟩) hK hd' K s₃ hz (fun r σ₄ hrk kp => ?_) fun q R' σ₄ hq hqk hR' kp hl => ?_⟩
  · have s₄ : SrtF 137 40 kv _ G.prep a fr σ₄ := s₃.ext fun b o e _ => kp b o e
    w_fin
    refine WXsX_cons (WXX_If ?_)
    w_fin
    refine WXsX.of (WXsF_nil (WXsX.of (WXsF_nil ?_)))
    exact ⟨⟨sm, σ₄⟩, ⟨fun _ _ e => e, fun b o e => e⟩, h1 r _ _ hrk s₄⟩
  have s₄ : SrtF 137 40 kv _ G.prep a fr σ₄ := s₃.ext fun b o e _ => kp b o e
  w_fin
  refine WXsX_cons (WXX_If ?_)
  w_fin
  refine WTr_list (S := ⟨_, σ₄⟩) hl ?_ ?_
  · have := hq.len hqk
    have : q.length ≤ G.ks.length + 1 := this
    rw [List.length_map]; lia
  have hne : q.map kv ≠ [] := by
    refine el_EEA hq ?_; (try clear hq); intro x l rfl_28 _; subst rfl_28
    simp
  first | refine if_yes (by cases h : q.map kv with | nil => exact absurd h hne | cons _ _ => rfl) ?_ | rw [if_pos (by cases h : q.map kv with | nil => exact absurd h hne | cons _ _ => rfl)]
  refine WXsX_cons (WXX_Raise (cycErr hK) (by rw [hs]; kernel_rfl) (by kernel_rfl) ?_)
  w_fin
  refine WE_Joined1 ?_
  w_fin
  exact ⟨(show 2 ≤ sizeLine by decide +kernel), ⟨sm, σ₄⟩, ⟨fun _ _ e => e, fun b o e => e⟩, h2 q _ _ hq s₄⟩
end
end
end
section
section
structure LedOk (es : List (Int × Int)) (G : SG Int) : Prop where
  ks : ∀ x, x ∈ G.ks ↔ ∃ e ∈ es, x = e.1 ∨ x = e.2
  su : ∀ k, G.su k = (es.filter fun e => decide (e.1 = k)).map (·.2)
  np : ∀ k, G.np k = ((es.filter fun e => decide (e.2 = k)).length : Int)
  ready : G.ready = none
  po : G.po = 0
  nf : G.nf = 0
  len : G.ks.length ≤ 2 * es.length
theorem SG.addNode_same {G : SG Int} {k : Int} (h : k ∉ G.ks -> G.su k = [] /\ G.np k = 0) : (G.addNode k).su = G.su /\ (G.addNode k).np = G.np /\ (G.addNode k).ready = G.ready /\ (G.addNode k).po = G.po /\ (G.addNode k).nf = G.nf /\ ∀ x, x ∈ (G.addNode k).ks ↔ x ∈ G.ks ∨ x = k := by
  unfold SG.addNode
  split
  · rename_i q
    exact ⟨rfl, rfl, rfl, rfl, rfl, fun x => ⟨.inl, fun h => h.elim id fun e => e ▸ q⟩⟩
  rename_i q
  refine el_A (h q) ?_; intro h1 h2
  refine ⟨funext fun j => ?_, funext fun j => ?_, rfl, rfl, rfl, fun x => by simp⟩
  · dsimp only
    split
    · rename_i e; rw [e, h1]
    rfl
  dsimp only
  split
  · rename_i e; rw [e, h2]
  rfl
theorem LedOk.nil : LedOk [] (SG.nil : SG Int) := ⟨fun x => by simp [SG.nil], fun _ => rfl, fun _ => rfl, rfl, rfl, rfl, Nat.le_refl _⟩
theorem LedOk.add {es : List (Int × Int)} {G : SG Int} (h : LedOk es G) (p k : Int) : LedOk (es ++ [(p, k)]) (G.add k [p]) := by
  have out : ∀ {x}, x ∉ G.ks -> G.su x = [] /\ G.np x = 0 := fun {x} hx => by
    have no : ∀ e ∈ es, x ≠ e.1 /\ x ≠ e.2 := fun e he => ⟨fun q => hx ((h.ks x).mpr ⟨e, he, .inl q⟩), fun q => hx ((h.ks x).mpr ⟨e, he, .inr q⟩)⟩
    refine ⟨?_, ?_⟩
    · rw [h.su, List.filter_eq_nil_iff.mpr fun e he => by simpa using fun q => (no e he).1 q.symm]; rfl
    rw [h.np, List.filter_eq_nil_iff.mpr fun e he => by simpa using fun q => (no e he).2 q.symm]; rfl
  refine el_AAAAA (SG.addNode_same (G := G) (k := k) out) ?_; intro a1 a2 a3 a4 a5 a6
  have e1 : G.add0 k ([p] : List Int).length = (G.addNode k).setNp k (G.np k + 1) := by
    unfold SG.add0
    rw [a2]; rfl
  have out₂ : p ∉ (G.add0 k ([p] : List Int).length).ks -> (G.add0 k ([p] : List Int).length).su p = [] /\ (G.add0 k ([p] : List Int).length).np p = 0 := fun hp => by
    rw [e1] at hp ⊢
    have hp : p ∉ (G.addNode k).ks := hp
    rw [a6, not_or] at hp
    refine ⟨?_, ?_⟩
    · show (G.addNode k).su p = []
      rw [a1]; exact (out hp.1).1
    show (if p = k then _ else (G.addNode k).np p) = 0
    rw [if_neg hp.2, a2]; exact (out hp.1).2
  refine el_AAAAA (SG.addNode_same (G := G.add0 k ([p] : List Int).length) (k := p) out₂) ?_; intro b1 b2 b3 b4 b5 b6
  have eG : G.add k [p] = (((G.add0 k ([p] : List Int).length).addNode p).pushSu p k) := rfl
  rw [eG]
  have hl₁ : (G.addNode k).ks.length ≤ G.ks.length + 1 := SG.len_addNode G k
  have hl₂ := SG.len_addNode (G.add0 k ([p] : List Int).length) p
  refine ⟨fun x => ?_, fun j => ?_, fun j => ?_, ?_, ?_, ?_, ?_⟩
  · show x ∈ ((G.add0 k ([p] : List Int).length).addNode p).ks ↔ _
    rw [b6, e1]
    show (x ∈ (G.addNode k).ks ∨ x = p) ↔ _
    rw [a6, h.ks]
    constructor
    · rintro ((⟨e, he, q⟩ | q) | q)
      · exact ⟨e, List.mem_append_left _ he, q⟩
      · exact ⟨(p, k), by simp, .inr q⟩
      exact ⟨(p, k), by simp, .inl q⟩
    intro q_
    refine el_EA q_ ?_; clear q_; intro e he q
    rcases List.mem_append.mp he with he | he
    · exact .inl (.inl ⟨e, he, q⟩)
    rw [List.mem_singleton.mp he] at q
    exact q.elim .inr fun q => .inl (.inr q)
  · show (if j = p then ((G.add0 k ([p] : List Int).length).addNode p).su p ++ [k] else ((G.add0 k ([p] : List Int).length).addNode p).su j) = _
    rw [b1, e1]
    show (if j = p then (G.addNode k).su p ++ [k] else (G.addNode k).su j) = _
    rw [a1, List.filter_append, List.map_append]
    split
    · rename_i q
      subst q
      rw [h.su]; simp
    rename_i q
    rw [h.su]
    have : p ≠ j := fun e => q e.symm
    simp [this]
  · show ((G.add0 k ([p] : List Int).length).addNode p).np j = _
    rw [b2, e1]
    show (if j = k then G.np k + 1 else (G.addNode k).np j) = _
    rw [a2, List.filter_append, List.length_append]
    split
    · rename_i q
      subst q
      rw [h.np]; simp
    rename_i q
    rw [h.np]
    have : k ≠ j := fun e => q e.symm
    simp [this]
  · show ((G.add0 k ([p] : List Int).length).addNode p).ready = _
    rw [b3, e1]; exact a3.trans h.ready
  · show ((G.add0 k ([p] : List Int).length).addNode p).po = _
    rw [b4, e1]; exact a4.trans h.po
  · show ((G.add0 k ([p] : List Int).length).addNode p).nf = _
    rw [b5, e1]; exact a5.trans h.nf
  show ((G.add0 k ([p] : List Int).length).addNode p).ks.length ≤ _
  have e2 : (G.add0 k ([p] : List Int).length).ks.length = (G.addNode k).ks.length := by rw [e1]; rfl
  rw [List.length_append]
  have := h.len
  have e3 : [(p, k)].length = 1 := rfl
  rw [e3]
  lia
noncomputable def SG.led (es : List (Int × Int)) : SG Int := es.foldl (fun G e => G.add e.2 [e.1]) SG.nil
theorem SG.led_snoc (es : List (Int × Int)) (e : Int × Int) : SG.led (es ++ [e]) = (SG.led es).add e.2 [e.1] := by
  unfold SG.led; rw [List.foldl_append]; rfl
theorem SG.led_take {es : List (Int × Int)} {i : Nat} {e : Int × Int} (h : es[i]? = some e) : SG.led (es.take (i + 1)) = (SG.led (es.take i)).add e.2 [e.1] := by
  rw [List.take_add_one, h]; exact SG.led_snoc _ _
theorem led_ok : ∀ es : List (Int × Int), LedOk es (SG.led es) := by
  have gen : ∀ (l acc : List (Int × Int)) (G : SG Int), LedOk acc G -> LedOk (acc ++ l) (l.foldl (fun G e => G.add e.2 [e.1]) G) := by
    intro l
    induction l with
    | nil => intro acc G h; rw [List.append_nil]; exact h
    | cons e l ih =>
      intro acc G h
      rw [List.foldl_cons, show acc ++ e :: l = (acc ++ [e]) ++ l by simp]
      exact ih _ _ (h.add e.1 e.2)
  exact fun es => gen es [] SG.nil .nil
theorem LedOk.suLen {es : List (Int × Int)} {G : SG Int} (h : LedOk es G) (k : Int) : (G.su k).length ≤ es.length := by
  rw [h.su, List.length_map]; exact List.length_filter_le _ _
theorem LedOk.suMem {es : List (Int × Int)} {G : SG Int} (h : LedOk es G) {k w : Int} : w ∈ G.su k ↔ (k, w) ∈ es := by
  rw [h.su]
  constructor
  · intro q
    refine el_EA (List.mem_map.mp q) ?_; intro nn_77 h1 rfl_78; obtain ⟨x, y⟩ := nn_77; subst rfl_78
    refine el_A (List.mem_filter.mp h1) ?_; intro h1 h2
    rw [← of_decide_eq_true h2]; exact h1
  intro q
  exact List.mem_map.mpr ⟨(k, w), List.mem_filter.mpr ⟨q, decide_eq_true rfl⟩, rfl⟩
noncomputable def DoneOk : List Int -> SG Int -> Prop
  | [], _ => True
  | k :: l, G => k ∈ G.ks /\ G.np k = -1 /\ (∃ r, G.ready = some r /\ r.length + (G.su k).length ≤ 10000) /\ DoneOk l (G.done k)
noncomputable def SG.round (G : SG Int) (l : List Int) : SG Int := l.foldl SG.done (G.getReady l)
noncomputable def Runs : List (List Int) -> SG Int -> Prop
  | [], G => G.ready = some [] /\ G.nf = G.po
  | l :: ls, G => G.ready = some l /\ l ≠ [] /\ l.length ≤ 10000 /\ G.nf = G.po /\ DoneOk l (G.getReady l) /\ Runs ls (G.round l)
theorem DoneOk.at {G : SG Int} : ∀ {l : List Int} {i : Nat} {k : Int}, DoneOk l G -> l[i]? = some k -> k ∈ ((l.take i).foldl SG.done G).ks /\ ((l.take i).foldl SG.done G).np k = -1 /\ ∃ r, ((l.take i).foldl SG.done G).ready = some r /\ r.length + (((l.take i).foldl SG.done G).su k).length ≤ 10000 := by
  intro l
  induction l generalizing G with
  | nil => intro i k _ h; exact Mine.ns h
  | cons x l ih =>
    intro i k ⟨h1, h2, h3, h4⟩ h
    cases i with
    | zero => (replace h := Option.some.inj h; subst h); exact ⟨h1, h2, h3⟩
    | succ i => exact ih h4 h
end
end
section
section
variable {g : Gl Int} {c : Ac} {S S' : St Int} {Q : Value -> St Int -> Prop} {a b : Addr} {xs ys : List Value} {P : Params}
section
variable {g : Gl Int} {S S' : St Int} {Q : Value -> St Int -> Prop} {A : SA Int} {G : SG Int} {fr : Addr -> Option (AO Int)}
theorem fn_led (hK : g.K = hd.heap_1 P) : FnIs g.K 238 (bodyOf P 238) (fdOf P 238).scope (fdOf P 238) :=
  fnIs ⟨_, _, _, rfl⟩ (by kernel_rfl) rfl rfl rfl rfl hK
theorem so_led : scopeOk (fdOf P 238).scope = true := by kernel_rfl
noncomputable abbrev kvI : Int -> Value := fun i => .int i 0
theorem no_rank_ring {su : Int -> List Int} {ks q : List Int} {r : Int -> Nat} (hr : ∀ k ∈ ks, ∀ w ∈ su k, r w < r k) (hq : IsRing su q) (hk : ∀ z ∈ q, z ∈ ks) : False := by
  refine el_EEAA hq ?_; (try clear hq); intro x l rfl_38 hn hc; subst rfl_38
  have gen : ∀ (l : List Int) (u v : Int), (∀ z ∈ u :: l ++ [v], z ∈ ks) -> Ch (fun u v => v ∈ su u) (u :: l ++ [v]) -> r v < r u := by
    intro l
    induction l with
    | nil => exact fun u v hz h => hr u (hz u (.head _)) v h.1
    | cons a l ih => exact fun u v hz h => Nat.lt_trans (ih a v (fun z hz' => hz z (.tail _ hz')) h.2) (hr u (hz u (.head _)) a h.1)
  exact Nat.lt_irrefl _ (gen l x x hk hc)
theorem W_find_cycle2 (hK : g.K = hd.heap_1 P) (hd : c.Deep 1) (K : KeyOk g kvI) (s : SrtF 137 40 kvI A G a fr S.σ) (hz : G.ks.length ≤ 1000)
    (h : ∀ (b : Bool) rv σ', (b = true ↔ ∃ r : Int -> Nat, ∀ k ∈ G.ks, ∀ w ∈ G.su k, r w < r k) -> (rv == .none) = b -> (b = true -> rv = .none) -> (b = false -> ∃ q R, rv = .ref R /\ IsRing G.su q /\ (∀ z ∈ q, z ∈ G.ks) /\ S.σ R = none /\ σ' R = some (.list (q.map kvI))) -> (∀ b o, S.σ b = some o -> σ' b = some o) -> Q rv ⟨S.m, σ'⟩) :
    WCX g c .none (.ref 127) [.ref a] S Q (fun _ => False) :=
  W_find_cycle hK hd K s hz (fun r σ' hr kp => h true .none σ' ⟨fun _ => ⟨r, hr⟩, fun _ => rfl⟩ rfl (fun _ => rfl) (fun e => nomatch e) kp)
    fun q R σ' hq hqk hR kp hl => h false (.ref R) σ' ⟨(fun e => nomatch e), fun ⟨r, hr⟩ => (no_rank_ring hr hq hqk).elim⟩ rfl (fun e => nomatch e) (fun _ => ⟨q, R, rfl, hq, hqk, hR, hl⟩) kp
theorem Ch.at {R : Int -> Int -> Prop} : ∀ {q : List Int}, Ch R q -> ∀ i, i + 1 < q.length -> R (q.getD i 0) (q.getD (i + 1) 0)
  | [], _, i, h => absurd h (Nat.not_lt_zero _)
  | [_], _, i, h => absurd (Nat.lt_of_succ_lt_succ h) (Nat.not_lt_zero _)
  | u :: v :: l, ⟨h1, h2⟩, 0, _ => h1
  | u :: v :: l, ⟨h1, h2⟩, i + 1, h => Ch.at (q := v :: l) h2 i (Nat.lt_of_succ_lt_succ h)
theorem ringOk {su : Int -> List Int} {q : List Int} {ps : List (Int × Int)} (h : IsRing su q) (hs : ∀ k w, w ∈ su k -> (k, w) ∈ ps) : RingOk q ps := by
  refine el_EEAA h ?_; (try clear h); intro x l rfl_37 hn hc; subst rfl_37
  have hl : (x :: l ++ [x]).length = l.length + 2 := by rw [List.length_append]; rfl
  refine ⟨by rw [hl]; exact Nat.le_add_left _ _, ?_, fun i hi => hs _ _ (hc.at i hi), fun i j hij hj => ?_⟩
  · rw [hl, show l.length + 2 - 1 = (x :: l).length from rfl, List.getD_eq_getElem?_getD, List.getD_eq_getElem?_getD, List.getElem?_append_right (Nat.le_refl _), Nat.sub_self]
    rfl
  rw [hl] at hj
  have hjl : j < (x :: l).length := by rw [List.length_cons]; exact Nat.le_of_lt_succ ‹_›
  have hil : i < (x :: l).length := Nat.lt_trans hij hjl
  rw [List.getD_eq_getElem?_getD, List.getD_eq_getElem?_getD, List.getElem?_append_left hil, List.getElem?_append_left hjl, List.getElem?_eq_getElem hil, List.getElem?_eq_getElem hjl]
  exact List.pairwise_iff_getElem.mp hn i j hil hjl hij
theorem pick_from {vs : List Value} {t : Nat} (ht : t ≤ vs.length) : pickL vs (some t) none = vs.drop t := by
  unfold pickL clipAt
  simp only [Option.elim]
  first | refine if_no (by omega) ?_ | rw [if_neg (by (simp))]
  have e2 : (max 0 (min (t : Int) (vs.length : Int))).toNat = t := by exact om04 ‹_›
  rw [e2, List.take_of_length_le (by rw [List.length_drop]; exact Nat.le_refl _)]
theorem pick_to {vs : List Value} {t : Nat} (ht : t ≤ vs.length) : pickL vs none (some t) = vs.take t := by
  unfold pickL clipAt
  simp only [Option.elim]
  first | refine if_no (by omega) ?_ | rw [if_neg (by omega)]
  have e2 : (max 0 (min (t : Int) (vs.length : Int))).toNat = t := by exact om04 ‹_›
  rw [e2, List.drop_zero, Nat.sub_zero]
theorem Refs.rot {σ : Addr -> Option (AO Int)} {T : Addr} {vs : List Value} {ps : List (Int × Int)} (h : Refs σ T vs ps) (t : Nat) : ∀ (j : Nat) (e : Int × Int), (ps.drop t ++ ps.take t)[j]? = some e -> ∃ r : Addr, (vs.drop t ++ vs.take t)[j]? = some (Value.ref r) /\ HasP σ r e := by
  intro j e q
  by_cases hj : j < (ps.drop t).length
  · rw [List.getElem?_append_left hj, List.getElem?_drop] at q
    refine el_EAA (h.2 _ _ q) ?_; intro r h1 h2 _
    exact ⟨r, by rw [List.getElem?_append_left (by rw [List.length_drop, h.1, ← List.length_drop]; exact hj), List.getElem?_drop]; exact h1, h2⟩
  rw [List.getElem?_append_right (by exact Nat.not_lt.mp ‹_›)] at q
  have ht : j - (ps.drop t).length < t := by
    have := (List.getElem?_eq_some_iff.mp q).1
    rw [List.length_take] at this; exact om30 ‹_›
  rw [List.getElem?_take_of_lt ht] at q
  refine el_EAA (h.2 _ _ q) ?_; intro r h1 h2 _
  have el : (vs.drop t).length = (ps.drop t).length := by rw [List.length_drop, List.length_drop, h.1]
  exact ⟨r, by rw [List.getElem?_append_right (by lia), el, List.getElem?_take_of_lt ht]; exact h1, h2⟩
theorem W_led (hK : g.K = hd.heap_1 P) (hd : c.Deep 6) (K : KeyOk g kvI) {T : Addr} {vs : List Value} {ps : List (Int × Int)} (hT : S.σ T = some (.list vs)) (hps : Refs S.σ T vs ps) {t : Nat} (ht : t ≤ ps.length) (hz : ps.length ≤ 300)
    {ls : List (List Int)} (hls : ls.length ≤ 1000) (runs : Runs ls (SG.led (ps.drop t ++ ps.take t)).prep)
    (h : ∀ b : Bool, (b = true ↔ ∃ r : Int -> Nat, ∀ e ∈ ps, r e.2 < r e.1) -> ∀ (R O Z : Addr) (ts : List Value) σ', (∀ b o, S.σ b = some o -> σ' b = some o) -> σ' R = some (.list [.bool b, .ref O, .ref Z]) -> σ' O = some (.list ts) ->
      (ts.length = ls.length /\ ∀ (j : Nat) (l : List Int), ls[j]? = some l -> ∃ T : Addr, ts[j]? = some (Value.ref T) /\ σ' T = some (.tup (iL l))) -> σ' Z = some (.tup []) -> Q (.ref R) ⟨S.m, σ'⟩) : WCX g c .none (.ref 238) [.ref T, .int t 0] S Q fun _ => False := by
  refine WCX.drop (WCX.ofD (WDX_def (n := 5) hd (fn_led hK) so_led (B := [(Str.ofString "steps", .ref T), (Str.ofString "turn", .int t 0)]) (fun us hu => ?_) (by kernel_rfl) fun c' hs hx hd' => ?_))
  · (refine el_EEAA (map2 hu) ?_; intro u u' rfl_36 hu1 hu2; subst rfl_36)
    exact ⟨[(Str.ofString "steps", u), (Str.ofString "turn", u')], by kernel_rfl, by simp [hu1, hu2]⟩
  refine WXsX.of ?_
  show WXsF g c' (_ :: _) ⟨setv (setv (fun _ => none) (Str.ofString "steps") (.ref T)) (Str.ofString "turn") (.int t 0), S.σ⟩ _
  obtain ⟨sm, σ₀⟩ := S
  have hT : σ₀ T = some (.list vs) := hT
  have hps : Refs σ₀ T vs ps := hps
  w_fin
  refine W_new hK (hd'.less (by decide)) kvI fun A a σ₁ kp s => ?_
  w_fin
  refine WXF_For (fun _ _ => rfl) ?_
  refine WE_BinOp (WE_SliceL ?_)
  w_fin
  have htv : t ≤ vs.length := by rw [hps.1]; exact ht
  have hvz : vs.length ≤ sizeLine := by rw [hps.1, sizeLine_eq]; exact Nat.le_trans ‹_› (by decide)
  refine ⟨T, rfl, WPart_some ?_⟩
  w_fin
  refine ⟨_, rfl, WPart_none ⟨vs, .inl (kp _ _ hT), hvz, fun D₁ hD₁ => ?_⟩⟩
  have hD₁ : σ₁ D₁ = none := hD₁
  have s₁ := s.new (o := .list (vs.drop t)) hD₁
  have kp₁ : ∀ b o, σ₀ b = some o -> upd σ₁ D₁ (.list (vs.drop t)) b = some o := fun b o e => upd_le hD₁ _ _ (kp b o e)
  have hD₁' : upd σ₁ D₁ (.list (vs.drop t)) D₁ = _ := upd_self
  rw [pick_from htv]
  show WE g c' _ ⟨_, upd σ₁ D₁ (.list (vs.drop t))⟩ _
  generalize upd σ₁ D₁ (.list (vs.drop t)) = σ₂ at *
  refine WE_SliceL ?_
  w_fin
  refine ⟨T, rfl, WPart_none (WPart_some ?_)⟩
  w_fin
  refine ⟨_, rfl, vs, .inl (kp₁ _ _ hT), hvz, fun D₂ hD₂ => ?_⟩
  have hD₂ : σ₂ D₂ = none := hD₂
  have s₂ := s₁.new (o := .list (vs.take t)) hD₂
  have kp₂ : ∀ b o, σ₀ b = some o -> upd σ₂ D₂ (.list (vs.take t)) b = some o := fun b o e => upd_le hD₂ _ _ (kp₁ b o e)
  have hD₂' : upd σ₂ D₂ (.list (vs.take t)) D₂ = _ := upd_self
  have hD₁'' := upd_le (o := .list (vs.take t)) hD₂ _ _ hD₁'
  rw [pick_to htv]
  show WBin g c' _ _ _ ⟨_, upd σ₂ D₂ (.list (vs.take t))⟩ _
  generalize upd σ₂ D₂ (.list (vs.take t)) = σ₃ at *
  refine WBin_addL (S := ⟨_, σ₃⟩) hD₁'' hD₂' (by rw [List.length_drop, List.length_take]; lia) fun D hD => ?_
  have hD : σ₃ D = none := hD
  have s₃ := s₂.frame (o := .list (vs.drop t ++ vs.take t)) hD
  have frD : upd σ₀ D (.list (vs.drop t ++ vs.take t)) D = _ := upd_self
  have fr₀ : ∀ b o, σ₀ b = some o -> upd σ₀ D (.list (vs.drop t ++ vs.take t)) b = some o := upd_le (by
    cases q : σ₀ D with
    | none => rfl
    | some o => rw [kp₂ D o q] at hD; exact Mine.sn hD)
  show ForFPost g c' _ _ _ _ _ ⟨_, upd σ₃ D (.list (vs.drop t ++ vs.take t))⟩
  generalize upd σ₃ D (.list (vs.drop t ++ vs.take t)) = σ₄ at *
  generalize upd σ₀ D (.list (vs.drop t ++ vs.take t)) = fr₁ at *
  have rot := hps.rot t
  have hlen : (vs.drop t ++ vs.take t).length = (ps.drop t ++ ps.take t).length := by
    rw [List.length_append, List.length_append, List.length_drop, List.length_drop, List.length_take, List.length_take, hps.1]
  have hmem : ∀ e, e ∈ ps.drop t ++ ps.take t ↔ e ∈ ps := fun e => by
    rw [List.mem_append, or_comm, ← List.mem_append, List.take_append_drop]
  have hlenE : (ps.drop t ++ ps.take t).length = ps.length := by
    rw [List.length_append, List.length_drop, List.length_take]; lia
  generalize ps.drop t ++ ps.take t = es at *
  generalize vs.drop t ++ vs.take t = ws at *
  let Inv_1 : Nat -> St Int -> Prop := fun i S' => S'.m (Str.ofString "sorter") = some (.ref a) /\ S'.m (Str.ofString "steps") = some (.ref T) /\ ∃ A', SrtF 137 40 kvI A' (SG.led (es.take i)) a fr₁ S'.σ
  refine ⟨ws, _, iter_list (s₃.keep _ _ frD), Inv_1,
    ⟨by walk_at "w lk", by walk_at "w lk", A, s₃⟩, fun i S₂ ⟨_, _, A', s'⟩ => s'.keep _ _ frD, fun i x S₂ hx' q_ => ?_, fun S₂ q_ => ?_⟩
  · (refine el_AAE q_ ?_; clear q_; intro hso hst A' s')
    obtain ⟨m₂, σ₅⟩ := S₂
    have s' : SrtF 137 40 kvI A' (SG.led (es.take i)) a fr₁ σ₅ := s'
    have hso : m₂ (Str.ofString "sorter") = some (.ref a) := hso
    have hst : m₂ (Str.ofString "steps") = some (.ref T) := hst
    obtain ⟨e, he⟩ : ∃ e, es[i]? = some e := by
      have := (List.getElem?_eq_some_iff.mp hx').1
      exact ⟨_, List.getElem?_eq_getElem (by lia)⟩
    refine el_EA (rot i e he) ?_; intro r h1 h2
    rw [h1] at hx'
    obtain rfl := Option.some.inj hx'
    have hr : σ₅ r = some (.list [.int e.1 0, .int e.2 0]) := s'.keep _ _ (fr₀ _ _ h2)
    refine WAsg_list2 (S := ⟨m₂, σ₅⟩) hr ?_
    w_fin
    refine M_add (S := ⟨_, σ₅⟩) hK s' ?_
    w_fin
    have lo := led_ok (es.take i)
    have hle : (es.take i).length ≤ 300 := by rw [List.length_take]; lia
    refine W_add1 (S := ⟨_, σ₅⟩) (kv := kvI) (k := e.2) (p := e.1) hK (hd'.less (by decide)) K s' lo.ready (by have := lo.len; lia) (b := 300) (fun j => Nat.le_trans (lo.suLen j) hle) (by decide) fun A₂ σ₆ s₆ => ?_
    w_fin
    exact ⟨by walk_at "w lk", by walk_at "w lk", A₂, by rw [SG.led_take he]; exact s₆⟩
  refine el_AAE q_ ?_; clear q_; intro hso hst A' s'
  rw [List.take_of_length_le (by lia)] at s'
  obtain ⟨m₂, σ₅⟩ := S₂
  have s' : SrtF 137 40 kvI A' (SG.led es) a fr₁ σ₅ := s'
  have hso : m₂ (Str.ofString "sorter") = some (.ref a) := hso
  have hst : m₂ (Str.ofString "steps") = some (.ref T) := hst
  have lo := led_ok es
  have hks : (SG.led es).ks.length ≤ 1000 := by have := lo.len; lia
  generalize SG.led es = G₀ at *
  refine WXsF_nil ?_
  show WXsF g c' (_ :: _) _ _
  refine WXsF_consL ?_
  intro Q_
  refine WXF_AssignName (fun _ => rfl) (WEF_Meth (fun _ => rfl) rfl ?_)
  w_fin
  refine M_find_cycle (S := ⟨_, σ₅⟩) hK s' ⟨by rw [hK]; kernel_rfl, W_find_cycle2 (S := ⟨_, σ₅⟩) hK (hd'.less (by decide)) K s' hks fun b rv σ₆ hb hrv hbt hbf kp₆ => ?_⟩
  have s₆ : SrtF 137 40 kvI A' G₀ a fr₁ σ₆ := s'.ext fun b o e _ => kp₆ b o e
  have hbr : b = true ↔ ∃ r : Int -> Nat, ∀ e ∈ ps, r e.2 < r e.1 := hb.trans ⟨fun ⟨r, hr⟩ => ⟨r, fun e he => hr e.1 ((lo.ks _).mpr ⟨e, (hmem e).mpr he, .inl rfl⟩) e.2 (lo.suMem.mpr ((hmem e).mpr he))⟩,
    fun ⟨r, hr⟩ => ⟨r, fun k _ w hw => hr (k, w) ((hmem _).mp (lo.suMem.mp hw))⟩⟩
  w_fin
  obtain ⟨fr₂, up₂, s₆', hrR⟩ : ∃ fr₂ : Addr -> Option (AO Int), (∀ b o, fr₁ b = some o -> fr₂ b = some o) /\ SrtF 137 40 kvI A' G₀ a fr₂ σ₆ /\ (b = false -> ∃ q R, rv = .ref R /\ IsRing G₀.su q /\ (∀ z ∈ q, z ∈ G₀.ks) /\ fr₂ R = some (.list (iL q))) := by
    cases b with
    | true => exact ⟨fr₁, fun _ _ e => e, s₆, fun e => nomatch e⟩
    | false =>
      refine el_EEAAAA (hbf rfl) ?_; intro q R h1 h2 h3 h4 h5
      have hR : σ₅ R = none := h4
      refine ⟨upd fr₁ R (.list (iL q)), fun b o e => (if_neg ?_).trans e, (s'.frame (o := .list (iL q)) hR).le fun b o e => ?_, fun _ => ⟨q, R, h1, h2, h3, upd_self⟩⟩
      · rintro rfl
        rw [s'.keep _ _ e] at hR; exact Mine.sn hR
      unfold upd at e
      split at e
      · rename_i qq; subst qq; (replace e := Option.some.inj e; subst e); exact h5
      exact kp₆ b o e
  refine WXF.mono (Q := fun f S' => f = .next /\ S'.m (Str.ofString "free") = some (.bool b) /\ S'.m (Str.ofString "ring") = some rv /\ S'.m (Str.ofString "sorter") = some (.ref a) /\ S'.m (Str.ofString "steps") = some (.ref T) /\ ∃ A₂, SrtF 137 40 kvI A₂ G₀.prep a fr₂ S'.σ) ?_ fun f S₃ hf => ?_
  · refine WXF_TryOwn (cycErr hK) (by rw [hs]; kernel_rfl) (fun _ => rfl) (fun _ => rfl) ?_
    w_fin
    refine M_prepare (S := ⟨_, σ₆⟩) hK s₆' ⟨by rw [hK]; kernel_rfl, W_prepare (S := ⟨_, σ₆⟩) hK (hd'.less (by decide)) K s₆' lo.ready hks (fun r A₂ σ₇ hrk s₇ => ?_) fun q A₂ σ₇ hq s₇ => ?_⟩
    · obtain rfl : b = true := hb.mpr ⟨r, hrk⟩
      w_fin
      exact ⟨rfl, rfl, by walk_at "w lk", by walk_at "w lk", by walk_at "w lk", by walk_at "w lk", A₂, s₇⟩
    obtain rfl : b = false := by
      cases b with
      | false => rfl
      | true =>
        refine el_E (hb.mp rfl) ?_; intro r hr
        exact (no_ring (f := r) (fun u v h => hr u ((lo.ks _).mpr ⟨(u, v), lo.suMem.mp h, .inl rfl⟩) v h) hq).elim
    refine WXsM_set (by rw [hs]; kernel_rfl) hx (fun _ => rfl) ?_
    exact ⟨rfl, by walk_at "w lk", by walk_at "w lk", by walk_at "w lk", by walk_at "w lk", A₂, s₇⟩
  refine el_AAAAAE hf ?_; (try clear hf); intro rfl_35 hfree hring hso hst A₂ s₇; subst rfl_35
  obtain ⟨m₃, σ₇⟩ := S₃
  have s₇ : SrtF 137 40 kvI A₂ G₀.prep a fr₂ σ₇ := s₇
  have hfree : m₃ (Str.ofString "free") = some (.bool b) := hfree
  have hring : m₃ (Str.ofString "ring") = some rv := hring
  have hso : m₃ (Str.ofString "sorter") = some (.ref a) := hso
  have hst : m₃ (Str.ofString "steps") = some (.ref T) := hst
  w_fin
  rw [hrv]
  refine WCmp_neBool ?_
  rw [show (b != b) = false by cases b <;> rfl]
  refine WTr_bool ?_
  first | refine if_no Bool.false_ne_true ?_ | rw [if_neg Bool.false_ne_true]
  refine WXsF_nil ?_
  show WXsF g c' (_ :: _) _ _
  refine WXsF_consL ?_
  intro Q_
  refine WXF.mono (Q := fun f S' => f = .next /\ S' = ⟨m₃, σ₇⟩) ?_ fun f S₃ hf => ?_
  · refine WXF_If ?_
    w_fin
    cases b with
    | true =>
      first | refine if_no (by decide) ?_ | rw [if_neg (by decide)]
      w_fin
      exact ⟨rfl, rfl⟩
    | false =>
      first | refine if_yes (show (!false) = true from rfl) ?_ | rw [if_pos (show (!false) = true from rfl)]
      refine el_EEAAA (hrR rfl) ?_; intro q R rfl_34 hq hqk hRf; subst rfl_34
      w_fin
      refine W_rings (S := ⟨_, σ₇⟩) (q := q) (ps := ps) (vs := vs) hK (hd'.less (by decide)) (s₇.keep _ _ hRf) (s₇.keep _ _ (up₂ _ _ (fr₀ _ _ hT))) ⟨hps.1, fun j p e => ?_⟩ ?_ (ringOk hq fun k w hw => (hmem _).mp (lo.suMem.mp hw)) (by exact Nat.le_trans ‹_› (by decide)) ?_
      · (refine el_EAA (hps.2 j p e) ?_; intro r h1 h2 h3)
        exact ⟨r, h1, s₇.keep _ _ (up₂ _ _ (fr₀ _ _ h2)), h3⟩
      · have := hq.len hqk
        have := lo.len
        lia
      w_fin
      first | refine if_no (by decide) ?_ | rw [if_neg (by decide)]
      w_fin
      exact ⟨rfl, rfl⟩
  refine el_A hf ?_; (try clear hf); intro rfl_32 rfl_33; subst rfl_32; subst rfl_33
  w_fin
  refine ⟨Nat.zero_le _, fun O hO => ?_⟩
  have hO : σ₇ O = none := hO
  have s₈ := s₇.frame (o := .list []) hO
  have O₂ : fr₂ O = none := by
    cases q : fr₂ O with
    | none => rfl
    | some o => rw [s₇.keep O o q] at hO; exact Mine.sn hO
  have frO : upd fr₂ O (.list []) O = _ := upd_self
  have kp₈ : ∀ b o, σ₀ b = some o -> upd fr₂ O (.list []) b = some o := fun b o e => upd_le O₂ _ _ (up₂ _ _ (fr₀ _ _ e))
  show WXsF g c' (_ :: _) ⟨_, upd σ₇ O (.list [])⟩ _
  generalize upd σ₇ O (.list []) = σ₈ at *
  generalize upd fr₂ O (.list []) = fr₃ at *
  refine WXsF_cons (WXF.of (WX_While (fun n S' => S'.m (Str.ofString "free") = some (.bool b) /\ S'.m (Str.ofString "rounds") = some (.ref O) /\ S'.m (Str.ofString "sorter") = some (.ref a) /\
      ∃ ls₁ ls₂ ts A₃ G₃ fr', ls = ls₁ ++ ls₂ /\ n = ls₂.length /\ SrtF 137 40 kvI A₃ G₃ a fr' S'.σ /\ Runs ls₂ G₃ /\ fr' O = some (.list ts) /\ ts.length = ls₁.length /\ (∀ (j : Nat) (l : List Int), ls₁[j]? = some l -> ∃ T : Addr, ts[j]? = some (Value.ref T) /\ fr' T = some (.tup (iL l))) /\ ∀ b o, σ₀ b = some o -> fr' b = some o)
    ls.length ⟨by walk_at "w lk", by walk_at "w lk", by walk_at "w lk", [], ls, [], A₂, G₀.prep, fr₃, rfl, rfl, s₈, runs, frO, rfl, (fun j l h => nomatch h), kp₈⟩ fun n S₃ q_ => ?_))
  refine el_AAAEEEEEEAAAAAAA q_ ?_; clear q_; intro hfree hro hso ls₁ ls₂ ts A₃ G₃ fr' els en s₉ rn hts tsl tsj kp₉
  obtain ⟨m₄, σ₉⟩ := S₃
  have s₉ : SrtF 137 40 kvI A₃ G₃ a fr' σ₉ := s₉
  have hfree : m₄ (Str.ofString "free") = some (.bool b) := hfree
  have hro : m₄ (Str.ofString "rounds") = some (.ref O) := hro
  have hso : m₄ (Str.ofString "sorter") = some (.ref a) := hso
  w_fin
  refine M_is_active (S := ⟨_, σ₉⟩) hK s₉ ?_
  w_fin
  cases ls₂ with
  | nil =>
    refine el_A rn ?_; (try clear rn); intro hr hnf
    refine W_active (S := ⟨_, σ₉⟩) hK (hd'.less (by decide)) s₉ hr (by decide) ?_
    rw [show (decide (G₃.nf < G₃.po) || !([] : List Int).isEmpty) = false by rw [hnf, decide_eq_false (Int.lt_irrefl _)]; rfl]
    w_fin
    refine M_get_ready (S := ⟨_, σ₉⟩) hK s₉ ?_
    w_fin
    refine W_get_ready (S := ⟨_, σ₉⟩) hK (hd'.less (by decide)) K s₉ hr (by decide) fun Z σ₁₀ hZ s₁₀ => ?_
    have hZ : σ₉ Z = none := hZ
    have frZ : upd fr' Z (.tup (List.map kvI [])) Z = _ := upd_self
    have kp₁₀ := fr_new (o := .tup (List.map kvI [])) s₉ hZ
    w_fin
    refine ⟨(show 3 ≤ sizeLine by decide +kernel), fun R hR => ?_⟩
    have hR : σ₁₀ R = none := hR
    rw [List.append_nil] at els
    subst els
    refine ⟨⟨sm, _⟩, ⟨fun _ _ e => e, fun b o e => e⟩, h b hbr R O Z ts _ (fun x o e => upd_le hR _ _ (s₁₀.keep _ _ (kp₁₀ _ _ (kp₉ _ _ e)))) upd_self (upd_le hR _ _ (s₁₀.keep _ _ (kp₁₀ _ _ hts))) ⟨tsl, fun j l hj => ?_⟩ (upd_le hR _ _ (s₁₀.keep _ _ frZ))⟩
    refine el_EA (tsj j l hj) ?_; intro T' h1 h2
    exact ⟨T', h1, upd_le hR _ _ (s₁₀.keep _ _ (kp₁₀ _ _ h2))⟩
  | cons l ls₂ =>
    refine el_AAAAA rn ?_; (try clear rn); intro hr hne hl hnf dn rn
    refine W_active (S := ⟨_, σ₉⟩) hK (hd'.less (by decide)) s₉ hr hl ?_
    rw [show (decide (G₃.nf < G₃.po) || !l.isEmpty) = true by cases l with | nil => exact absurd rfl hne | cons _ _ => simp]
    w_fin
    refine M_get_ready (S := ⟨_, σ₉⟩) hK s₉ ?_
    w_fin
    refine W_get_ready (S := ⟨_, σ₉⟩) hK (hd'.less (by decide)) K s₉ hr hl fun Z σ₁₀ hZ s₁₀ => ?_
    have hZ : σ₉ Z = none := hZ
    have frZ : upd fr' Z (.tup (List.map kvI l)) Z = _ := upd_self
    have kp₁₀ := fr_new (o := .tup (List.map kvI l)) s₉ hZ
    have hOZ : O ≠ Z := by
      rintro rfl
      have := s₉.keep _ _ hts
      rw [hZ] at this; exact Mine.ns this
    have frO₁₀ := kp₁₀ _ _ hts
    have tsj₁₀ : ∀ (j : Nat) (l' : List Int), ls₁[j]? = some l' -> ∃ T : Addr, ts[j]? = some (Value.ref T) /\ upd fr' Z (.tup (List.map kvI l)) T = some (.tup (iL l')) := fun j l' hj => by
      refine el_EA (tsj j l' hj) ?_; intro T' h1 h2
      exact ⟨T', h1, kp₁₀ _ _ h2⟩
    have kpσ₁₀ : ∀ b o, σ₀ b = some o -> upd fr' Z (.tup (List.map kvI l)) b = some o := fun b o e => kp₁₀ _ _ (kp₉ _ _ e)
    generalize upd fr' Z (.tup (List.map kvI l)) = fr₅ at *
    w_fin
    refine ⟨O, ts, rfl, s₁₀.keep _ _ frO₁₀, ?_⟩
    w_fin
    refine ⟨ts, s₁₀.keep _ _ frO₁₀, ?_, ?_⟩
    · have : ls₁.length ≤ ls.length := by rw [els, List.length_append]; exact Nat.le_add_right _ _
      rw [tsl, sizeLine_eq]; exact om23 ‹_› (Nat.le_trans ‹_› (by decide))
    have s₁₁ := s₁₀.put (o' := .list (ts ++ [.ref Z])) frO₁₀
    have frO₁₁ : upd fr₅ O (.list (ts ++ [.ref Z])) O = _ := upd_self
    have O₀ : σ₀ O = none := by
      cases q : σ₀ O with
      | none => rfl
      | some o => rw [s₇.keep _ _ (up₂ _ _ (fr₀ _ _ q))] at hO; exact Mine.sn hO
    have kp₁₁ : ∀ x o, σ₀ x = some o -> upd fr₅ O (.list (ts ++ [.ref Z])) x = some o := fun x o e => (if_neg (by rintro rfl; rw [O₀] at e; exact Mine.ns e)).trans (kpσ₁₀ x o e)
    have tup₁₁ : ∀ {x : Addr} {xs : List Value}, fr₅ x = some (.tup xs) -> upd fr₅ O (.list (ts ++ [.ref Z])) x = some (.tup xs) := fun {x xs} e => (if_neg (ne_of_kind e frO₁₀ (fun e => by exact (nomatch e)))).trans e
    have frZ₁₁ := tup₁₁ frZ
    have tsj₁₁ : ∀ (j : Nat) (l' : List Int), (ls₁ ++ [l])[j]? = some l' -> ∃ T : Addr, (ts ++ [.ref Z])[j]? = some (Value.ref T) /\ upd fr₅ O (.list (ts ++ [.ref Z])) T = some (.tup (iL l')) := fun j l' hj => by
      by_cases q : j < ls₁.length
      · rw [List.getElem?_append_left q] at hj
        refine el_EA (tsj₁₀ j l' hj) ?_; intro T' h1 h2
        exact ⟨T', by rw [List.getElem?_append_left (by lia)]; exact h1, tup₁₁ h2⟩
      rw [List.getElem?_append_right (by exact Nat.not_lt.mp ‹_›)] at hj
      have hj0 : j - ls₁.length = 0 := by
        have := (List.getElem?_eq_some_iff.mp hj).1
        rw [List.length_singleton] at this; lia
      rw [hj0] at hj
      (replace hj := Option.some.inj hj; subst hj)
      exact ⟨Z, by rw [List.getElem?_append_right (by lia), tsl, hj0]; rfl, frZ₁₁⟩
    show WXs g c' (_ :: _) ⟨_, upd σ₁₀ O (.list (ts ++ [.ref Z]))⟩ _
    generalize upd σ₁₀ O (.list (ts ++ [.ref Z])) = σ₁₁ at *
    generalize upd fr₅ O (.list (ts ++ [.ref Z])) = fr₆ at *
    w_fin
    refine WX_For (fun _ _ => rfl) ?_
    w_fin
    let Inv_2 : Nat -> St Int -> Prop := fun i S' => S'.m (Str.ofString "free") = some (.bool b) /\ S'.m (Str.ofString "rounds") = some (.ref O) /\ S'.m (Str.ofString "sorter") = some (.ref a) /\ SrtF 137 40 kvI A₃ ((l.take i).foldl SG.done (G₃.getReady l)) a fr₆ S'.σ
    refine ⟨iL l, _, iter_tup (S := ⟨_, σ₁₁⟩) (s₁₁.keep _ _ frZ₁₁), Inv_2,
      ⟨by walk_at "w lk", by walk_at "w lk", by walk_at "w lk", s₁₁⟩, fun i S₄ ⟨_, _, _, s'⟩ => s'.keep _ _ frZ₁₁, fun i x S₄ hx' q_ => ?_, fun S₄ q_ => ?_⟩
    · (refine el_AAA q_ ?_; clear q_; intro hfree hro hso s')
      unfold iL at hx'
      rw [List.getElem?_map, Option.map_eq_some_iff] at hx'
      refine el_EA hx' ?_; (try clear hx'); intro k hk rfl_31; subst rfl_31
      obtain ⟨m₅, σ₁₂⟩ := S₄
      have s' : SrtF 137 40 kvI A₃ ((l.take i).foldl SG.done (G₃.getReady l)) a fr₆ σ₁₂ := s'
      have hfree : m₅ (Str.ofString "free") = some (.bool b) := hfree
      have hro : m₅ (Str.ofString "rounds") = some (.ref O) := hro
      have hso : m₅ (Str.ofString "sorter") = some (.ref a) := hso
      refine el_AAEA (dn.at hk) ?_; intro d1 d2 r d3 d4
      have esucc : (l.take (i + 1)).foldl SG.done (G₃.getReady l) = ((l.take i).foldl SG.done (G₃.getReady l)).done k := by
        rw [List.take_add_one, hk, Option.toList, List.foldl_append]; rfl
      generalize (l.take i).foldl SG.done (G₃.getReady l) = G₅ at *
      w_fin
      refine M_done (S := ⟨_, σ₁₂⟩) hK s' ?_
      w_fin
      refine W_done (S := ⟨_, σ₁₂⟩) (kv := kvI) (k := k) hK (hd'.less (by decide)) K s' d3 d1 d2 d4 fun σ₁₃ s'' => ?_
      w_fin
      exact ⟨by walk_at "w lk", by walk_at "w lk", by walk_at "w lk", by rw [esucc]; exact s''⟩
    refine el_AAA q_ ?_; clear q_; intro hfree hro hso s'
    have eG : (l.take (iL l).length).foldl SG.done (G₃.getReady l) = G₃.round l := by
      unfold iL
      rw [List.length_map, List.take_of_length_le (Nat.le_refl _)]; rfl
    rw [eG] at s'
    w_fin
    refine ⟨ls₂.length, by rw [en]; exact Nat.lt_succ_self _, hfree, hro, hso, ls₁ ++ [l], ls₂, ts ++ [.ref Z], A₃, G₃.round l, fr₆, ?_, rfl, s', rn, frO₁₁, ?_, tsj₁₁, kp₁₁⟩
    · rw [els, List.append_assoc]; rfl
    rw [List.length_append, List.length_append, tsl]; rfl
end
end
end
section
section
variable {g : Gl Int} {c : Ac} {S S' : St Int} {Q : Value -> St Int -> Prop} {a b : Addr} {xs ys : List Value} {P : Params}
section
variable {z : Str} {A : Around} {env : Env}
theorem fn_iter (hK : g.K = hd.heap_1 P) : FnIs g.K 148 (bodyOf P 148) (fdOf P 148).scope (fdOf P 148) :=
  fnIs ⟨_, _, _, rfl⟩ (by kernel_rfl) rfl rfl rfl rfl hK
theorem sg_iter : scopeGen (fdOf P 148).scope = true := by kernel_rfl
noncomputable def MOK148 (S : St Int) : Prop := S.m (Str.ofString "escape") = some (.bool false)
theorem start148 (hK : g.K = hd.heap_1 P) (ha : z.cps.all (· < 128) = true) (h92 : ∀ i, i < z.cps.size -> z.cps.getD i 0 ≠ 92) (hs : env.scope = (fdOf P 148).scope) (hd : Ac.Deep ⟨A, env, fun _ => false⟩ 1) :
    GStart g A env MOK148 z (Str.ofString "addr") (bodyOf P 148) := by
  intro H s S R hm
  have ok := R.ac
  refine ⟨rfl, seg1_func fun Hx => ?_⟩
  show Seg1 _ _ _ _ ((execs (_ :: _) env).wrap _ _ _ _) _ _
  have hsF : (⟨A.over (.func (bodyOf P 148) env) [], env, fun _ => false⟩ : Ac).env.scope = (fdOf P 148).scope := hs
  have R₁ := R.around (okG_func (body := bodyOf P 148) (env₂ := env) ok hd)
  refine seg1_execs_cons (seg1_plain (wpAny_mono ((WX_AssignN (c := ⟨A.over (.func (bodyOf P 148) env) [], env, fun _ => false⟩) (S := S) (Q := fun f S' => f = .next /\ S' = ⟨setv S.m (Str.ofString "pos") (.int 0 0), S.σ⟩) rfl hsF rfl (by kernel_rfl) (WE_int ⟨rfl, rfl⟩)) H s R₁) (fun f s₁ q_ => ?_) fun _ _ x => x))
  refine el_EAA q_ ?_; clear q_; intro S₁ R₂ hf e
  obtain rfl : f = .next := by cases f <;> first | rfl | exact (nomatch hf)
  subst e
  refine seg1_execs_cons (seg1_plain (wpAny_mono ((WX_AssignN (c := ⟨A.over (.func (bodyOf P 148) env) [], env, fun _ => false⟩) (S := ⟨setv S.m (Str.ofString "pos") (.int 0 0), S.σ⟩) (Q := fun f S' => f = .next /\ S' = ⟨setv (setv S.m (Str.ofString "pos") (.int 0 0)) (Str.ofString "escape") (.bool false), S.σ⟩) rfl hsF rfl (by kernel_rfl) (WE_bool ⟨rfl, rfl⟩)) H s₁ R₂) (fun f s₂ q_ => ?_) fun _ _ x => x))
  refine el_EAA q_ ?_; clear q_; intro S₂ R₃ hf e
  obtain rfl : f = .next := by cases f <;> first | rfl | exact (nomatch hf)
  subst e
  refine seg1_execs_cons (seg1_For (fun _ => rfl) (wpAny_mono ((show WE g ⟨A.over (.func (bodyOf P 148) env) [], env, fun _ => false⟩ _ ⟨setv (setv S.m (Str.ofString "pos") (.int 0 0)) (Str.ofString "escape") (.bool false), S.σ⟩ (fun v S' => ∃ e it, v = .ref e /\ e ≠ it /\ S.σ e = none /\ S.σ it = none /\ S' = ⟨setv (setv S.m (Str.ofString "pos") (.int 0 0)) (Str.ofString "escape") (.bool false), upd (upd S.σ it (siO z)) e (enumO it)⟩) from ?_) H s₂ R₃) (fun v s₃ ⟨S₃, R₄, e, it, hv, hne, he, hi, eS⟩ => ?_) fun _ _ x => x))
  · have hx : (⟨A.over (.func (bodyOf P 148) env) [], env, fun _ => false⟩ : Ac).ext = fun _ => false := rfl
    generalize (⟨A.over (.func (bodyOf P 148) env) [], env, fun _ => false⟩ : Ac) = c' at *
    w_fin
    refine WC_enumS ha fun e it he hi hne => ⟨e, it, rfl, hne, he, hi, rfl⟩
  obtain rfl := er_ref hv
  subst eS
  have m₂def : ∃ m₂, m₂ = setv (setv S.m (Str.ofString "pos") (.int 0 0)) (Str.ofString "escape") (.bool false) := ⟨_, rfl⟩
  refine el_E m₂def ?_; (try clear m₂def); intro m₂ hm₂
  rw [← hm₂] at R₄
  refine el_EAA (R₄.conceal (S₀ := ⟨m₂, upd S.σ it (siO z)⟩) (a := e) (o := enumO it) upd_self ⟨fun _ _ q => q, fun b o q => upd_le (show upd S.σ it (siO z) e = none from (if_neg hne).trans he) b o q⟩ ((if_neg hne).trans he)) ?_; intro obE i1 f1 R₅
  refine el_EAA (R₅.conceal (S₀ := ⟨m₂, S.σ⟩) (a := it) (o := siO z) upd_self ⟨fun _ _ q => q, fun b o q => upd_le hi b o q⟩ hi) ?_; intro obI i2 f2 R₆
  have hE : obE = enumOb it 0 .none := i1
  subst hE
  have f2' : H.objs it = none := by
    have : (if it = e then some _ else H.objs it) = none := f2
    rwa [if_neg (Ne.symm hne)] at this
  have hHe : ((H.put e (enumOb it 0 .none)).put it obI).objs e = some (enumOb it 0 .none) := by
    show (if e = it then some obI else (H.put e _).objs e) = _
    rw [if_neg hne]; exact Hid.put_self _ _ _
  refine wpAny_pyIter_enum (R₆.hid e _ hHe) fun kk p hkk => ?_
  have ep : EP z e it 0 H ((H.put e (enumOb it 0 .none)).put it obI) := ⟨.none, obI, hHe, Hid.put_self _ _ _, i2.1, i2.2, fun b b1 b2 => by
    show (if b = it then some obI else if b = e then some _ else H.objs b) = _
    rw [if_neg b2, if_neg b1], rfl⟩
  have mok : MOK148 (⟨m₂, S.σ⟩ : St Int) := by rw [hm₂]; unfold MOK148; walk_at "w lk"
  refine (gen_loop (g := g) (A := A) (env := env) (MOK := MOK148) (z := z) (x := Str.ofString "pos") (y := Str.ofString "ch") (fbody := bodyOf P 148) (it := it) ⟨ok, hd, ⟨_, _, _, _, rfl⟩, by rw [hs]; kernel_rfl, by rw [hs]; kernel_rfl, ?_, ?_⟩ hne z.cps.size (Nat.le_refl _) H _ s₃ ⟨m₂, S.σ⟩ kk _ p (hkk .next) f1 f2' (by rw [Nat.sub_self]; exact ep) (R₆.around ok) mok).mono fun en s' q => ⟨e, it, hne, f1, f2', q⟩
  · intro i S₅ hi' mok₅ e₅ kk₅ l₅ p₅ H₅ s₅ Hx₅ Φ₅ R₇ cont
    have mok₅ : S₅.m (Str.ofString "escape") = some (.bool false) := mok₅
    refine seg1_execs_cons (seg1_If (wpAny_mono ((show WT g ⟨_, env, fun _ => false⟩ _ (enumStepS (Str.ofString "pos") (Str.ofString "ch") z i S₅) (fun b S' => b = false /\ S' = enumStepS (Str.ofString "pos") (Str.ofString "ch") z i S₅) from ?_) H₅ s₅ (R₇.around (okG_loop ok hd))) (fun b s₆ q_ => ?_) fun _ _ x => x))
    · have hx : ∀ A' : Around, (⟨A', env, fun _ => false⟩ : Ac).ext = fun _ => false := fun _ => rfl
      have mok₆ : (enumStepS (Str.ofString "pos") (Str.ofString "ch") z i S₅).m (Str.ofString "escape") = some (.bool false) := by
        unfold enumStepS
        walk_at "w lk"
      refine WT_value (fun _ _ => rfl) (WE_NameS hs (by kernel_rfl) mok₆ (WTr_bool ⟨rfl, rfl⟩))
    refine el_EAA q_ ?_; clear q_; intro S₆ R₈ hb e₆
    subst hb
    subst e₆
    refine seg1_execs_cons (seg1_If (wpAny_mono ((show WT g ⟨_, env, fun _ => false⟩ _ (enumStepS (Str.ofString "pos") (Str.ofString "ch") z i S₅) (fun b S' => b = false /\ S' = enumStepS (Str.ofString "pos") (Str.ofString "ch") z i S₅) from ?_) H₅ s₆ R₈) (fun b s₇ q_ => ?_) fun _ _ x => x))
    · refine WT_Compare (by kernel_rfl) (WE_NameS hs (by kernel_rfl) (v := .str ⟨#[z.cps.getD i 0]⟩ 0) (by unfold enumStepS; walk_at "w lk") (WE_str (WCmp_eqs (WTr_bool ⟨?_, rfl⟩))))
      rw [beq_eq_false_iff_ne]
      intro e
      exact h92 i hi' (by have := congrArg (fun x : Str => x.cps.getD 0 0) e; exact this)
    refine el_EAA q_ ?_; clear q_; intro S₇ R₉ hb e₇
    subst hb
    subst e₇
    refine seg1_execs_cons (seg1_Yield rfl rfl rfl (wpAny_mono ((show WE g ⟨_, env, fun _ => false⟩ _ (enumStepS (Str.ofString "pos") (Str.ofString "ch") z i S₅) (fun v S' => ∃ T, v = .ref T /\ S' = ⟨(enumStepS (Str.ofString "pos") (Str.ofString "ch") z i S₅).m, upd S₅.σ T (.tup (yv z i))⟩) from ?_) H₅ s₇ R₉) (fun v s₈ q_ => ?_) fun _ _ x => x) ?_ ?_)
    · have q1 : (enumStepS (Str.ofString "pos") (Str.ofString "ch") z i S₅).m (Str.ofString "pos") = some (.int i 0) := by unfold enumStepS; walk_at "w lk"
      have q2 : (enumStepS (Str.ofString "pos") (Str.ofString "ch") z i S₅).m (Str.ofString "ch") = some (.str ⟨#[z.cps.getD i 0]⟩ 0) := by unfold enumStepS; walk_at "w lk"
      exact WE_Tuple (WEs_cons (by kernel_rfl) (WE_NameS hs (by kernel_rfl) q1 (WEs_cons (by kernel_rfl) (WE_NameS hs (by kernel_rfl) q2 (WEs_nil ⟨(show 2 ≤ sizeLine by decide +kernel), fun T hT => ⟨T, rfl, rfl⟩⟩)))))
    · (refine el_EAEA q_ ?_; clear q_; intro S₈ R₁₀ T hv e₈)
      obtain rfl := er_ref hv
      subst e₈
      intro k₉ hk₉ l₉ p₉
      refine cont T _ s₈ l₉ k₉ p₉ (R₁₀.around ok) upd_self ?_ ?_
      · unfold MOK148 enumStepS; walk_at "w lk"
      rw [hk₉ .none (fun _ h => nomatch h)]; rfl
    · rw [hs]; kernel_rfl
    unfold interactive; rw [hs]; kernel_rfl
  intro S₇ h₇
  have h₇ : S₇.m (Str.ofString "escape") = some (.bool false) := h₇
  have hx : (⟨A.over (.func (bodyOf P 148) env) [], env, fun _ => false⟩ : Ac).ext = fun _ => false := rfl
  generalize (⟨A.over (.func (bodyOf P 148) env) [], env, fun _ => false⟩ : Ac) = c' at *
  w_fin
  rfl
end
end
end
section
section
variable {g : Gl Int} {c : Ac} {S S' : St Int} {Q : Value -> St Int -> Prop} {a b : Addr} {xs ys : List Value} {P : Params}
section
variable {z : Str}
theorem fn_check (hK : g.K = hd.heap_1 P) : FnIs g.K 162 (bodyOf P 162) (fdOf P 162).scope (fdOf P 162) :=
  fnIs ⟨_, _, _, rfl⟩ (by kernel_rfl) rfl rfl rfl rfl hK
theorem so_check : scopeOk (fdOf P 162).scope = true := by kernel_rfl
theorem fn_strip (hK : g.K = hd.heap_1 P) : FnIs g.K 155 (bodyOf P 155) (fdOf P 155).scope (fdOf P 155) :=
  fnIs ⟨_, _, _, rfl⟩ (by kernel_rfl) rfl rfl rfl rfl hK
theorem so_strip : scopeOk (fdOf P 155).scope = true := by kernel_rfl
structure SQ where
  st : Nat
  op : Option Nat
  res : List Str
noncomputable def SQ.step (z : Str) (q : SQ) (i : Nat) : SQ :=
  if z.cps.getD i 0 = 34 then match q.op with
    | none => ⟨q.st, some i, q.res⟩
    | some o => ⟨i + 1, none, if q.st ≠ o then q.res ++ [strCut z q.st o] else q.res⟩
  else q
noncomputable def SQ.upTo (z : Str) (i : Nat) : SQ := (List.range i).foldl (SQ.step z) ⟨0, none, []⟩
theorem SQ.upTo_succ (z : Str) (i : Nat) : SQ.upTo z (i + 1) = (SQ.upTo z i).step z i := by
  unfold SQ.upTo
  rw [List.range_succ, List.foldl_append]; rfl
noncomputable def SQ.parts (z : Str) : List Str := if (SQ.upTo z z.cps.size).st < z.length then (SQ.upTo z z.cps.size).res ++ [strCut z (SQ.upTo z z.cps.size).st z.length] else (SQ.upTo z z.cps.size).res
theorem strCut_len {z : Str} {a b : Nat} : (strCut z a b).length ≤ b - a := by
  unfold strCut Str.length
  simp only [List.size_toArray, List.length_take]
  exact Nat.min_le_left _ _
theorem SQ.inv (z : Str) : ∀ i, (SQ.upTo z i).st ≤ i /\ (∀ o, (SQ.upTo z i).op = some o -> (SQ.upTo z i).st ≤ o /\ o < i) /\ (SQ.upTo z i).res.length ≤ i /\ ((SQ.upTo z i).res.map (·.length)).sum ≤ (SQ.upTo z i).st
  | 0 => ⟨Nat.le_refl _, (fun o e => nomatch e), Nat.le_refl _, Nat.le_refl _⟩
  | i + 1 => by
    refine el_AAA (SQ.inv z i) ?_; intro h1 h2 h3 h4
    rw [SQ.upTo_succ]
    generalize SQ.upTo z i = q at *
    obtain ⟨st, op, res⟩ := q
    dsimp only at h1 h2 h3 h4
    unfold SQ.step
    split
    · cases op with
      | none =>
        dsimp only
        refine ⟨by exact om50 ‹_›, fun o e => ?_, by exact om50 ‹_›, h4⟩
        (replace e := Option.some.inj e; subst e)
        exact ⟨h1, Nat.lt_succ_self _⟩
      | some o =>
        refine el_A (h2 o rfl) ?_; intro k1 k2
        dsimp only
        refine ⟨Nat.le_refl _, (fun o e => nomatch e), ?_, ?_⟩
        · split
          · rw [List.length_append, List.length_singleton]; exact Nat.lt_succ_of_le ‹_›
          exact om50 ‹_›
        split
        · rw [List.map_append, List.sum_append]
          have := strCut_len (z := z) (a := st) (b := o)
          simp only [List.map_cons, List.map_nil, List.sum_cons, List.sum_nil]
          lia
        lia
    dsimp only
    refine ⟨by exact om50 ‹_›, fun o e => ?_, by exact om50 ‹_›, h4⟩
    refine el_A (h2 o e) ?_; intro k1 k2
    lia
noncomputable def optV (o : Option Nat) : Value := match o with | none => .none | some o => .int o 0
noncomputable def SInv (z : Str) (R : Addr) (σ₀ : Addr -> Option (AO Int)) (i : Nat) (S' : St Int) : Prop := S'.m (Str.ofString "addr") = some (.str z 0) /\ S'.m (Str.ofString "start") = some (.int (SQ.upTo z i).st 0) /\ S'.m (Str.ofString "open_pos") = some (optV (SQ.upTo z i).op) /\ S'.m (Str.ofString "result") = some (.ref R) /\ S'.σ R = some (.list (sL (SQ.upTo z i).res)) /\ ∀ b o, σ₀ b = some o -> S'.σ b = some o
noncomputable def SQ.out (z : Str) : Str := if 34 ∈ z.cps.toList then Txt.join (Str.ofString "") (SQ.parts z) else z
theorem sL_snoc (l : List Str) (x : Str) : sL l ++ [.str x 0] = sL (l ++ [x]) := by unfold sL; rw [List.map_append]; rfl
theorem W_strip (hK : g.K = hd.heap_1 P) (hd : c.Deep 4) (ha : z.cps.all (· < 128) = true) (h92 : ∀ i, i < z.cps.size -> z.cps.getD i 0 ≠ 92) (hz : z.length ≤ 1000) (h : Q (.str (SQ.out z) 0) S) : WC g c (.ref 155) [.str z 0] S Q := by
  refine WC.drop (WC_def (n := 3) hd (fn_strip hK) so_strip (B := [(Str.ofString "addr", .str z 0)]) (fun us hu => ?_) (by kernel_rfl) fun c' hs hx hd' => ?_)
  · (refine el_EA (map1 hu) ?_; intro u rfl_40 hu'; subst rfl_40)
    exact ⟨[(Str.ofString "addr", u)], by kernel_rfl, by simp [hu']⟩
  have hsz : z.cps.size = z.length := rfl
  show WXs g c' (_ :: _) ⟨setv (fun _ => none) (Str.ofString "addr") (.str z 0), S.σ⟩ _
  refine WXs_consL ?_
  intro Q_
  refine WX_If (WT_Compare (by kernel_rfl) (WE_str (WE_NameS hs (by kernel_rfl) (by walk_at "w lk") (WCmp_notInStr ?_))))
  rw [show (Builtin.Str.occurrences z (Str.ofString "\"") 0 z.length 1).isEmpty = !decide (34 ∈ z.cps.toList) from PyProof.Rows.empty_one z 34]
  refine WTr_bool ?_
  by_cases hq : 34 ∈ z.cps.toList
  · rw [decide_eq_true hq]
    first | refine if_no (by decide) ?_ | rw [if_neg (by decide)]
    unfold SQ.out at h
    rw [if_pos hq] at h
    refine WXs_nil ?_
    show WXs g c' (_ :: _) _ _
    w_fin
    refine ⟨Nat.zero_le _, fun R hR => ?_⟩
    have hR : S.σ R = none := hR
    w_fin
    refine WX_ForGen (MOK := MOK148) (z := z) (xa := Str.ofString "addr") hs hx (by kernel_rfl) (by kernel_rfl) (fun _ _ => rfl) (fn_iter hK) sg_iter (by kernel_rfl) (hd'.less (by decide)) (fun S h => h) (by rw [hK]; kernel_rfl) (by kernel_rfl) ?_
    w_fin
    refine ⟨rfl, ?_⟩
    w_fin
    refine ⟨rfl, (fun u hu => ?_), (fun env eok => ?_), SInv z R S.σ,
      ⟨by walk_at "w lk", by walk_at "w lk", by walk_at "w lk", by walk_at "w lk", upd_self, upd_le hR⟩, fun i S₃ hi q_ => ?_, fun S₃ q_ => ?_⟩
    · (refine el_E (er_str hu) ?_; intro t rfl_39; subst rfl_39)
      kernel_rfl
    · exact start148 hK ha h92 eok.scope (show Ac.Deep ⟨c'.A.in1, env, fun _ => false⟩ 1 from ((hd'.less (show 2 ≤ 3 by decide)).in1 : Ac.Deep ⟨c'.A.in1, c'.env, c'.ext⟩ 1))
    · (refine el_AAAAA q_ ?_; clear q_; intro v1 v2 v3 v4 v5 kp)
      have hi' : i < z.length := hi
      show WXs g c' _ ⟨setv (setv S₃.m (Str.ofString "pos") (.int i 0)) (Str.ofString "ch") (.str ⟨#[z.cps.getD i 0]⟩ 0), S₃.σ⟩ _
      have nxt := SQ.upTo_succ z i
      have inv := SQ.inv z i
      obtain ⟨m₂, σ₂⟩ := S₃
      have v1 : m₂ (Str.ofString "addr") = _ := v1
      have v2 : m₂ (Str.ofString "start") = _ := v2
      have v3 : m₂ (Str.ofString "open_pos") = _ := v3
      have v4 : m₂ (Str.ofString "result") = _ := v4
      have v5 : σ₂ R = _ := v5
      generalize SQ.upTo z i = q at *
      obtain ⟨st, op, res⟩ := q
      refine el_AAA inv ?_; (try clear inv); intro i1 i2 i3 i4
      dsimp only at i1 i2 i3 i4 v2 v3 v5
      unfold SQ.step at nxt
      w_fin
      refine WCmp_eqs (WTr_bool ?_)
      by_cases h34 : z.cps.getD i 0 = 34
      · rw [if_pos h34] at nxt
        first | refine if_yes (by rw [h34]; kernel_rfl) ?_ | rw [if_pos (by rw [h34]; kernel_rfl)]
        w_fin
        cases op with
        | none =>
          first | refine if_yes (by kernel_rfl) ?_ | rw [if_pos (by kernel_rfl)]
          w_fin
          exact ⟨by walk_at "w lk", by rw [nxt]; walk_at "w lk", by rw [nxt]; walk_at "w lk", by walk_at "w lk", by rw [nxt]; exact v5, kp⟩
        | some o =>
          refine el_A (i2 o rfl) ?_; intro k1 k2
          first | refine if_no (show ¬ ((optV (some o) == Value.none) = true) from Bool.false_ne_true) ?_ | rw [if_neg (show ¬ ((optV (some o) == Value.none) = true) from Bool.false_ne_true)]
          have v3 : m₂ (Str.ofString "open_pos") = some (.int o 0) := v3
          w_fin
          by_cases hso : st = o
          · first | refine if_no (by rw [hso]; simp) ?_ | rw [if_neg (by rw [hso]; simp)]
            dsimp only at nxt
            rw [if_neg (fun e => e hso)] at nxt
            w_fin
            exact ⟨by walk_at "w lk", by rw [nxt]; walk_at "w lk", by rw [nxt]; walk_at "w lk", by walk_at "w lk", by rw [nxt]; exact v5, kp⟩
          first | refine if_yes (by simp; lia) ?_ | rw [if_pos (by simp; omega)]
          dsimp only at nxt
          rw [if_pos hso] at nxt
          w_fin
          refine ⟨R, _, rfl, v5, ?_⟩
          refine WE_SliceS (fun _ _ => rfl) ?_
          w_fin
          refine ⟨z, rfl, WPart_some ?_⟩
          w_fin
          refine ⟨_, rfl, WPart_some ?_⟩
          w_fin
          refine ⟨_, rfl, st, o, rfl, .inl rfl, k1, by lia, by rw [sizeLine_eq]; exact Nat.le_trans ‹_› (by decide), ?_⟩
          refine ⟨_, v5, (by show (List.map _ res).length ≤ _; rw [List.length_map, sizeLine_eq]; lia), ?_⟩
          w_fin
          exact ⟨by walk_at "w lk", by rw [nxt]; walk_at "w lk", by rw [nxt]; walk_at "w lk", by walk_at "w lk", by rw [nxt, ← sL_snoc]; exact upd_self, fun b o e => (if_neg (by rintro rfl; rw [hR] at e; exact Mine.ns e)).trans (kp b o e)⟩
      rw [if_neg h34] at nxt
      first | refine if_no (by intro e; exact h34 (by have := eq_of_beq e; exact congrArg (fun x : Str => x.cps.getD 0 0) this)) ?_ | rw [if_neg (by intro e; exact h34 (by have := eq_of_beq e; exact congrArg (fun x : Str => x.cps.getD 0 0) this))]
      w_fin
      exact ⟨by walk_at "w lk", by rw [nxt]; walk_at "w lk", by rw [nxt]; walk_at "w lk", by walk_at "w lk", by rw [nxt]; exact v5, kp⟩
    refine el_AAAAA q_ ?_; clear q_; intro v1 v2 v3 v4 v5 kp
    obtain ⟨m₂, σ₂⟩ := S₃
    have v1 : m₂ (Str.ofString "addr") = _ := v1
    have v2 : m₂ (Str.ofString "start") = _ := v2
    have v3 : m₂ (Str.ofString "open_pos") = _ := v3
    have v4 : m₂ (Str.ofString "result") = _ := v4
    have v5 : σ₂ R = _ := v5
    have inv := SQ.inv z z.cps.size
    unfold SQ.parts at h
    generalize SQ.upTo z z.cps.size = q at *
    obtain ⟨st, op, res⟩ := q
    refine el_AAA inv ?_; (try clear inv); intro i1 i2 i3 i4
    dsimp only at i1 i2 i3 i4 v2 v3 v5 h
    have hzz : z.cps.size = z.length := rfl
    have hjoin : ∀ l : List Str, (l.map (·.length)).sum + l.length * (Str.ofString "").length = (l.map (·.length)).sum := fun l => by
      rw [show (Str.ofString "").length = 0 by kernel_rfl, Nat.mul_zero, Nat.add_zero]
    w_fin
    refine WC_lens (by exact om26 (Nat.le_trans ‹_› (by decide))) ?_
    w_fin
    by_cases hlt : st < z.length
    · rw [if_pos hlt] at h
      first | refine if_yes (by simpa using hlt) ?_ | rw [if_pos (by simpa using hlt)]
      w_fin
      refine ⟨R, _, rfl, v5, ?_⟩
      refine WE_SliceS (fun _ _ => rfl) ?_
      w_fin
      refine ⟨z, rfl, WPart_some ?_⟩
      w_fin
      refine ⟨_, rfl, WPart_none ?_⟩
      refine ⟨st, z.length, rfl, .inr ⟨rfl, rfl⟩, Nat.le_of_lt hlt, Nat.le_refl _, by rw [sizeLine_eq]; exact Nat.le_trans ‹_› (by decide), ?_⟩
      refine ⟨_, v5, (by show (List.map _ res).length ≤ _; rw [List.length_map, sizeLine_eq]; exact om23 ‹_› (Nat.le_trans ‹_› (by decide))), ?_⟩
      w_fin
      refine ⟨_, rfl, ?_⟩
      w_fin
      refine ⟨R, _, _, rfl, upd_self, by rw [sL_snoc]; exact sL_are _, ?_, ?_⟩
      · rw [hjoin, List.map_append, List.sum_append]
        have := strCut_len (z := z) (a := st) (b := z.length)
        simp only [List.map_cons, List.map_nil, List.sum_cons, List.sum_nil]
        lia
      w_fin
      exact ⟨S, ⟨fun _ _ e => e, fun b o e => (if_neg (by rintro rfl; rw [hR] at e; exact Mine.ns e)).trans (kp b o e)⟩, h⟩
    rw [if_neg hlt] at h
    first | refine if_no (by simpa using hlt) ?_ | rw [if_neg (by simpa using hlt)]
    w_fin
    refine ⟨_, rfl, ?_⟩
    w_fin
    refine ⟨R, _, _, rfl, v5, sL_are _, ?_, ?_⟩
    · rw [hjoin]
      lia
    w_fin
    exact ⟨S, ⟨fun _ _ e => e, kp⟩, h⟩
  rw [decide_eq_false hq, if_pos (show (!false) = true from rfl)]
  unfold SQ.out at h
  rw [if_neg hq] at h
  w_fin
  exact ⟨S, ⟨fun _ _ e => e, fun _ _ e => e⟩, h⟩
end
end
end
section
noncomputable abbrev tl (s : Str) : List Nat := s.cps.toList
theorem tl_append (a b : Str) : tl (a ++ b) = tl a ++ tl b := by
  show (a.cps ++ b.cps).toList = _
  exact Array.toList_append
theorem tl_empty : tl (Str.ofString "") = [] := by decide +kernel
theorem str_ext {a b : Str} (h : tl a = tl b) : a = b := by
  cases a; cases b
  exact congrArg _ (Array.toList_inj.mp h)
theorem tl_join : ∀ l : List Str, tl (Txt.join (Str.ofString "") l) = (l.map tl).flatten := by
  intro l
  show tl (Builtin.Str.glued (Str.ofString "") l) = _
  rw [StrLaws.glued_eq_join]
  induction l with
  | nil => rfl
  | cons a l ih =>
    cases l with
    | nil => simp [Str.join]
    | cons b l =>
      show tl (a ++ Str.ofString "" ++ Str.join (Str.ofString "") (b :: l)) = _
      rw [tl_append, tl_append, tl_empty, ih]
      simp
noncomputable def unqF (q : List Nat × Bool) (c : Nat) : List Nat × Bool := if c = 34 then (q.1, !q.2) else if q.2 then q else (q.1 ++ [c], false)
noncomputable def unq (l : List Nat) : List Nat × Bool := l.foldl unqF ([], false)
theorem unq_plain : ∀ (l a : List Nat), 34 ∉ l -> l.foldl unqF (a, false) = (a ++ l, false)
  | [], a, _ => by simp
  | c :: l, a, h => by
    have hc : c ≠ 34 := fun e => h (e ▸ .head _)
    rw [List.foldl_cons]
    have : unqF (a, false) c = (a ++ [c], false) := by unfold unqF; rw [if_neg hc]; simp
    rw [this, unq_plain l _ fun e => h (.tail _ e), List.append_assoc]; rfl
noncomputable def chk : List Nat -> Nat -> Bool
  | [], n => n == 0
  | c :: l, n => if c = 40 then chk l (n + 1) else if c = 41 then (match n with | 0 => false | n + 1 => chk l n) else chk l n
end
section
section
variable {g : Gl Int} {c : Ac} {S S' : St Int} {Q : Value -> St Int -> Prop} {a b : Addr} {xs ys : List Value} {P : Params}
section
variable {z : Str}
theorem getD_tl {z : Str} {i : Nat} (h : i < z.cps.size) : (tl z)[i]? = some (z.cps.getD i 0) := by
  unfold tl
  rw [Array.getElem?_toList, Array.getD_eq_getD_getElem?, Array.getElem?_eq_getElem h]; rfl
theorem tl_len (z : Str) : (tl z).length = z.length := Array.length_toList
theorem tl_cut (z : Str) (a b : Nat) : tl (strCut z a b) = ((tl z).drop a).take (b - a) := rfl
noncomputable def SQ.Meant (l : List Nat) (i : Nat) (q : SQ) (r : List Nat × Bool) : Prop := match q.op with
  | none => r = ((q.res.map tl).flatten ++ (l.drop q.st).take (i - q.st), false)
  | some o => r = ((q.res.map tl).flatten ++ (l.drop q.st).take (o - q.st), true)
theorem SQ.meant (z : Str) : ∀ i, i ≤ z.length -> SQ.Meant (tl z) i (SQ.upTo z i) (unq ((tl z).take i))
  | 0, _ => rfl
  | i + 1, hi => by
    have ih := SQ.meant z i (by exact Nat.le_of_lt ‹_›)
    have inv := SQ.inv z i
    have hc : (tl z)[i]? = some (z.cps.getD i 0) := getD_tl (show i < z.length by assumption)
    rw [SQ.upTo_succ, List.take_add_one, hc]
    unfold unq at ih ⊢
    rw [Option.toList, List.foldl_append]
    generalize ((tl z).take i).foldl unqF ([], false) = r at *
    generalize SQ.upTo z i = q at *
    obtain ⟨st, op, res⟩ := q
    refine el_AAA inv ?_; (try clear inv); intro i1 i2 i3 i4
    dsimp only at i1 i2 i3 i4
    show SQ.Meant _ _ _ (unqF r (z.cps.getD i 0))
    unfold SQ.step unqF
    by_cases h34 : z.cps.getD i 0 = 34
    · rw [if_pos h34, if_pos h34]
      cases op with
      | none =>
        obtain rfl := (ih : r = _)
        rfl
      | some o =>
        obtain rfl := (ih : r = _)
        refine el_A (i2 o rfl) ?_; intro k1 k2
        show (_, _) = _
        refine Prod.ext ?_ rfl
        dsimp only
        rw [Nat.sub_self, List.take_zero, List.append_nil]
        split
        · rw [List.map_append, List.flatten_append]
          simp [tl_cut]
        rename_i e
        have e : st = o := Classical.not_not.mp e
        rw [e, Nat.sub_self, List.take_zero, List.append_nil]
    rw [if_neg h34, if_neg h34]
    cases op with
    | none =>
      obtain rfl := (ih : r = _)
      show (_, _) = _
      refine Prod.ext ?_ rfl
      dsimp only
      rw [List.append_assoc, show i + 1 - st = i - st + 1 by exact om44 ‹_›, List.take_add_one, List.getElem?_drop, show st + (i - st) = i by exact Nat.add_sub_cancel' ‹_›, hc]
      rfl
    | some o =>
      obtain rfl := (ih : r = _)
      rfl
theorem SQ.out_eq (z : Str) (h : (unq (tl z)).2 = false) : tl (SQ.out z) = (unq (tl z)).1 := by
  unfold SQ.out
  by_cases h34 : 34 ∈ z.cps.toList
  · rw [if_pos h34, tl_join]
    have hm := SQ.meant z z.length (Nat.le_refl _)
    rw [List.take_of_length_le (by rw [tl_len]; exact Nat.le_refl _)] at hm
    unfold SQ.parts
    have inv := SQ.inv z z.cps.size
    have e : z.cps.size = z.length := rfl
    rw [e] at inv ⊢
    generalize SQ.upTo z z.length = q at *
    obtain ⟨st, op, res⟩ := q
    cases op with
    | some o =>
      have hm : unq (tl z) = _ := hm
      rw [hm] at h; exact Mine.tf h
    | none =>
      have hm : unq (tl z) = _ := hm
      rw [hm]
      dsimp only
      split
      · rw [List.map_append, List.flatten_append]
        simp [tl_cut]
      rename_i hlt
      rw [show z.length - st = 0 by omega, List.take_zero, List.append_nil]
  first | refine if_no h34 ?_ | rw [if_neg h34]
  unfold unq
  rw [unq_plain _ _ h34]
  rfl
theorem unq_mem : ∀ (l : List Nat) (q : List Nat × Bool) (c : Nat), c ∈ (l.foldl unqF q).1 -> c ∈ q.1 ∨ c ∈ l
  | [], q, c, h => .inl h
  | d :: l, q, c, h => by
    rcases unq_mem l _ c h with h | h
    · unfold unqF at h
      split at h
      · exact .inl h
      split at h
      · exact .inl h
      rcases List.mem_append.mp h with h | h
      · exact .inl h
      exact .inr (List.mem_singleton.mp h ▸ .head _)
    exact .inr (.tail _ h)
noncomputable def Plain (z : Str) : Prop := ∀ c ∈ tl z, c < 128 /\ c ≠ 92
theorem Plain.ascii (h : Plain z) : z.cps.all (· < 128) = true := by
  rw [Array.all_eq_true_iff_forall_mem]
  intro c hc
  exact decide_eq_true (h c (Array.mem_toList_iff.mpr hc)).1
theorem Plain.no (h : Plain z) : ∀ i, i < z.cps.size -> z.cps.getD i 0 ≠ 92 := fun i hi => (h _ (List.mem_of_getElem? (getD_tl hi))).2
theorem Plain.out (h : Plain z) (hu : (unq (tl z)).2 = false) : Plain (SQ.out z) := fun c hc => by
  rw [SQ.out_eq z hu] at hc
  rcases unq_mem _ _ _ hc with h' | h'
  · cases h'
  exact h c h'
theorem unq_len : ∀ (l : List Nat) (q : List Nat × Bool), (l.foldl unqF q).1.length ≤ q.1.length + l.length
  | [], q => Nat.le_refl _
  | d :: l, q => by
    have := unq_len l (unqF q d)
    have : (unqF q d).1.length ≤ q.1.length + 1 := by
      unfold unqF
      split
      · exact Nat.le_succ _
      split
      · exact Nat.le_succ _
      simp
    rw [List.foldl_cons, List.length_cons]; lia
theorem W_check (hK : g.K = hd.heap_1 P) (hd : c.Deep 5) (hp : Plain z) (hz : z.length ≤ 1000) (hu : (unq (tl z)).2 = false) (h : Q (.bool (chk (unq (tl z)).1 0)) S) : WC g c (.ref 162) [.str z 0] S Q := by
  refine WC.drop (WC_def (n := 4) hd (fn_check hK) so_check (B := [(Str.ofString "addr", .str z 0)]) (fun us hu => ?_) (by kernel_rfl) fun c' hs hx hd' => ?_)
  · (refine el_EA (map1 hu) ?_; intro u rfl_44 hu'; subst rfl_44)
    exact ⟨[(Str.ofString "addr", u)], by kernel_rfl, by simp [hu']⟩
  show WXs g c' (_ :: _) ⟨setv (fun _ => none) (Str.ofString "addr") (.str z 0), S.σ⟩ _
  have hy := hp.out hu
  have ey := SQ.out_eq z hu
  have hyl : (SQ.out z).length ≤ 1000 := by
    rw [← tl_len, ey]
    have := unq_len (tl z) ([], false)
    rw [tl_len] at this
    exact Nat.le_trans (by simpa [unq] using this) hz
  rw [← ey] at h
  have hstrip : ∀ {S : St Int} {Q : Value -> St Int -> Prop}, Q (.str (SQ.out z) 0) S -> WC g c' (.ref 155) [.str z 0] S Q := fun {S Q} q => W_strip hK (hd'.less (by decide)) hp.ascii hp.no hz q
  generalize SQ.out z = y at *
  obtain ⟨res, hres⟩ : ∃ res, chk (tl y) 0 = res := ⟨_, rfl⟩
  rw [hres] at h
  w_fin
  refine hstrip ?_
  w_fin
  refine WX_ForGen (MOK := MOK148) (z := y) (xa := Str.ofString "addr") hs hx (by kernel_rfl) (by kernel_rfl) (fun _ _ => rfl) (fn_iter hK) sg_iter (by kernel_rfl) (hd'.less (by decide)) (fun S h => h) (by rw [hK]; kernel_rfl) (by kernel_rfl) ?_
  w_fin
  refine ⟨rfl, ?_⟩
  w_fin
  let Inv_1 : Nat -> St Int -> Prop := fun i S' => (∃ o : Nat, S'.m (Str.ofString "opens") = some (.int o 0) /\ chk ((tl y).drop i) o = res) /\ S'.σ = S.σ
  refine ⟨rfl, (fun u hu => ?_), (fun env eok => ?_), Inv_1,
    ⟨⟨0, by walk_at "w lk", hres⟩, rfl⟩, fun i S₃ hi q_ => ?_, fun S₃ q_ => ?_⟩
  · (refine el_E (er_str hu) ?_; intro t rfl_43; subst rfl_43)
    kernel_rfl
  · exact start148 hK hy.ascii hy.no eok.scope (show Ac.Deep ⟨c'.A.in1, env, fun _ => false⟩ 1 from ((hd'.less (show 2 ≤ 4 by decide)).in1 : Ac.Deep ⟨c'.A.in1, c'.env, c'.ext⟩ 1))
  · (refine el_A q_ ?_; clear q_; intro nn_42 v3; obtain ⟨o, v1, v2⟩ := nn_42)
    obtain ⟨m₂, σ₂⟩ := S₃
    have v1 : m₂ (Str.ofString "opens") = some (.int o 0) := v1
    obtain rfl : σ₂ = S.σ := v3
    show WXs g c' _ ⟨setv (setv m₂ (Str.ofString "pos") (.int i 0)) (Str.ofString "ch") (.str ⟨#[y.cps.getD i 0]⟩ 0), S.σ⟩ _
    have hc : (tl y).drop i = y.cps.getD i 0 :: (tl y).drop (i + 1) := by
      have hi' : i < (tl y).length := by rw [tl_len]; exact hi
      have := getD_tl (z := y) hi
      rw [List.getElem?_eq_getElem hi'] at this
      rw [List.drop_eq_getElem_cons hi', Option.some.inj this]
    rw [hc] at v2
    generalize y.cps.getD i 0 = ch at *
    unfold chk at v2
    w_fin
    refine WCmp_eqs (WTr_bool ?_)
    by_cases h40 : ch = 40
    · rw [if_pos h40] at v2
      first | refine if_yes (by rw [h40]; kernel_rfl) ?_ | rw [if_pos (by rw [h40]; kernel_rfl)]
      w_fin
      exact ⟨⟨o + 1, by walk_at "w lk", v2⟩, rfl⟩
    rw [if_neg h40] at v2
    first | refine if_no (by intro e; exact h40 (by have := eq_of_beq e; exact congrArg (fun x : Str => x.cps.getD 0 0) this)) ?_ | rw [if_neg (by intro e; exact h40 (by have := eq_of_beq e; exact congrArg (fun x : Str => x.cps.getD 0 0) this))]
    w_fin
    refine WCmp_eqs (WTr_bool ?_)
    by_cases h41 : ch = 41
    · rw [if_pos h41] at v2
      first | refine if_yes (by rw [h41]; kernel_rfl) ?_ | rw [if_pos (by rw [h41]; kernel_rfl)]
      w_fin
      refine WIn_sub ?_
      w_fin
      cases o with
      | zero =>
        first | refine if_yes (by decide) ?_ | rw [if_pos (by decide)]
        w_fin
        rw [show false = res from v2]
        exact ⟨S, ⟨fun _ _ e => e, fun _ _ e => e⟩, h⟩
      | succ o =>
        first | refine if_no (by simp) ?_ | rw [if_neg (by simp)]
        w_fin
        exact ⟨⟨o, by rw [show ((o : Int)) = ((o + 1 : Nat) : Int) - 1 by (simp)]; walk_at "w lk", v2⟩, rfl⟩
    rw [if_neg h41] at v2
    first | refine if_no (by intro e; exact h41 (by have := eq_of_beq e; exact congrArg (fun x : Str => x.cps.getD 0 0) this)) ?_ | rw [if_neg (by intro e; exact h41 (by have := eq_of_beq e; exact congrArg (fun x : Str => x.cps.getD 0 0) this))]
    w_fin
    exact ⟨⟨o, by walk_at "w lk", v2⟩, rfl⟩
  refine el_A q_ ?_; clear q_; intro nn_41 v3; obtain ⟨o, v1, v2⟩ := nn_41
  obtain ⟨m₂, σ₂⟩ := S₃
  have v1 : m₂ (Str.ofString "opens") = some (.int o 0) := v1
  obtain rfl : σ₂ = S.σ := v3
  rw [List.drop_eq_nil_of_le (by rw [tl_len]; exact Nat.le_refl _)] at v2
  w_fin
  rw [show ((o : Int) == 0) = res by rw [← v2]; unfold chk; cases o with | zero => rfl | succ o => rw [beq_eq_false_iff_ne.mpr (by lia)]; rfl]
  exact ⟨S, ⟨fun _ _ e => e, fun _ _ e => e⟩, h⟩
end
end
end
section
section
variable {g : Gl Int} {c : Ac} {S S' : St Int} {Q : Value -> St Int -> Prop} {a b : Addr} {xs ys : List Value} {P : Params}
section
theorem fn_mate (hK : g.K = hd.heap_1 P) : FnIs g.K 259 (bodyOf P 259) (fdOf P 259).scope (fdOf P 259) :=
  fnIs ⟨_, _, _, rfl⟩ (by kernel_rfl) rfl rfl rfl rfl hK
theorem so_mate : scopeOk (fdOf P 259).scope = true := by kernel_rfl
noncomputable def br (s : Str) : Nat := (tl s).headD 0
noncomputable def PieceOk (s : Str) : Prop := tl s = [40] ∨ tl s = [41] ∨ tl s = [40, 34, 41, 34]
theorem PieceOk.fold {s : Str} (h : PieceOk s) (u : List Nat) : (tl s).foldl unqF (u, false) = (u ++ [br s], false) := by
  unfold br
  rcases h with h | h | h <;> rw [h] <;> rfl
theorem pieces_unq : ∀ (l : List Str) (u : List Nat), (∀ p ∈ l, PieceOk p) -> (l.map tl).flatten.foldl unqF (u, false) = (u ++ l.map br, false)
  | [], u, _ => by simp
  | p :: l, u, h => by
    rw [List.map_cons, List.flatten_cons, List.foldl_append, (h p (.head _)).fold u, pieces_unq l _ fun q hq => h q (.tail _ hq), List.append_assoc]
    rfl
theorem PieceOk.plain {s : Str} (h : PieceOk s) : Plain s := fun c hc => by
  rcases h with h | h | h <;> rw [h] at hc <;> simp at hc <;> lia
theorem PieceOk.len {s : Str} (h : PieceOk s) : s.length ≤ 4 := by
  rw [← tl_len]
  rcases h with h | h | h <;> rw [h] <;> decide
theorem pieces_len : ∀ (l : List Str), (∀ p ∈ l, PieceOk p) -> (l.map (·.length)).sum ≤ 4 * l.length
  | [], _ => Nat.le_refl _
  | p :: l, h => by
    have := pieces_len l fun q hq => h q (.tail _ hq)
    have := (h p (.head _)).len
    simp only [List.map_cons, List.sum_cons, List.length_cons]
    lia
theorem W_checkPieces (hK : g.K = hd.heap_1 P) (hd : c.Deep 5) {l : List Str} (hl : l.length ≤ 200) (hp : ∀ p ∈ l, PieceOk p) (h : Q (.bool (chk (l.map br) 0)) S) : WC g c (.ref 162) [.str (Txt.join (Str.ofString "") l) 0] S Q := by
  have e := pieces_unq l [] hp
  have e' : unq (tl (Txt.join (Str.ofString "") l)) = (l.map br, false) := by
    rw [tl_join]
    exact e
  refine W_check hK hd (fun c hc => ?_) ?_ (by rw [e']) (by rw [e']; exact h)
  · rw [tl_join, List.mem_flatten] at hc
    refine el_EA hc ?_; (try clear hc); intro t h1 h2
    refine el_EA (List.mem_map.mp h1) ?_; intro p h3 rfl_48; subst rfl_48
    exact (hp p h3).plain c h2
  rw [← tl_len, tl_join, List.length_flatten, List.map_map]
  have := pieces_len l hp
  have : (l.map (List.length ∘ tl)) = l.map (·.length) := List.map_congr_left fun p _ => tl_len p
  rw [this]; lia
theorem join_sum (l : List Str) : (l.map (·.length)).sum + l.length * (Str.ofString "").length = (l.map (·.length)).sum := by
  rw [show (Str.ofString "").length = 0 by kernel_rfl, Nat.mul_zero, Nat.add_zero]
theorem pick_mid {vs : List Value} {s t : Nat} (hs : s ≤ t) (ht : t ≤ vs.length) : pickL vs (some s) (some t) = (vs.drop s).take (t - s) := by
  unfold pickL clipAt
  simp only [Option.elim]
  rw [if_neg (by (simp)), if_neg (by (simp))]
  have e1 : (max 0 (min (s : Int) (vs.length : Int))).toNat = s := om04 (Nat.le_trans hs ht)
  have e2 : (max 0 (min (t : Int) (vs.length : Int))).toNat = t := om04 ht
  rw [e1, e2]
theorem sL_mid (ps : List Str) (s t : Nat) : ((sL ps).drop s).take t = sL ((ps.drop s).take t) := by unfold sL; rw [List.map_take, List.map_drop]
noncomputable def mateAt (ps : List Str) (a b : Nat) : Bool := (ps.getD b Str.empty == Str.ofString ")") && chk (((ps.drop a).take (b + 1 - a)).map br) 0
noncomputable def cands (a n : Nat) : List Nat := (List.range ((n - a) / 2)).map fun k => a + 1 + 2 * k
noncomputable def mateOf (ps : List Str) (a : Nat) : List Nat := ((cands a ps.length).find? (mateAt ps a)).toList
theorem rng_two : ∀ n : Nat, n < 15 -> ∀ a : Nat, a < 15 -> (Builtin.Range.small ((a : Int) + 1) n 2 && decide (0 ≤ Builtin.Range.rangeSize ((a : Int) + 1) n 2) && !(Builtin.divisionGoesByPylong ((n : Int) - ((a : Int) + 1)) 2) && (rngN ((a : Int) + 1) n 2 == (n - a) / 2)) = true := by decide +kernel
theorem find_upTo {α : Type} {l : List α} {p : α -> Bool} (h : ∀ (k : Nat) x, l[k]? = some x -> p x = false) : l.find? p = none := by
  rw [List.find?_eq_none]
  intro x hx
  refine el_E (List.mem_iff_getElem?.mp hx) ?_; intro k hk
  rw [h k x hk]; exact Bool.false_ne_true
theorem find_at {α : Type} : ∀ {l : List α} {p : α -> Bool} {k : Nat} {x : α}, l[k]? = some x -> p x = true -> (∀ j y, j < k -> l[j]? = some y -> p y = false) -> l.find? p = some x
  | [], _, _, _, h, _, _ => nomatch h
  | y :: l, p, 0, x, h, hp, _ => by (replace h := Option.some.inj h; subst h); rw [List.find?_cons, hp]
  | y :: l, p, k + 1, x, h, hp, hn => by
    rw [List.find?_cons, hn 0 y (Nat.succ_pos _) rfl]
    exact find_at (k := k) (l := l) h hp fun j z hj hz => hn (j + 1) z (Nat.succ_lt_succ hj) hz
theorem W_mate (hK : g.K = hd.heap_1 P) (hd : c.Deep 6) {ps : List Str} (ha : S.σ a = some (.list (sL ps))) (hn : ps.length < 15) (hp : ∀ p ∈ ps, PieceOk p) {k : Nat} (hk : k < ps.length)
    (h : ∀ r, S.σ r = none -> Q (.ref r) ⟨S.m, upd S.σ r (.list ((mateOf ps k).map fun (b : Nat) => .int b 0))⟩) : WC g c (.ref 259) [.ref a, .int k 0] S Q := by
  have sl : (sL ps).length = ps.length := by unfold sL; simp
  have hr2 := rng_two ps.length hn k (by exact Nat.lt_trans ‹_› ‹_›)
  simp only [Bool.and_eq_true, Bool.not_eq_true', decide_eq_true_eq, beq_iff_eq] at hr2
  refine el_A hr2 ?_; (try clear hr2); intro nn_47 r4; obtain ⟨⟨r1, r2⟩, r3⟩ := nn_47
  refine WC.drop (WC_def (n := 5) hd (fn_mate hK) so_mate (B := [(Str.ofString "pieces", .ref a), (Str.ofString "a", .int k 0)]) (fun us hu => ?_) (by kernel_rfl) fun c' hs hx hd' => ?_)
  · (refine el_EEAA (map2 hu) ?_; intro u u' rfl_46 hu1 hu2; subst rfl_46)
    exact ⟨[(Str.ofString "pieces", u), (Str.ofString "a", u')], by kernel_rfl, by simp [hu1, hu2]⟩
  show WXs g c' (_ :: _) ⟨setv (setv (fun _ => none) (Str.ofString "pieces") (.ref a)) (Str.ofString "a") (.int k 0), S.σ⟩ _
  refine WXs_consL ?_
  intro Q_
  refine WX_For (fun _ _ => rfl) ?_
  w_fin
  refine WC_len ha (by rw [sl]; lia) ?_
  rw [sl]
  w_fin
  refine WC_range3 (by decide) r3 fun r hr => ?_
  let Inv_1 : Nat -> St Int -> Prop := fun i S' => S'.m (Str.ofString "pieces") = some (.ref a) /\ S'.m (Str.ofString "a") = some (.int k 0) /\ (∀ b o, S.σ b = some o -> S'.σ b = some o) /\ ∀ j y, j < i -> (cands k ps.length)[j]? = some y -> mateAt ps k y = false
  refine ⟨_, _, iter_range upd_self r1 r2, Inv_1,
    ⟨by walk_at "w lk", by walk_at "w lk", upd_le hr, fun j y h => absurd h (Nat.not_lt_zero _)⟩, fun _ _ _ => trivial, fun i x S₂ hx' q_ => ?_, fun S₂ q_ => ?_⟩
  · (refine el_AAA q_ ?_; clear q_; intro v1 v2 kp no)
    refine el_A (rngL_get.mp hx') ?_; intro q1 rfl_45; subst rfl_45
    rw [r4] at q1
    obtain ⟨m₂, σ₂⟩ := S₂
    have v1 : m₂ (Str.ofString "pieces") = _ := v1
    have v2 : m₂ (Str.ofString "a") = _ := v2
    have hcand : (cands k ps.length)[i]? = some (k + 1 + 2 * i) := by
      unfold cands
      rw [List.getElem?_map, List.getElem?_range q1]; rfl
    have hb : k + 1 + 2 * i < ps.length := by lia
    have no' : mateAt ps k (k + 1 + 2 * i) = false -> ∀ j y, j < i + 1 -> (cands k ps.length)[j]? = some y -> mateAt ps k y = false := fun e j y hj hy => by
      by_cases q : j = i
      · subst q
        rw [hcand] at hy
        (replace hy := Option.some.inj hy; subst hy); exact e
      exact no j y (by exact om11 ‹_› ‹_›) hy
    have hfound : mateAt ps k (k + 1 + 2 * i) = true -> mateOf ps k = [k + 1 + 2 * i] := fun e => by
      unfold mateOf
      rw [find_at hcand e no]; rfl
    rw [show ((k : Int) + 1 + (i : Int) * 2) = ((k + 1 + 2 * i : Nat) : Int) by lia]
    have hkb : k ≤ k + 1 + 2 * i := by lia
    generalize k + 1 + 2 * i = b at *
    have row : (sL ps)[(b : Int).toNat]? = some (.str (ps.getD b Str.empty) 0) := by
      rw [Int.toNat_natCast]; unfold sL; rw [List.getElem?_map, List.getElem?_eq_getElem hb, List.getD_eq_getElem?_getD, List.getElem?_eq_getElem hb]; rfl
    have hpl := kp _ _ ha
    w_fin
    refine WSub_item hpl (by exact Int.natCast_nonneg _) (by lia) row ?_
    w_fin
    refine WCmp_eqs (WTr_bool ?_)
    unfold mateAt at no' hfound
    by_cases q : (ps.getD b Str.empty == Str.ofString ")") = true
    · rw [q, Bool.true_and] at no' hfound
      first | refine if_yes q ?_ | rw [if_pos q]
      w_fin
      refine ⟨_, rfl, ?_⟩
      refine WE_SliceL ?_
      w_fin
      refine ⟨a, rfl, WPart_some (S := ⟨_, σ₂⟩) ?_⟩
      w_fin
      refine ⟨_, rfl, WPart_some ?_⟩
      w_fin
      refine ⟨_, rfl, sL ps, .inl hpl, by rw [sl, sizeLine_eq]; lia, fun D hD => ?_⟩
      rw [show ((b : Int) + 1) = ((b + 1 : Nat) : Int) by (constructor <;> assumption), pick_mid (by exact om50 ‹_›) (by rw [sl]; assumption), sL_mid]
      have hD : σ₂ D = none := hD
      have hmem : ∀ p ∈ (ps.drop k).take (b + 1 - k), PieceOk p := fun p h => hp p (List.mem_of_mem_drop (List.mem_of_mem_take h))
      have hlen : ((ps.drop k).take (b + 1 - k)).length ≤ 14 := by rw [List.length_take, List.length_drop]; lia
      have kp₂ : ∀ x o, S.σ x = some o -> upd σ₂ D (.list (sL ((ps.drop k).take (b + 1 - k)))) x = some o := fun x o e => upd_le hD x o (kp x o e)
      generalize (ps.drop k).take (b + 1 - k) = l at *
      refine ⟨D, _, l, rfl, upd_self, sL_are _, ?_, ?_⟩
      · rw [join_sum]
        have := pieces_len l hmem
        lia
      w_fin
      refine W_checkPieces hK (hd'.less (by decide)) (by exact Nat.le_trans ‹_› (by decide)) hmem ?_
      w_fin
      refine WCmp_isBool (WTr_bool ?_)
      cases hc : chk (l.map br) 0 with
      | true =>
        first | refine if_yes (by decide) ?_ | rw [if_pos (by decide)]
        rw [hfound hc] at h
        w_fin
        refine ⟨Nat.le_of_lt (show 1 < sizeLine by decide +kernel), fun r' hr' => ?_⟩
        refine el_A (Le.new (S := S) (o := .list [.int (b : Int) 0]) kp₂ hr') ?_; intro h0 hle
        exact ⟨⟨S.m, _⟩, hle, h _ h0⟩
      | false =>
        first | refine if_no (by decide) ?_ | rw [if_neg (by decide)]
        w_fin
        exact ⟨by walk_at "w lk", by walk_at "w lk", kp₂, no' hc⟩
    have q' := Bool.eq_false_iff.mpr q
    rw [q', Bool.false_and] at no'
    first | refine if_no q ?_ | rw [if_neg q]
    w_fin
    exact ⟨by walk_at "w lk", by walk_at "w lk", kp, no' rfl⟩
  refine el_AAA q_ ?_; clear q_; intro v1 v2 kp no
  have hnone : mateOf ps k = [] := by
    unfold mateOf
    rw [find_upTo fun j y hj => no j y ?_ hj]
    · rfl
    rw [rngL_len, r4]
    have := (List.getElem?_eq_some_iff.mp hj).1
    unfold cands at this
    rwa [List.length_map, List.length_range] at this
  rw [hnone] at h
  w_fin
  refine ⟨Nat.zero_le _, fun r' hr' => ?_⟩
  refine el_A (Le.new (S := S) (o := .list []) kp hr') ?_; intro h0 hle
  exact ⟨⟨S.m, _⟩, hle, h _ h0⟩
end
end
end
section
section
variable {g : Gl Int} {c : Ac} {S S' : St Int} {Q : Value -> St Int -> Prop} {a b : Addr} {xs ys : List Value} {P : Params}
section
theorem fn_read (hK : g.K = hd.heap_1 P) : FnIs g.K 264 (bodyOf P 264) (fdOf P 264).scope (fdOf P 264) :=
  fnIs ⟨_, _, _, rfl⟩ (by kernel_rfl) rfl rfl rfl rfl hK
theorem so_read : scopeOk (fdOf P 264).scope = true := by kernel_rfl
noncomputable def pieceOf (ms : List Int) (e : Int) : Str := if (ms.length : Int) ≤ e then Str.ofString ")" else if Builtin.bitAnd (ms.getD e.toNat 0) 512 ≠ 0 then Str.ofString "(\")\"" else Str.ofString "("
theorem pieceOf_ok (ms : List Int) (e : Int) : PieceOk (pieceOf ms e) := by
  unfold pieceOf
  split
  · exact .inr (.inl (by decide +kernel))
  split
  · exact .inr (.inr (by decide +kernel))
  exact .inl (by decide +kernel)
noncomputable def dueOf (es : List Int) (n : Int) (a : Nat) : List Nat := (List.range es.length).filter fun b => es.getD b 0 == n + es.getD a 0
noncomputable def dueUp (es : List Int) (n : Int) (a i : Nat) : List Value := ((List.range i).filter fun b => es.getD b 0 == n + es.getD a 0).map fun (b : Nat) => .int b 0
structure ReadOk (es ms : List Int) : Prop where
  len : es.length < 15
  low : ∀ e ∈ es, 0 ≤ e
  whole : chk ((es.map (pieceOf ms)).map br) 0 = ((es.length : Int) == 2 * (ms.length : Int))
  mates : ∀ a, a < es.length -> es.getD a 0 < (ms.length : Int) -> mateOf (es.map (pieceOf ms)) a = dueOf es ms.length a
theorem all_true {n : Nat} : (List.range n).all (fun _ => true) = true := List.all_eq_true.mpr fun _ _ => rfl
theorem W_read (hK : g.K = hd.heap_1 P) (hd : c.Deep 7) {es ms : List Int} (ha : S.σ a = some (.list (iL es))) (hb : S.σ b = some (.list (iL ms))) (hn : ms.length ≤ 100) (ok : ReadOk es ms) (h : Q (.bool true) S) : WC g c (.ref 264) [.ref a, .ref b] S Q := by
  have hlen := ok.len
  refine WC.drop (WC_def (n := 6) hd (fn_read hK) so_read (B := [(Str.ofString "events", .ref a), (Str.ofString "modes", .ref b)]) (fun us hu => ?_) (by kernel_rfl) fun c' hs hx hd' => ?_)
  · (refine el_EEAA (map2 hu) ?_; intro u u' rfl_52 hu1 hu2; subst rfl_52)
    exact ⟨[(Str.ofString "events", u), (Str.ofString "modes", u')], by kernel_rfl, by simp [hu1, hu2]⟩
  show WXs g c' (_ :: _) ⟨setv (setv (fun _ => none) (Str.ofString "events") (.ref a)) (Str.ofString "modes") (.ref b), S.σ⟩ _
  obtain ⟨sm, σ₀⟩ := S
  have ha : σ₀ a = some (.list (iL es)) := ha
  have hb : σ₀ b = some (.list (iL ms)) := hb
  w_fin
  refine WC_len hb (by rw [iL_len]; exact om26 (Nat.le_trans ‹_› (by decide))) ?_
  rw [iL_len]
  w_fin
  refine ⟨Nat.zero_le _, fun R hR => ?_⟩
  have hR : σ₀ R = none := hR
  w_fin
  refine WX_For (fun _ _ => rfl) ?_
  w_fin
  have keepR : ∀ {σ : Addr -> Option (AO Int)} {o}, (∀ x o, σ₀ x = some o -> σ x = some o) -> ∀ x o', σ₀ x = some o' -> upd σ R o x = some o' := fun {σ o} kp x o' e => (if_neg (by rintro rfl; rw [hR] at e; exact Mine.ns e)).trans (kp x o' e)
  let Inv_1 : Nat -> St Int -> Prop := fun i S' => S'.m (Str.ofString "events") = some (.ref a) /\ S'.m (Str.ofString "modes") = some (.ref b) /\ S'.m (Str.ofString "many") = some (.int ms.length 0) /\ S'.m (Str.ofString "pieces") = some (.ref R) /\ S'.σ R = some (.list (sL ((es.take i).map (pieceOf ms)))) /\ ∀ x o, σ₀ x = some o -> S'.σ x = some o
  refine ⟨iL es, _, iter_list (upd_le hR _ _ ha), Inv_1,
    ⟨by walk_at "w lk", by walk_at "w lk", by walk_at "w lk", by walk_at "w lk", upd_self, upd_le hR⟩, fun i S₂ hI => hI.2.2.2.2.2 _ _ ha, fun i x S₂ hx' q_ => ?_, fun S₂ q_ => ?_⟩
  · (refine el_AAAAA q_ ?_; clear q_; intro v1 v2 v3 v4 v5 kp)
    obtain ⟨m₂, σ₂⟩ := S₂
    have v1 : m₂ (Str.ofString "events") = _ := v1
    have v2 : m₂ (Str.ofString "modes") = _ := v2
    have v3 : m₂ (Str.ofString "many") = _ := v3
    have v4 : m₂ (Str.ofString "pieces") = _ := v4
    have v5 : σ₂ R = _ := v5
    unfold iL at hx'
    rw [List.getElem?_map, Option.map_eq_some_iff] at hx'
    refine el_EA hx' ?_; (try clear hx'); intro e he rfl_51; subst rfl_51
    have hi : i < es.length := (List.getElem?_eq_some_iff.mp he).1
    have he0 := ok.low e (List.mem_of_getElem? he)
    have nxt : sL ((es.take (i + 1)).map (pieceOf ms)) = sL ((es.take i).map (pieceOf ms)) ++ [.str (pieceOf ms e) 0] := by
      rw [List.take_add_one, he, List.map_append, sL_snoc]; rfl
    have hz : (sL ((es.take i).map (pieceOf ms))).length < sizeLine := by
      unfold sL
      rw [List.length_map, List.length_map, List.length_take, sizeLine_eq]; lia
    generalize sL ((es.take i).map (pieceOf ms)) = acc at *
    refine WAsg_Name (W_StoreS hs hx (by kernel_rfl) ?_)
    w_fin
    by_cases q : (ms.length : Int) ≤ e
    · first | refine if_yes (by simpa using q) ?_ | rw [if_pos (by simpa using q)]
      rw [show pieceOf ms e = Str.ofString ")" by unfold pieceOf; rw [if_pos q]] at nxt
      w_fin
      refine ⟨R, _, rfl, v5, ?_⟩
      w_fin
      refine ⟨_, v5, Nat.le_of_lt hz, ?_⟩
      w_fin
      exact ⟨by walk_at "w lk", by walk_at "w lk", by walk_at "w lk", by walk_at "w lk", by rw [nxt]; exact upd_self, keepR kp⟩
    · first | refine if_no (by simpa using q) ?_ | rw [if_neg (by simpa using q)]
      have hem : ms[e.toNat]? = some (ms.getD e.toNat 0) := getD_get (by lia)
      w_fin
      refine ⟨R, _, rfl, v5, ?_⟩
      w_fin
      refine WSub_iL (kp _ _ hb) he0 (by lia) hem ?_
      w_fin
      refine WBin_and (j := 512) ?_
      w_fin
      by_cases q2 : Builtin.bitAnd (ms.getD e.toNat 0) 512 = 0
      · first | refine if_no (by rw [q2]; decide) ?_ | rw [if_neg (by rw [q2]; decide)]
        rw [show pieceOf ms e = Str.ofString "(" by unfold pieceOf; rw [if_neg q, if_neg fun h => h q2]] at nxt
        w_fin
        refine ⟨_, v5, Nat.le_of_lt hz, ?_⟩
        w_fin
        exact ⟨by walk_at "w lk", by walk_at "w lk", by walk_at "w lk", by walk_at "w lk", by rw [nxt]; exact upd_self, keepR kp⟩
      first | refine if_yes (by simpa using q2) ?_ | rw [if_pos (by simpa using q2)]
      rw [show pieceOf ms e = Str.ofString "(\")\"" by unfold pieceOf; rw [if_neg q, if_pos q2]] at nxt
      w_fin
      refine ⟨_, v5, Nat.le_of_lt hz, ?_⟩
      w_fin
      exact ⟨by walk_at "w lk", by walk_at "w lk", by walk_at "w lk", by walk_at "w lk", by rw [nxt]; exact upd_self, keepR kp⟩
  refine el_AAAAA q_ ?_; clear q_; intro v1 v2 v3 v4 v5 kp
  rw [iL_len, List.take_of_length_le (Nat.le_refl _)] at v5
  obtain ⟨m₂, σ₂⟩ := S₂
  have v1 : m₂ (Str.ofString "events") = _ := v1
  have v2 : m₂ (Str.ofString "modes") = _ := v2
  have v3 : m₂ (Str.ofString "many") = _ := v3
  have v4 : m₂ (Str.ofString "pieces") = _ := v4
  have v5 : σ₂ R = _ := v5
  have pok : ∀ p ∈ es.map (pieceOf ms), PieceOk p := fun p hp => by
    refine el_EA (List.mem_map.mp hp) ?_; intro e _ rfl_50; subst rfl_50
    exact pieceOf_ok ms e
  have plen : (es.map (pieceOf ms)).length = es.length := List.length_map _
  have hwhole := ok.whole
  have hmates := ok.mates
  generalize es.map (pieceOf ms) = ps at *
  w_fin
  refine ⟨_, rfl, ?_⟩
  w_fin
  refine ⟨R, _, ps, rfl, v5, sL_are _, ?_, ?_⟩
  · rw [join_sum]
    have := pieces_len ps pok
    lia
  w_fin
  refine W_checkPieces hK (hd'.less (by decide)) (by lia) pok ?_
  w_fin
  refine WC_len (kp _ _ ha) (by rw [iL_len]; lia) ?_
  rw [iL_len]
  w_fin
  refine WBin_mul (mulSmall (by decide) (by exact om34 (Nat.le_trans ‹_› (by decide)))) ?_
  w_fin
  refine WCmp_isNotBool ?_
  rw [hwhole, beq_self_eq_true, Bool.not_true]
  w_fin
  refine WX_ForR (fun _ _ => rfl) ?_
  w_fin
  refine WC_len (kp _ _ ha) (by rw [iL_len]; omega) ?_
  rw [iL_len]
  w_fin
  refine WC_range1 fun r hr => ?_
  have hr : σ₂ r = none := hr
  have keepr : ∀ x o, σ₀ x = some o -> upd σ₂ r (rngO 0 es.length 1) x = some o := fun x o e => upd_le hr x o (kp x o e)
  let Inv_2 : Nat -> St Int -> Prop := fun i S' => S'.m (Str.ofString "events") = some (.ref a) /\ S'.m (Str.ofString "many") = some (.int ms.length 0) /\ S'.m (Str.ofString "pieces") = some (.ref R) /\ S'.σ R = some (.list (sL ps)) /\ ∀ x o, σ₀ x = some o -> S'.σ x = some o
  refine ⟨r, 0, es.length, rfl, upd_self, by exact om16, by exact om17, by exact om27 _, by lia, Inv_2,
    ⟨by walk_at "w lk", by walk_at "w lk", by walk_at "w lk", upd_le hr _ _ v5, keepr⟩, fun i S₃ hi q_ => ?_, fun S₃ q_ => ?_⟩
  · (refine el_AAAA q_ ?_; clear q_; intro v1 v3 v4 v5 kp)
    obtain ⟨m₃, σ₃⟩ := S₃
    have v1 : m₃ (Str.ofString "events") = _ := v1
    have v3 : m₃ (Str.ofString "many") = _ := v3
    have v4 : m₃ (Str.ofString "pieces") = _ := v4
    have v5 : σ₃ R = _ := v5
    rw [Int.zero_add]
    w_fin
    refine WSub_iL (kp _ _ ha) (by exact Int.natCast_nonneg _) (by lia) (getD_get (by exact om22 ‹_›)) ?_
    w_fin
    rw [Int.toNat_natCast]
    have hi : i < es.length := by exact om22 ‹_›
    by_cases q : es.getD i 0 < (ms.length : Int)
    · first | refine if_yes (by simpa using q) ?_ | rw [if_pos (by simpa using q)]
      have hm := hmates i hi q
      refine WXs_consL ?_
      intro Q_
      refine WX_CompR (fun _ _ => rfl) hs (by kernel_rfl) (by kernel_rfl) (by kernel_rfl) hx (by kernel_rfl) (by kernel_rfl) ?_
      w_fin
      refine WC_len (kp _ _ ha) (by rw [iL_len]; lia) ?_
      rw [iL_len]
      w_fin
      refine WC_range1 fun r₂ hr₂ => ?_
      have hr₂ : σ₃ r₂ = none := hr₂
      let Inv_3 : Nat -> List Value -> St Int -> Prop := fun k acc S' => S'.m (Str.ofString "events") = some (.ref a) /\ S'.m (Str.ofString "many") = some (.int ms.length 0) /\ S'.m (Str.ofString "a") = some (.int i 0) /\ acc = dueUp es ms.length i k /\ S'.σ R = some (.list (sL ps)) /\ ∀ x o, σ₀ x = some o -> S'.σ x = some o
      refine ⟨r₂, 0, es.length, rfl, upd_self, by exact om16, by exact om17, by exact om27 _, by lia, by rw [sizeLine_eq]; lia, Inv_3,
        ⟨by walk_at "w lk", by walk_at "w lk", by walk_at "w lk", rfl, upd_le hr₂ _ _ v5, fun x o e => upd_le hr₂ x o (kp x o e)⟩, fun k acc S₂ hI => by rw [hI.2.2.2.1]; unfold dueUp; rw [List.length_map]; exact Nat.le_trans (List.length_filter_le _ _) (by simp), fun c₁ hs₁ hx₁ hd₁ k acc S₄ hk q_ => ?_, fun acc S₄ ⟨w1, w2, w3, w4, w5, kp⟩ D hD => ?_⟩
      · (refine el_AAAAA q_ ?_; clear q_; intro w1 w2 w3 w4 w5 kp)
        obtain ⟨m₄, σ₄⟩ := S₄
        have w1 : m₄ (Str.ofString "events") = _ := w1
        have w2 : m₄ (Str.ofString "many") = _ := w2
        have w3 : m₄ (Str.ofString "a") = _ := w3
        have w5 : σ₄ R = _ := w5
        rw [Int.zero_add]
        w_fin
        refine WSub_iL (kp _ _ ha) (by exact Int.natCast_nonneg _) (by lia) (getD_get (by exact om22 ‹_›)) ?_
        w_fin
        refine WSub_iL (kp _ _ ha) (by exact Int.natCast_nonneg _) (by lia) (getD_get ‹_›) ?_
        w_fin
        rw [Int.toNat_natCast, Int.toNat_natCast]
        have nxt : dueUp es ms.length i (k + 1) = dueUp es ms.length i k ++ if (es.getD k 0 == (ms.length : Int) + es.getD i 0) = true then [.int k 0] else [] := by
          unfold dueUp
          rw [List.range_succ, List.filter_append, List.map_append, List.filter_cons, List.filter_nil]
          split <;> rfl
        by_cases q2 : (es.getD k 0 == (ms.length : Int) + es.getD i 0) = true
        · rw [if_pos q2] at nxt ⊢
          w_fin
          exact ⟨by walk_at "w lk", by walk_at "w lk", by walk_at "w lk", by rw [nxt, w4], w5, kp⟩
        rw [if_neg q2, List.append_nil] at nxt
        first | refine if_no q2 ?_ | rw [if_neg q2]
        exact ⟨by walk_at "w lk", by walk_at "w lk", by walk_at "w lk", by rw [nxt, w4], w5, kp⟩
      have hacc : acc = (dueOf es ms.length i).map fun (b : Nat) => .int b 0 := by
        rw [w4, show ((es.length : Int) - 0).toNat = es.length by exact Nat.sub_zero _]; rfl
      subst hacc
      obtain ⟨m₄, σ₄⟩ := S₄
      have w5 : σ₄ R = _ := w5
      have hD : σ₄ D = none := hD
      rw [← hm]
      w_fin
      refine W_mate (k := i) hK (hd'.less (by decide)) (upd_le hD _ _ w5) (by lia) pok (by lia) fun F hF => ?_
      w_fin
      have hDF : F ≠ D := fun e => by
        rw [e] at hF
        exact absurd (upd_self.symm.trans hF) (by simp)
      refine WCmp_neL (k := 0) (e := fun _ => true) (a := F) (b := D) upd_self (upd_le hF _ _ upd_self) rfl (by decide) (fun j x y hx' hy => ?_) ?_
      · rw [hx'] at hy
        obtain rfl := Option.some.inj hy
        rw [List.getElem?_map, Option.map_eq_some_iff] at hx'
        refine el_EA hx' ?_; (try clear hx'); intro v _ rfl_49; subst rfl_49
        show EqW g _ 0 _ _ true
        rw [show true = ((v : Int) == v) from (beq_self_eq_true _).symm]
        exact EqW.int _ _
      rw [all_true]
      w_fin
      first | refine if_no (by decide) ?_ | rw [if_neg (by decide)]
      w_fin
      exact ⟨by walk_at "w lk", by walk_at "w lk", by walk_at "w lk", upd_le hF _ _ (upd_le hD _ _ w5), fun x o e => upd_le hF x o (upd_le hD x o (kp x o e))⟩
    first | refine if_no (by simpa using q) ?_ | rw [if_neg (by simpa using q)]
    w_fin
    exact ⟨by walk_at "w lk", by walk_at "w lk", by walk_at "w lk", v5, kp⟩
  refine el_AAAA q_ ?_; clear q_; intro v1 v3 v4 v5 kp
  w_fin
  exact ⟨⟨sm, σ₀⟩, ⟨fun _ _ e => e, kp⟩, h⟩
end
end
end
section
section
noncomputable def remN (es : List (Int × Int)) (D : List Int) (x : Int) : Nat := (es.filter fun e => decide (e.2 = x /\ e.1 ∉ D)).length
noncomputable def Ready (es : List (Int × Int)) (D : List Int) (x : Int) : Prop := (∃ e ∈ es, x = e.1 ∨ x = e.2) /\ x ∉ D /\ ∀ e ∈ es, e.2 = x -> e.1 ∈ D
theorem remN_zero {es : List (Int × Int)} {D : List Int} {x : Int} : remN es D x = 0 ↔ ∀ e ∈ es, e.2 = x -> e.1 ∈ D := by
  unfold remN
  rw [List.length_eq_zero_iff, List.filter_eq_nil_iff]
  constructor
  · intro h e he q
    have := h e he
    rw [decide_eq_true_eq] at this
    exact Classical.byContradiction fun n => this ⟨q, n⟩
  intro h e he q
  rw [decide_eq_true_eq] at q
  exact q.2 (h e he q.1)
theorem remN_step {es : List (Int × Int)} {D : List Int} {x e : Int} (he : e ∉ D) : remN es D x = remN es (D ++ [e]) x + (((es.filter fun p => decide (p.1 = e)).map (·.2)).count x) := by
  unfold remN
  induction es with
  | nil => rfl
  | cons p es ih =>
    by_cases h1 : p.1 = e
    · by_cases h2 : p.2 = x
      · have a : decide (p.2 = x /\ p.1 ∉ D) = true := decide_eq_true ⟨h2, by rw [h1]; exact he⟩
        have b : decide (p.2 = x /\ p.1 ∉ D ++ [e]) = false := decide_eq_false (by simp [h1])
        rw [List.filter_cons, List.filter_cons, List.filter_cons, a, b, decide_eq_true h1, if_pos rfl, if_neg Bool.false_ne_true, if_pos rfl, List.map_cons, h2, List.count_cons_self, List.length_cons, ih]
        exact Nat.add_assoc _ _ _
      have a : decide (p.2 = x /\ p.1 ∉ D) = false := decide_eq_false fun q => h2 q.1
      have b : decide (p.2 = x /\ p.1 ∉ D ++ [e]) = false := decide_eq_false fun q => h2 q.1
      rw [List.filter_cons, List.filter_cons, List.filter_cons, a, b, decide_eq_true h1, if_neg Bool.false_ne_true, if_neg Bool.false_ne_true, if_pos rfl, List.map_cons, List.count_cons_of_ne h2, ih]
    have b : decide (p.2 = x /\ p.1 ∉ D ++ [e]) = decide (p.2 = x /\ p.1 ∉ D) := by simp [h1]
    rw [List.filter_cons, List.filter_cons, List.filter_cons, b, decide_eq_false h1, if_neg Bool.false_ne_true]
    split
    · rw [List.length_cons, List.length_cons, ih]; exact Nat.add_right_comm _ _ _
    exact ih
theorem SG.decs_made : ∀ (ws : List Int) (G : SG Int) (r : List Int), G.ready = some r -> r.Nodup -> (∀ x ∈ r, G.np x ≤ 0) -> (∀ x, (G.decs ws).np x = G.np x - (ws.count x : Int)) /\ ∃ r', (G.decs ws).ready = some r' /\ r'.Nodup /\ ∀ x, x ∈ r' ↔ x ∈ r ∨ (1 ≤ G.np x /\ G.np x ≤ (ws.count x : Int))
  | [], G, r, hr, hn, h0 => ⟨fun x => by simp [SG.decs], r, hr, hn, fun x => ⟨.inl, fun h => h.elim id fun h => by simp at h; lia⟩⟩
  | w :: ws, G, r, hr, hn, h0 => by
    have key : ∃ r₁, (G.dec w).ready = some r₁ /\ r₁.Nodup /\ (∀ x ∈ r₁, (G.dec w).np x ≤ 0) /\ ∀ x, x ∈ r₁ ↔ x ∈ r ∨ (x = w /\ G.np w = 1) := by
      have np₁ : ∀ x, (G.dec w).np x = if x = w then G.np w - 1 else G.np x := fun x => rfl
      by_cases q : G.np w - 1 = 0
      · refine ⟨r ++ [w], by unfold SG.dec; rw [if_pos q, hr]; rfl, ?_, fun x hx => ?_, fun x => ?_⟩
        · rw [List.nodup_append]
          refine ⟨hn, by simp, fun a ha b hb => ?_⟩
          rw [List.mem_singleton.mp hb]
          rintro rfl
          have := h0 a ha
          lia
        · rw [np₁]
          split
          · lia
          rename_i hxw
          rcases List.mem_append.mp hx with hx | hx
          · exact h0 x hx
          exact absurd (List.mem_singleton.mp hx) hxw
        rw [List.mem_append, List.mem_singleton]
        exact or_congr Iff.rfl ⟨fun e => ⟨e, by lia⟩, fun e => e.1⟩
      refine ⟨r, by unfold SG.dec; rw [if_neg q]; exact hr, hn, fun x hx => ?_, fun x => ⟨.inl, fun h => h.elim id fun h => by lia⟩⟩
      rw [np₁]
      have := h0 x hx
      split
      · rename_i hxw; subst hxw; lia
      exact this
    refine el_EAAA key ?_; (try clear key); intro r₁ k1 k2 k3 k4
    refine el_AEAA (SG.decs_made ws (G.dec w) r₁ k1 k2 k3) ?_; intro i1 r' i2 i3 i4
    have np₁ : ∀ x, (G.dec w).np x = if x = w then G.np w - 1 else G.np x := fun x => rfl
    refine ⟨fun x => ?_, r', i2, i3, fun x => ?_⟩
    · show ((G.dec w).decs ws).np x = _
      rw [i1, np₁]
      split
      · rename_i e; subst e
        rw [List.count_cons_self]; lia
      rename_i e
      rw [List.count_cons_of_ne fun q => e q.symm]
    rw [i4, k4, np₁]
    by_cases e : x = w
    · subst e
      rw [if_pos rfl, List.count_cons_self]
      constructor
      · rintro ((h | h) | h)
        · exact .inl h
        · exact .inr ⟨by lia, by lia⟩
        exact .inr ⟨by omega, by omega⟩
      rintro (h | h)
      · exact .inl (.inl h)
      by_cases q : G.np x = 1
      · exact .inl (.inr ⟨rfl, q⟩)
      exact .inr ⟨by lia, by lia⟩
    rw [if_neg e, List.count_cons_of_ne fun q => e q.symm]
    constructor
    · rintro ((h | h) | h)
      · exact .inl h
      · exact absurd h.1 e
      exact .inr h
    rintro (h | h)
    · exact .inl (.inl h)
    exact .inr h
structure KI (es : List (Int × Int)) (G : SG Int) (D rl : List Int) : Prop where
  ks : ∀ x, x ∈ G.ks ↔ ∃ e ∈ es, x = e.1 ∨ x = e.2
  su : ∀ k, G.su k = (es.filter fun e => decide (e.1 = k)).map (·.2)
  np : ∀ x, x ∉ D -> G.np x = remN es D x
  dn : ∀ x, x ∈ D -> G.np x ≤ -1
  ready : G.ready = some rl
  nodup : rl.Nodup
  rdy : ∀ x, x ∈ rl ↔ Ready es D x
  po : G.nf = G.po
theorem nodup_one {α : Type} {l : List α} {e : α} (h : l.Nodup) (hm : ∀ x, x ∈ l ↔ x = e) : l = [e] := by
  match l, h, hm with
  | [], _, hm => exact absurd ((hm e).mpr rfl) (by simp)
  | [x], _, hm => rw [(hm x).mp (.head _)]
  | x :: y :: l, h, hm =>
    have h1 := (hm x).mp (.head _)
    have h2 := (hm y).mp (.tail _ (.head _))
    rw [List.nodup_cons] at h
    exact absurd (show x ∈ y :: l by rw [h1, h2]; exact .head _) h.1
theorem KI.step {es : List (Int × Int)} {G : SG Int} {D : List Int} {e : Int} (K : KI es G D [e]) (hz : es.length ≤ 9999) : DoneOk [e] (G.getReady [e]) /\ ∃ rl', KI es (G.round [e]) (D ++ [e]) rl' := by
  have re : Ready es D e := (K.rdy e).mp (.head _)
  have eq0 : ∀ k, (G.getReady [e]).np k = if k = e then -1 else G.np k := fun k => rfl
  refine ⟨⟨(K.ks e).mpr re.1, by rw [eq0, if_pos rfl], ⟨[], rfl, ?_⟩, trivial⟩, ?_⟩
  · show 0 + (G.su e).length ≤ _
    rw [K.su, List.length_map]
    have := List.length_filter_le (fun p => decide (p.1 = e)) es
    lia
  have G1 : (((G.getReady [e]).setNp e (-2)).ready = some []) := rfl
  have np1 : ∀ x, ((G.getReady [e]).setNp e (-2)).np x = if x = e then -2 else G.np x := fun x => by
    show (if x = e then -2 else (if x = e then -1 else G.np x)) = _
    split <;> rfl
  refine el_AEAA (SG.decs_made (G.su e) _ [] G1 .nil fun x h => nomatch h) ?_; intro d1 r' d2 d3 d4
  refine el_AAAA (SG.decs_ok (G.su e) _ G1) ?_; intro o1 o2 o3 o4 _
  refine ⟨r', ?_⟩
  have eR : G.round [e] = { ((G.getReady [e]).setNp e (-2)).decs (G.su e) with nf := (G.getReady [e]).nf + 1 } := rfl
  have hsu : (G.su e) = (es.filter fun p => decide (p.1 = e)).map (·.2) := K.su e
  refine ⟨fun x => ?_, fun k => ?_, fun x hx => ?_, fun x hx => ?_, ?_, d3, fun x => ?_, ?_⟩
  · rw [eR]; show x ∈ (SG.decs _ _).ks ↔ _
    rw [o1]; exact K.ks x
  · rw [eR]; show (SG.decs _ _).su k = _
    rw [o2]; exact K.su k
  · rw [eR]; show (SG.decs _ _).np x = _
    rw [List.mem_append, not_or, List.mem_singleton] at hx
    rw [d1, np1, if_neg hx.2, K.np x hx.1, hsu, remN_step re.2.1]
    (simp)
  · rw [eR]; show (SG.decs _ _).np x ≤ _
    rw [d1, np1]
    split
    · lia
    rename_i q
    rcases List.mem_append.mp hx with hx | hx
    · have := K.dn x hx
      lia
    exact absurd (List.mem_singleton.mp hx) q
  · rw [eR]; exact d2
  · rw [d4, np1]
    constructor
    · rintro (h | ⟨h1, h2⟩)
      · cases h
      by_cases q : x = e
      · rw [if_pos q] at h1; exact om33 ‹_›
      rw [if_neg q] at h1 h2
      have hxD : x ∉ D := fun hD => by have := K.dn x hD; lia
      rw [K.np x hxD] at h1 h2
      rw [hsu] at h2
      have st := remN_step (es := es) (D := D) (x := x) re.2.1
      have hc : 0 < ((es.filter fun p => decide (p.1 = e)).map (·.2)).count x := by lia
      refine el_EA (List.mem_map.mp (List.count_pos_iff.mp hc)) ?_; intro p hp hpx
      refine ⟨⟨p, (List.mem_filter.mp hp).1, .inr hpx.symm⟩, ?_, remN_zero.mp (by lia)⟩
      rw [List.mem_append, not_or, List.mem_singleton]
      exact ⟨hxD, q⟩
    intro q_
    refine el_AA q_ ?_; clear q_; intro h1 h2 h3
    rw [List.mem_append, not_or, List.mem_singleton] at h2
    refine .inr ?_
    rw [if_neg h2.2, K.np x h2.1, hsu]
    have st := remN_step (es := es) (D := D) (x := x) re.2.1
    rw [remN_zero.mpr h3] at st
    refine ⟨?_, by lia⟩
    have : remN es D x ≠ 0 := fun q => h2.2 (List.mem_singleton.mp ((K.rdy x).mpr ⟨h1, h2.1, remN_zero.mp q⟩))
    lia
  rw [eR]
  show (G.getReady [e]).nf + 1 = (SG.decs _ _).po
  rw [o3]
  have := K.po
  have e1 : (G.getReady [e]).nf = G.nf := rfl
  have e2 : ((G.getReady [e]).setNp e (-2)).po = G.po + 1 := rfl
  lia
theorem kahn {es : List (Int × Int)} (hz : es.length ≤ 9999) : ∀ (evs D rl : List Int) (G : SG Int), KI es G D rl -> (∀ k e, evs[k]? = some e -> ∀ x, Ready es (D ++ evs.take k) x ↔ x = e) -> (∀ x, ¬ Ready es (D ++ evs) x) -> Runs (evs.map fun e => [e]) G
  | [], D, rl, G, K, _, h2 => by
    have : rl = [] := by
      cases rl with
      | nil => rfl
      | cons x l =>
        have := (K.rdy x).mp (.head _)
        rw [List.append_nil] at h2
        exact absurd this (h2 x)
    subst this
    exact ⟨K.ready, K.po⟩
  | e :: evs, D, rl, G, K, h1, h2 => by
    have : rl = [e] := nodup_one K.nodup fun x => by
      rw [K.rdy]
      have := h1 0 e rfl x
      rwa [List.take_zero, List.append_nil] at this
    subst this
    refine el_AE (K.step hz) ?_; intro d rl' K'
    refine ⟨K.ready, by simp, by show 1 ≤ 10000; decide, K.po, d, kahn hz evs (D ++ [e]) rl' _ K' (fun k e' he x => ?_) fun x => ?_⟩
    · have := h1 (k + 1) e' he x
      rwa [List.take_succ_cons, ← List.singleton_append, ← List.append_assoc] at this
    have := h2 x
    rwa [← List.singleton_append, ← List.append_assoc] at this
theorem addNode_nodup {G : SG Int} (h : G.ks.Nodup) (k : Int) : (G.addNode k).ks.Nodup := by
  unfold SG.addNode
  split
  · exact h
  rename_i q
  show (G.ks ++ [k]).Nodup
  rw [List.nodup_append]
  exact ⟨h, by simp, fun a ha b hb => by rw [List.mem_singleton.mp hb]; rintro rfl; exact q ha⟩
theorem led_nodup (es : List (Int × Int)) : (SG.led es).ks.Nodup := by
  have gen : ∀ (l : List (Int × Int)) (G : SG Int), G.ks.Nodup -> (l.foldl (fun G e => G.add e.2 [e.1]) G).ks.Nodup := by
    intro l
    induction l with
    | nil => exact fun G h => h
    | cons e l ih => exact fun G h => ih _ (addNode_nodup (G := G.add0 e.2 ([e.1] : List Int).length) (addNode_nodup h e.2) e.1)
  exact gen es SG.nil .nil
theorem led_runs {es : List (Int × Int)} (hz : es.length ≤ 9999) {evs : List Int} (h1 : ∀ k e, evs[k]? = some e -> ∀ x, Ready es (evs.take k) x ↔ x = e) (h2 : ∀ x, ¬ Ready es evs x) : Runs (evs.map fun e => [e]) (SG.led es).prep := by
  have lo := led_ok es
  have np0 : ∀ x, (SG.led es).np x = (remN es [] x : Int) := fun x => by
    rw [lo.np]
    unfold remN
    simp
  refine kahn hz evs [] ((SG.led es).ks.filter fun k => decide ((SG.led es).np k = 0)) _ ⟨lo.ks, lo.su, fun x _ => np0 x, fun x h => (nomatch h), rfl, (led_nodup es).filter _, fun x => ?_, lo.nf.trans lo.po.symm⟩ (by simpa using h1) (by simpa using h2)
  rw [List.mem_filter, decide_eq_true_eq, np0, lo.ks]
  constructor
  · intro q_
    refine el_A q_ ?_; clear q_; intro a b
    exact ⟨a, (fun h => nomatch h), remN_zero.mp (by exact Int.natCast_inj.mp ‹_›)⟩
  intro q_
  refine el_AA q_ ?_; clear q_; intro a _ b
  refine ⟨a, ?_⟩
  rw [remN_zero.mpr b]; rfl
end
end
section
noncomputable def rk (ns : List Int) (x : Int) : Int := ns.getD x.toNat 0
structure Rk (ns : List Int) : Prop where
  low : ∀ x : Int, 0 ≤ x -> x < ns.length -> 0 ≤ rk ns x /\ rk ns x < ns.length
  inj : ∀ x y : Int, 0 ≤ x -> x < ns.length -> 0 ≤ y -> y < ns.length -> rk ns x = rk ns y -> x = y
  sur : ∀ r : Int, 0 ≤ r -> r < ns.length -> ∃ x : Int, 0 ≤ x /\ x < ns.length /\ rk ns x = r
noncomputable def Mch.CanPop (ns : List Int) (m : Mch) : Prop := m.pile ≠ [] /\ rk ns m.top = m.gone
noncomputable def Mch.CanPush (ns : List Int) (m : Mch) : Prop := m.come < (ns.length : Int) /\ (m.pile = [] ∨ rk ns m.come < rk ns m.top)
structure MI (ns : List Int) (m : Mch) : Prop where
  c0 : 0 ≤ m.come
  c1 : m.come ≤ ns.length
  g0 : 0 ≤ m.gone
  g1 : m.gone ≤ ns.length
  pile : ∀ x, x ∈ m.pile ↔ 0 ≤ x /\ x < m.come /\ m.gone ≤ rk ns x
  sort : m.pile.Pairwise fun a b => a < b /\ rk ns b < rk ns a
  early : ∀ x : Int, 0 ≤ x -> x < ns.length -> rk ns x < m.gone -> x < m.come
  ev : ∀ x, x ∈ m.ev ↔ (0 ≤ x /\ x < m.come) ∨ ((ns.length : Int) ≤ x /\ x < 2 * ns.length /\ rk ns (x - ns.length) < m.gone)
  nodup : m.ev.Nodup
  len : (m.ev.length : Int) = m.come + m.gone
theorem top_at {m : Mch} {l : List Int} {t : Int} (h : m.pile = l ++ [t]) : m.top = t := by unfold Mch.top; rw [h]; simp
theorem pile_cases (m : Mch) : m.pile = [] ∨ ∃ l t, m.pile = l ++ [t] := by
  rcases List.eq_nil_or_concat m.pile with h | ⟨l, t, h⟩
  · exact .inl h
  exact .inr ⟨l, t, by simpa using h⟩
theorem MI.least {ns : List Int} {m : Mch} (M : MI ns m) {l : List Int} {t : Int} (h : m.pile = l ++ [t]) : ∀ a ∈ l, a < t /\ rk ns t < rk ns a := by
  have := M.sort
  rw [h, List.pairwise_append] at this
  exact fun a ha => this.2.2 a ha t (by simp)
theorem MI.zero {ns : List Int} (hR : Rk ns) : MI ns ⟨[], [], 0, 0⟩ := by
  refine ⟨Int.le_refl _, Int.natCast_nonneg _, Int.le_refl _, Int.natCast_nonneg _, fun x => ⟨(fun h => nomatch h), fun h => ?_⟩, .nil, fun x h0 h1 h2 => ?_, fun x => ⟨(fun h => nomatch h), fun h => ?_⟩, .nil, rfl⟩
  · have := h.2.1
    dsimp only at this
    lia
  · have := (hR.low x h0 h1).1
    dsimp only at h2
    exact om36 ‹_› ‹_›
  rcases h with h | h
  · have := h.2
    dsimp only at this
    lia
  have := (hR.low (x - ns.length) (by omega) (by lia)).1
  have := h.2.2
  dsimp only at this
  exact om36 ‹_› ‹_›
theorem MI.pop {ns : List Int} {m : Mch} (hR : Rk ns) (M : MI ns m) {l : List Int} {t : Int} (h : m.pile = l ++ [t]) (ht : rk ns t = m.gone) : MI ns { m with ev := m.ev ++ [(ns.length : Int) + t], pile := l, gone := m.gone + 1 } := by
  have htp := (M.pile t).mp (by rw [h]; simp)
  have hc := M.c1
  have htn := hR.low t htp.1 (by lia)
  have least := M.least h
  have same : ∀ x : Int, 0 ≤ x -> x < ns.length -> rk ns x = m.gone -> x = t := fun x h0 h1 e => hR.inj x t h0 h1 htp.1 (by lia) (e.trans ht.symm)
  have g1 := M.g1
  refine ⟨M.c0, M.c1, by have := M.g0; dsimp only; lia, by dsimp only; lia, fun x => ?_, ?_, fun x h0 h1 h2 => ?_, fun x => ?_, ?_, ?_⟩
  · dsimp only
    constructor
    · intro hx
      have := (M.pile x).mp (by rw [h]; exact List.mem_append_left _ hx)
      have := (least x hx).2
      lia
    intro q_
    refine el_AA q_ ?_; clear q_; intro h0 h1 h2
    have := (M.pile x).mpr ⟨h0, h1, by exact Int.le_of_lt ‹_›⟩
    rw [h] at this
    rcases List.mem_append.mp this with hx | hx
    · exact hx
    rw [List.mem_singleton.mp hx] at h2; lia
  · have := M.sort
    rw [h, List.pairwise_append] at this
    exact this.1
  · dsimp only at h2 ⊢
    by_cases q : rk ns x = m.gone
    · rw [same x h0 h1 q]; exact htp.2.1
    exact M.early x h0 h1 (by exact om20 ‹_› ‹_›)
  · dsimp only
    rw [List.mem_append, List.mem_singleton, M.ev]
    constructor
    · rintro ((h1 | h1) | h1)
      · exact .inl h1
      · exact .inr ⟨h1.1, h1.2.1, by have := h1.2.2; omega⟩
      subst h1
      refine .inr ⟨by lia, by lia, ?_⟩
      rw [show (ns.length : Int) + t - ns.length = t by exact om19 _ _]; lia
    rintro (h1 | ⟨h1, h2, h3⟩)
    · exact .inl (.inl h1)
    by_cases q : rk ns (x - ns.length) = m.gone
    · have := same (x - ns.length) (by lia) (by lia) q
      exact .inr (by lia)
    exact .inl (.inr ⟨h1, h2, by exact om20 ‹_› ‹_›⟩)
  · dsimp only
    rw [List.nodup_append]
    refine ⟨M.nodup, by simp, fun a ha b hb => ?_⟩
    rw [List.mem_singleton.mp hb]
    rintro rfl
    rcases (M.ev _).mp ha with h1 | h1
    · omega
    have := h1.2.2
    rw [show (ns.length : Int) + t - ns.length = t by exact om19 _ _] at this
    omega
  dsimp only
  rw [List.length_append, List.length_singleton]
  have := M.len
  lia
theorem MI.push {ns : List Int} {m : Mch} (hR : Rk ns) (M : MI ns m) (h : m.CanPush ns) : MI ns { m with pile := m.pile ++ [m.come], ev := m.ev ++ [m.come], come := m.come + 1 } := by
  refine el_A h ?_; (try clear h); intro hc hp
  have c0 := M.c0
  have hg : m.gone ≤ rk ns m.come := by
    refine Int.not_lt.mp fun q => ?_
    have := M.early _ c0 hc q
    lia
  have less : ∀ a ∈ m.pile, rk ns m.come < rk ns a := fun a ha => by
    rcases hp with hp | hp
    · rw [hp] at ha; cases ha
    rcases pile_cases m with q | ⟨l, t, q⟩
    · rw [q] at ha; cases ha
    rw [top_at q] at hp
    rw [q] at ha
    rcases List.mem_append.mp ha with ha | ha
    · have := (M.least q a ha).2
      exact Int.lt_trans ‹_› ‹_›
    rw [List.mem_singleton.mp ha]; exact hp
  refine ⟨by dsimp only; lia, by dsimp only; assumption, M.g0, M.g1, fun x => ?_, ?_, fun x h0 h1 h2 => ?_, fun x => ?_, ?_, ?_⟩
  · dsimp only
    rw [List.mem_append, List.mem_singleton, M.pile]
    constructor
    · rintro (h | h)
      · exact ⟨h.1, by lia, h.2.2⟩
      subst h; exact ⟨c0, by lia, hg⟩
    intro q_
    refine el_AA q_ ?_; clear q_; intro h0 h1 h2
    by_cases q : x = m.come
    · exact .inr q
    exact .inl ⟨h0, by exact om20 ‹_› ‹_›, h2⟩
  · dsimp only
    rw [List.pairwise_append]
    refine ⟨M.sort, by simp, fun a ha b hb => ?_⟩
    rw [List.mem_singleton.mp hb]
    exact ⟨((M.pile a).mp ha).2.1, less a ha⟩
  · have := M.early x h0 h1 h2
    dsimp only; lia
  · dsimp only
    rw [List.mem_append, List.mem_singleton, M.ev]
    constructor
    · rintro ((h1 | h1) | h1)
      · exact .inl ⟨h1.1, by lia⟩
      · exact .inr h1
      subst h1; exact .inl ⟨c0, by omega⟩
    rintro (h1 | h1)
    · by_cases q : x = m.come
      · exact .inr q
      exact .inl (.inl ⟨h1.1, by lia⟩)
    exact .inl (.inr h1)
  · dsimp only
    rw [List.nodup_append]
    refine ⟨M.nodup, by simp, fun a ha b hb => ?_⟩
    rw [List.mem_singleton.mp hb]
    rintro rfl
    rcases (M.ev _).mp ha with h1 | h1 <;> lia
  dsimp only
  rw [List.length_append, List.length_singleton]
  have := M.len
  lia
theorem step_cases (ns : List Int) (m : Mch) : (m.CanPop ns /\ ∃ l t, m.pile = l ++ [t] /\ rk ns t = m.gone /\ m.step ns = { m with ev := m.ev ++ [(ns.length : Int) + t], pile := l, gone := m.gone + 1 }) ∨
    (¬ m.CanPop ns /\ m.CanPush ns /\ m.step ns = { m with pile := m.pile ++ [m.come], ev := m.ev ++ [m.come], come := m.come + 1 }) ∨ (¬ m.CanPop ns /\ ¬ m.CanPush ns /\ m.step ns = m) := by
  unfold Mch.step
  by_cases h : m.CanPop ns
  · refine .inl ⟨h, ?_⟩
    rcases pile_cases m with q | ⟨l, t, q⟩
    · exact absurd q h.1
    have ht := top_at q
    refine ⟨l, t, q, by have := h.2; rwa [ht] at this, ?_⟩
    rw [if_pos (show m.pile ≠ [] /\ ns.getD m.top.toNat 0 = m.gone from h), ht, q, List.dropLast_concat]
  have h' : ¬ (m.pile ≠ [] /\ ns.getD m.top.toNat 0 = m.gone) := h
  by_cases k : m.CanPush ns
  · have k' : m.come < (ns.length : Int) /\ (m.pile = [] ∨ ns.getD m.come.toNat 0 < ns.getD m.top.toNat 0) := k
    exact .inr (.inl ⟨h, k, by rw [if_neg h', if_pos k']⟩)
  have k' : ¬ (m.come < (ns.length : Int) /\ (m.pile = [] ∨ ns.getD m.come.toNat 0 < ns.getD m.top.toNat 0)) := k
  exact .inr (.inr ⟨h, k, by rw [if_neg h', if_neg k']⟩)
theorem MI.step {ns : List Int} {m : Mch} (hR : Rk ns) (M : MI ns m) : MI ns (m.step ns) := by
  rcases step_cases ns m with ⟨_, l, t, h1, h2, h3⟩ | ⟨_, h2, h3⟩ | ⟨_, _, h3⟩ <;> rw [h3]
  · exact M.pop hR h1 h2
  · exact M.push hR h2
  exact M
theorem MI.up {ns : List Int} (hR : Rk ns) : ∀ k, MI ns (runUp ns k)
  | 0 => .zero hR
  | k + 1 => (MI.up hR k).step hR
noncomputable def Mch.Next (ns : List Int) (m : Mch) (x : Int) : Prop := (m.CanPop ns /\ x = (ns.length : Int) + m.top) ∨ (¬ m.CanPop ns /\ m.CanPush ns /\ x = m.come)
end
section
theorem mem_steps {ns : List Int} {e : Int × Int} : e ∈ stepsOf ns ↔ (∃ i : Int, 1 ≤ i /\ i < ns.length /\ e = (i - 1, i)) ∨ (∃ j : Int, 0 ≤ j /\ j < ns.length /\ e = (j, (ns.length : Int) + j)) ∨
    (∃ i j : Int, 0 ≤ i /\ i < ns.length /\ 0 ≤ j /\ j < ns.length /\ rk ns i + 1 = rk ns j /\ e = ((ns.length : Int) + i, (ns.length : Int) + j)) ∨ (∃ i j : Int, 0 ≤ i /\ i < j /\ j < ns.length /\ rk ns i < rk ns j /\ e = ((ns.length : Int) + i, j)) := by
  unfold stepsOf stepsUp
  rw [List.mem_append, List.mem_append, or_assoc]
  refine or_congr ?_ (or_congr ?_ ?_)
  · unfold pairs1
    rw [List.mem_map]
    constructor
    · intro q_
      refine el_EA q_ ?_; clear q_; intro i hi rfl_5; subst rfl_5
      rw [List.mem_range] at hi
      exact ⟨1 + (i : Int), by lia, by omega, rfl⟩
    intro q_
    refine el_EAA q_ ?_; clear q_; intro i h1 h2 rfl_4; subst rfl_4
    exact ⟨(i - 1).toNat, List.mem_range.mpr (by omega), by rw [Prod.mk.injEq]; constructor <;> lia⟩
  · unfold pairs2
    rw [List.mem_map]
    constructor
    · intro q_
      refine el_EA q_ ?_; clear q_; intro i hi rfl_3; subst rfl_3
      rw [List.mem_range] at hi
      exact ⟨(i : Int), by exact Int.natCast_nonneg _, by exact om15 ‹_›, rfl⟩
    intro q_
    refine el_EAA q_ ?_; clear q_; intro i h1 h2 rfl_2; subst rfl_2
    exact ⟨i.toNat, List.mem_range.mpr (by exact om07 ‹_› ‹_›), by rw [Prod.mk.injEq]; constructor <;> lia⟩
  unfold stepRow
  simp only [List.mem_flatMap, List.mem_range]
  unfold stepPairs
  constructor
  · intro q_
    refine el_EAEA q_ ?_; clear q_; intro i hi j hj h
    rcases List.mem_append.mp h with h | h
    · split at h
      · rename_i q
        rw [List.mem_singleton.mp h]
        exact .inl ⟨i, j, by exact Int.natCast_nonneg _, by exact om15 ‹_›, by exact Int.natCast_nonneg _, by exact om15 ‹_›, by unfold rk; rw [Int.toNat_natCast, Int.toNat_natCast]; exact q, rfl⟩
      cases h
    split at h
    · rename_i q
      rw [List.mem_singleton.mp h]
      exact .inr ⟨i, j, by exact Int.natCast_nonneg _, q.1, by exact om15 ‹_›, by unfold rk; rw [Int.toNat_natCast, Int.toNat_natCast]; exact q.2, rfl⟩
    cases h
  rintro (⟨i, j, h1, h2, h3, h4, h5, rfl⟩ | ⟨i, j, h1, h2, h3, h4, rfl⟩)
  · refine ⟨i.toNat, by exact om07 ‹_› ‹_›, j.toNat, by exact om07 ‹_› ‹_›, List.mem_append_left _ ?_⟩
    unfold rk at h5
    rw [if_pos h5, List.mem_singleton, Prod.mk.injEq]
    constructor <;> exact om39 ‹_›
  refine ⟨i.toNat, by lia, j.toNat, by lia, List.mem_append_right _ ?_⟩
  unfold rk at h4
  rw [if_pos ⟨by lia, h4⟩, List.mem_singleton, Prod.mk.injEq]
  constructor <;> omega
theorem steps_node {ns : List Int} {x : Int} : (∃ e ∈ stepsOf ns, x = e.1 ∨ x = e.2) ↔ 0 ≤ x /\ x < 2 * (ns.length : Int) := by
  constructor
  · intro q_
    refine el_EA q_ ?_; clear q_; intro e he h
    rcases mem_steps.mp he with ⟨i, h1, h2, rfl⟩ | ⟨i, h1, h2, rfl⟩ | ⟨i, j, h1, h2, h3, h4, h5, rfl⟩ | ⟨i, j, h1, h2, h3, h4, rfl⟩ <;> dsimp only at h <;> omega
  intro q_
  refine el_A q_ ?_; clear q_; intro h0 h1
  by_cases q : x < ns.length
  · exact ⟨_, mem_steps.mpr (.inr (.inl ⟨x, h0, q, rfl⟩)), .inl rfl⟩
  exact ⟨_, mem_steps.mpr (.inr (.inl ⟨x - ns.length, by lia, by lia, rfl⟩)), .inr (by dsimp only; exact om40 _ _)⟩
theorem MI.due {ns : List Int} {m : Mch} (M : MI ns m) {x : Int} (hx : x ∈ m.pile) (hr : rk ns x = m.gone) : m.CanPop ns /\ m.top = x := by
  rcases pile_cases m with q | ⟨l, t, q⟩
  · rw [q] at hx; cases hx
  have ht : m.top = t := top_at q
  have htg := ((M.pile t).mp (by rw [q]; simp)).2.2
  rw [q] at hx
  rcases List.mem_append.mp hx with h | h
  · have := (M.least q x h).2
    lia
  have e := List.mem_singleton.mp h
  exact ⟨⟨by rw [q]; simp, by rw [ht, ← e]; exact hr⟩, by rw [ht, e]⟩
theorem ready_iff {ns : List Int} {m : Mch} (hR : Rk ns) (M : MI ns m) (x : Int) : Ready (stepsOf ns) m.ev x ↔ m.Next ns x := by
  have c1 := M.c1
  have c0 := M.c0
  unfold Ready
  rw [steps_node]
  constructor
  · intro q_
    refine el_AA q_ ?_; clear q_; intro nn_1 h2 h3; obtain ⟨h0, h1⟩ := nn_1
    by_cases q : x < ns.length
    · have hxc : m.come ≤ x := by
        refine Int.not_lt.mp fun k => h2 ((M.ev x).mpr (.inl ⟨h0, k⟩))
      have hx : x = m.come := by
        by_cases z : x = 0
        · lia
        have := (M.ev _).mp (h3 (x - 1, x) (mem_steps.mpr (.inl ⟨x, by lia, q, rfl⟩)) rfl)
        dsimp only at this
        omega
      subst hx
      have nopile : ∀ t ∈ m.pile, rk ns m.come < rk ns t := fun t ht => by
        refine el_AA ((M.pile t).mp ht) ?_; intro t0 t1 t2
        refine Int.not_le.mp fun k => ?_
        have ne : rk ns t ≠ rk ns m.come := fun e => by have := hR.inj t m.come t0 (by exact Int.lt_of_lt_of_le ‹_› ‹_›) h0 q e; lia
        have := (M.ev _).mp (h3 ((ns.length : Int) + t, m.come) (mem_steps.mpr (.inr (.inr (.inr ⟨t, m.come, t0, t1, q, by lia, rfl⟩)))) rfl)
        dsimp only at this
        rw [show (ns.length : Int) + t - ns.length = t by exact om19 _ _] at this
        lia
      have noPop : ¬ m.CanPop ns := fun k => by
        rcases pile_cases m with e | ⟨l, t, e⟩
        · exact k.1 e
        have k2 := k.2
        rw [top_at e] at k2
        have := nopile t (by rw [e]; simp)
        have := M.early m.come h0 q (by lia)
        lia
      refine .inr ⟨noPop, ⟨q, ?_⟩, rfl⟩
      rcases pile_cases m with e | ⟨l, t, e⟩
      · exact .inl e
      exact .inr (by rw [top_at e]; exact nopile t (by rw [e]; simp))
    obtain ⟨j, rfl⟩ : ∃ j, x = (ns.length : Int) + j := ⟨x - ns.length, by exact om40 _ _⟩
    have hj0 : 0 ≤ j := by lia
    have hj1 : j < ns.length := by lia
    have hjc : j < m.come := by
      have := (M.ev _).mp (h3 (j, (ns.length : Int) + j) (mem_steps.mpr (.inr (.inl ⟨j, hj0, hj1, rfl⟩))) rfl)
      dsimp only at this
      omega
    have hg : m.gone ≤ rk ns j := by
      refine Int.not_lt.mp fun k => h2 ((M.ev _).mpr (.inr ⟨by exact Int.not_lt.mp ‹_›, by omega, ?_⟩))
      rwa [show (ns.length : Int) + j - ns.length = j by exact om19 _ _]
    have hge : rk ns j = m.gone := by
      refine Classical.byContradiction fun k => ?_
      have lo := hR.low j hj0 hj1
      refine el_EAA (hR.sur (rk ns j - 1) (by have := M.g0; lia) (by lia)) ?_; intro i i0 i1 i2
      have := (M.ev _).mp (h3 ((ns.length : Int) + i, (ns.length : Int) + j) (mem_steps.mpr (.inr (.inr (.inl ⟨i, j, i0, i1, hj0, hj1, by lia, rfl⟩)))) rfl)
      dsimp only at this
      rw [show (ns.length : Int) + i - ns.length = i by exact om19 _ _] at this
      lia
    refine el_A (M.due ((M.pile j).mpr ⟨hj0, hjc, hg⟩) hge) ?_; intro k1 k2
    exact .inl ⟨k1, by rw [k2]⟩
  rintro (⟨h1, rfl⟩ | ⟨h1, h2, rfl⟩)
  · rcases pile_cases m with e | ⟨l, t, e⟩
    · exact absurd e h1.1
    have k2 := h1.2
    rw [top_at e] at k2 ⊢
    refine el_AA ((M.pile t).mp (by rw [e]; simp)) ?_; intro t0 t1 t2
    refine ⟨by lia, fun k => ?_, fun p hp hp2 => ?_⟩
    · have := (M.ev _).mp k
      rw [show (ns.length : Int) + t - ns.length = t by exact om19 _ _] at this
      omega
    rcases mem_steps.mp hp with ⟨i, a1, a2, rfl⟩ | ⟨i, a1, a2, rfl⟩ | ⟨i, j, a1, a2, a3, a4, a5, rfl⟩ | ⟨i, j, a1, a2, a3, a4, rfl⟩ <;> dsimp only at hp2 ⊢
    · lia
    · exact (M.ev _).mpr (.inl (by lia))
    · obtain rfl : j = t := by lia
      refine (M.ev _).mpr (.inr ⟨by lia, by lia, ?_⟩)
      rw [show (ns.length : Int) + i - ns.length = i by exact om19 _ _]; lia
    lia
  refine el_A h2 ?_; (try clear h2); intro p1 p2
  refine ⟨by lia, fun k => ?_, fun p hp hp2 => ?_⟩
  · have := (M.ev _).mp k
    omega
  rcases mem_steps.mp hp with ⟨i, a1, a2, rfl⟩ | ⟨i, a1, a2, rfl⟩ | ⟨i, j, a1, a2, a3, a4, a5, rfl⟩ | ⟨i, j, a1, a2, a3, a4, rfl⟩ <;> dsimp only at hp2 ⊢
  · exact (M.ev _).mpr (.inl (by omega))
  · lia
  · lia
  subst hp2
  refine (M.ev _).mpr (.inr ⟨by lia, by lia, ?_⟩)
  rw [show (ns.length : Int) + i - ns.length = i by exact om19 _ _]
  refine Int.not_le.mp fun k => ?_
  have hi := (M.pile i).mpr ⟨a1, a2, k⟩
  rcases p2 with p2 | p2
  · rw [p2] at hi; cases hi
  rcases pile_cases m with e | ⟨l, t, e⟩
  · rw [e] at hi; cases hi
  rw [top_at e] at p2
  rw [e] at hi
  rcases List.mem_append.mp hi with hi | hi
  · have := (M.least e i hi).2
    lia
  rw [List.mem_singleton.mp hi] at a4; lia
theorem run_shape (ns : List Int) : ∀ K, (runUp ns K).ev.length ≤ K /\ (∀ k, k ≤ (runUp ns K).ev.length -> (runUp ns k).ev = (runUp ns K).ev.take k) /\ ((runUp ns K).ev.length < K -> (runUp ns K).step ns = runUp ns K)
  | 0 => ⟨Nat.le_refl _, fun k h => by obtain rfl : k = 0 := Nat.le_zero.mp h; rfl, fun h => absurd h (Nat.lt_irrefl _)⟩
  | K + 1 => by
    refine el_AA (run_shape ns K) ?_; intro h1 h2 h3
    have grow : ∀ e, ((runUp ns K).step ns).ev = (runUp ns K).ev ++ [e] -> (runUp ns (K + 1)).ev.length ≤ K + 1 /\ (∀ k, k ≤ (runUp ns (K + 1)).ev.length -> (runUp ns k).ev = (runUp ns (K + 1)).ev.take k) /\ ((runUp ns (K + 1)).ev.length < K + 1 -> (runUp ns (K + 1)).step ns = runUp ns (K + 1)) := fun e he => by
      have hK : (runUp ns K).ev.length = K := by
        refine Nat.le_antisymm h1 (Nat.not_lt.mp fun k => ?_)
        rw [h3 k] at he
        have := congrArg List.length he
        rw [List.length_append, List.length_singleton] at this
        lia
      have e1 : (runUp ns (K + 1)).ev = (runUp ns K).ev ++ [e] := he
      have e2 : (runUp ns (K + 1)).ev.length = K + 1 := by rw [e1, List.length_append, hK]; rfl
      refine ⟨by lia, fun k hk => ?_, fun h => by lia⟩
      by_cases q : k = K + 1
      · subst q
        rw [List.take_of_length_le (by omega)]
      rw [e1, List.take_append_of_le_length (by lia)]
      exact h2 k (by omega)
    rcases step_cases ns (runUp ns K) with ⟨_, l, t, _, _, s⟩ | ⟨_, _, s⟩ | ⟨_, _, s⟩
    · exact grow _ (by rw [s])
    · exact grow _ (by rw [s])
    have e1 : runUp ns (K + 1) = runUp ns K := s
    rw [e1]
    exact ⟨by exact om50 ‹_›, h2, fun _ => s⟩
theorem step_ev {ns : List Int} {m : Mch} {x : Int} (h : (m.step ns).ev = m.ev ++ [x]) : m.Next ns x := by
  rcases step_cases ns m with ⟨p, l, t, e, _, s⟩ | ⟨p, q, s⟩ | ⟨p, q, s⟩ <;> rw [s] at h
  · have := List.append_cancel_left h
    exact .inl ⟨p, by rw [top_at e]; exact (List.singleton_inj.mp this).symm⟩
  · have := List.append_cancel_left h
    exact .inr ⟨p, q, (List.singleton_inj.mp this).symm⟩
  have := congrArg List.length h
  rw [List.length_append, List.length_singleton] at this
  lia
theorem next_one {ns : List Int} {m : Mch} {x y : Int} (h : m.Next ns x) (k : m.Next ns y) : x = y := by
  rcases h with ⟨a, rfl⟩ | ⟨a, b, rfl⟩ <;> rcases k with ⟨c, rfl⟩ | ⟨c, d, rfl⟩
  · rfl
  · exact absurd a c
  · exact absurd c a
  rfl
theorem run_next {ns : List Int} {K k : Nat} {x : Int} (h : (runUp ns K).ev[k]? = some x) : (runUp ns k).Next ns x := by
  refine el_AA (run_shape ns K) ?_; intro h1 h2 h3
  have hk := (List.getElem?_eq_some_iff.mp h).1
  refine step_ev (m := runUp ns k) ?_
  show (runUp ns (k + 1)).ev = _
  rw [h2 (k + 1) hk, h2 k (Nat.le_of_lt hk), List.take_add_one, h]; rfl
theorem run_end {ns : List Int} (hR : Rk ns) : ¬ (runUp ns (2 * ns.length)).CanPop ns /\ ¬ (runUp ns (2 * ns.length)).CanPush ns := by
  refine el_AA (run_shape ns (2 * ns.length)) ?_; intro h1 h2 h3
  have M := MI.up hR (2 * ns.length)
  have stuck : (runUp ns (2 * ns.length)).step ns = runUp ns (2 * ns.length) -> ¬ (runUp ns (2 * ns.length)).CanPop ns /\ ¬ (runUp ns (2 * ns.length)).CanPush ns := fun s => by
    rcases step_cases ns (runUp ns (2 * ns.length)) with ⟨p, l, t, e, _, s'⟩ | ⟨p, q, s'⟩ | ⟨p, q, _⟩
    · rw [s] at s'
      have := congrArg (fun m => m.ev.length) s'
      simp at this
    · rw [s] at s'
      have := congrArg (fun m => m.ev.length) s'
      simp at this
    exact ⟨p, q⟩
  by_cases q : (runUp ns (2 * ns.length)).ev.length < 2 * ns.length
  · exact stuck (h3 q)
  have hl := M.len
  have := M.c1
  have := M.g1
  refine ⟨fun k => ?_, fun k => ?_⟩
  · rcases pile_cases (runUp ns (2 * ns.length)) with e | ⟨l, t, e⟩
    · exact k.1 e
    refine el_AA ((M.pile t).mp (by rw [e]; simp)) ?_; intro t0 t1 t2
    have := (hR.low t t0 (by exact Int.lt_of_lt_of_le ‹_› ‹_›)).2
    lia
  have := k.1
  lia
theorem run_ready {ns : List Int} (hR : Rk ns) : (∀ k e, (runOf ns)[k]? = some e -> ∀ x, Ready (stepsOf ns) ((runOf ns).take k) x ↔ x = e) /\ ∀ x, ¬ Ready (stepsOf ns) (runOf ns) x := by
  constructor
  · intro k e h x
    unfold runOf at h ⊢
    have hk := (List.getElem?_eq_some_iff.mp h).1
    rw [← (run_shape ns (2 * ns.length)).2.1 k (Nat.le_of_lt hk), ready_iff hR (MI.up hR k)]
    have := run_next h
    exact ⟨fun q => next_one q this, fun q => q ▸ this⟩
  intro x h
  unfold runOf at h
  rw [ready_iff hR (MI.up hR _)] at h
  refine el_A (run_end hR) ?_; intro a b
  rcases h with h | h
  · exact a h.1
  exact b h.2.1
end
section
theorem rk_nat (ns : List Int) (i : Nat) : rk ns i = ns.getD i 0 := by unfold rk; rw [Int.toNat_natCast]
theorem run_full {ns : List Int} (hR : Rk ns) (hb : ¬ Bar ns) : (runUp ns (2 * ns.length)).gone = ns.length := by
  refine el_A (run_end hR) ?_; intro a b
  have M := MI.up hR (2 * ns.length)
  generalize runUp ns (2 * ns.length) = m at *
  refine Classical.byContradiction fun hg => ?_
  have g0 := M.g0
  have g1 := M.g1
  have c1 := M.c1
  refine el_EAA (hR.sur m.gone g0 (by lia)) ?_; intro x x0 x1 x2
  have hx : m.come ≤ x := by
    refine Int.not_lt.mp fun k => a (M.due ((M.pile x).mpr ⟨x0, k, by lia⟩) x2).1
  have c0 := M.c0
  have hc : m.come < ns.length := by exact Int.lt_of_le_of_lt ‹_› ‹_›
  have hp : ¬ (m.pile = [] ∨ rk ns m.come < rk ns m.top) := fun k => b ⟨hc, k⟩
  rw [not_or] at hp
  rcases pile_cases m with e | ⟨l, t, e⟩
  · exact hp.1 e
  have hp2 := hp.2
  rw [top_at e] at hp2
  refine el_AA ((M.pile t).mp (by rw [e]; simp)) ?_; intro t0 t1 t2
  have ne : rk ns t ≠ rk ns m.come := fun q => by have := hR.inj t m.come t0 (by exact Int.lt_of_lt_of_le ‹_› ‹_›) c0 hc q; lia
  have ne2 : rk ns t ≠ m.gone := fun q => a ⟨by rw [e]; simp, by rw [top_at e]; exact q⟩
  have hxc : x ≠ m.come := fun q => by rw [q] at x2; lia
  refine hb ⟨m.come.toNat, t.toNat, x.toNat, by lia, by lia, by exact om07 ‹_› ‹_›, ?_, ?_⟩
  · show rk ns x < rk ns t
    lia
  show rk ns t < rk ns m.come
  lia
theorem run_all {ns : List Int} (hR : Rk ns) (hb : ¬ Bar ns) {x : Int} (h0 : 0 ≤ x) (h1 : x < 2 * (ns.length : Int)) : x ∈ runOf ns := by
  have M := MI.up hR (2 * ns.length)
  have g := run_full hR hb
  unfold runOf
  rw [M.ev, g]
  by_cases q : x < ns.length
  · exact .inl ⟨h0, M.early x h0 q (by rw [g]; exact (hR.low x h0 q).2)⟩
  exact .inr ⟨by exact Int.not_lt.mp ‹_›, h1, (hR.low (x - ns.length) (by lia) (by lia)).2⟩
theorem idx_take : ∀ {l : List Int} {x : Int} {k : Nat}, x ∈ l.take k -> l.idxOf x < k
  | [], _, k, h => by rw [List.take_nil] at h; cases h
  | y :: l, x, 0, h => nomatch h
  | y :: l, x, k + 1, h => by
    rw [List.idxOf_cons]
    by_cases q : y = x
    · rw [beq_iff_eq.mpr q]; exact Nat.succ_pos _
    rw [beq_eq_false_iff_ne.mpr q]
    rw [List.take_succ_cons] at h
    rcases List.mem_cons.mp h with h | h
    · exact absurd h.symm q
    have := idx_take h
    show l.idxOf x + 1 < k + 1
    exact Nat.lt_succ_of_le ‹_›
theorem free_rank {ns : List Int} (hR : Rk ns) (hb : ¬ Bar ns) : ∃ r : Int -> Nat, ∀ e ∈ stepsOf ns, r e.2 < r e.1 := by
  refine ⟨fun x => (runOf ns).length - (runOf ns).idxOf x, fun e he => ?_⟩
  have n2 := steps_node.mp ⟨e, he, .inr rfl⟩
  have m2 := run_all hR hb n2.1 n2.2
  have k2 := List.idxOf_lt_length_of_mem m2
  have g2 : (runOf ns)[(runOf ns).idxOf e.2]? = some e.2 := by
    rw [List.getElem?_eq_getElem k2, List.getElem_idxOf k2]
  have rd := ((run_ready hR).1 _ _ g2 e.2).mpr rfl
  have := idx_take (rd.2.2 e he rfl)
  dsimp only
  lia
theorem bar_rank {ns : List Int} (hR : Rk ns) (hb : Bar ns) : ¬ ∃ r : Int -> Nat, ∀ e ∈ stepsOf ns, r e.2 < r e.1 := by
  intro q_
  refine el_E q_ ?_; clear q_; intro r hr
  refine el_EEEAAAA hb ?_; (try clear hb); intro j i k h1 h2 h3 h4 h5
  rw [← rk_nat, ← rk_nat] at h4 h5
  have push : ∀ d j : Nat, j + d < ns.length -> r ((j + d : Nat) : Int) + d ≤ r (j : Int) := by
    intro d
    induction d with
    | zero => intro j _; exact Nat.le_refl _
    | succ d ih =>
      intro j h
      have := ih j (by exact Nat.le_of_lt ‹_›)
      have := hr _ (mem_steps.mpr (.inl ⟨((j + (d + 1) : Nat) : Int), by lia, by exact om15 ‹_›, rfl⟩))
      dsimp only at this
      rw [show ((j + (d + 1) : Nat) : Int) - 1 = ((j + d : Nat) : Int) by lia] at this
      lia
  have pop : ∀ (d : Nat) (x y : Int), 0 ≤ x -> x < ns.length -> 0 ≤ y -> y < ns.length -> rk ns y = rk ns x + 1 + d -> r ((ns.length : Int) + y) < r ((ns.length : Int) + x) := by
    intro d
    induction d with
    | zero =>
      intro x y x0 x1 y0 y1 h
      exact hr _ (mem_steps.mpr (.inr (.inr (.inl ⟨x, y, x0, x1, y0, y1, by lia, rfl⟩))))
    | succ d ih =>
      intro x y x0 x1 y0 y1 h
      have lx := hR.low x x0 x1
      have ly := hR.low y y0 y1
      refine el_EAA (hR.sur (rk ns y - 1) (by lia) (by lia)) ?_; intro z z0 z1 z2
      have a := ih x z x0 x1 z0 z1 (by lia)
      have b := hr _ (mem_steps.mpr (.inr (.inr (.inl ⟨z, y, z0, z1, y0, y1, by lia, rfl⟩))))
      dsimp only at b
      exact Nat.lt_trans ‹_› ‹_›
  have a1 := hr _ (mem_steps.mpr (.inr (.inr (.inr ⟨(i : Int), (j : Int), by exact Int.natCast_nonneg _, by exact om15 ‹_›, by lia, by omega, rfl⟩))))
  dsimp only at a1
  have a2 := push (k - j) j (by lia)
  rw [show j + (k - j) = k by lia] at a2
  have a3 := hr _ (mem_steps.mpr (.inr (.inl ⟨(k : Int), by exact Int.natCast_nonneg _, by exact om15 ‹_›, rfl⟩)))
  dsimp only at a3
  have a4 := pop (rk ns i - rk ns k - 1).toNat (k : Int) (i : Int) (by exact Int.natCast_nonneg _) (by exact om15 ‹_›) (by exact Int.natCast_nonneg _) (by lia) (by lia)
  lia
end
section
theorem br_piece (ms : List Int) (e : Int) : br (pieceOf ms e) = if (ms.length : Int) ≤ e then 41 else 40 := by
  unfold pieceOf
  split
  · decide +kernel
  split <;> decide +kernel
theorem piece_close (ms : List Int) (e : Int) : (pieceOf ms e == Str.ofString ")") = decide ((ms.length : Int) ≤ e) := by
  unfold pieceOf
  split
  · rename_i h; rw [decide_eq_true h]; decide +kernel
  rename_i h
  rw [decide_eq_false h]
  split <;> decide +kernel
theorem run_turn {ns : List Int} (hR : Rk ns) {k : Nat} {e : Int} (h : (runOf ns)[k]? = some e) :
    (e < ns.length /\ (runUp ns (k + 1)).pile = (runUp ns k).pile ++ [e]) ∨ ((ns.length : Int) ≤ e /\ ∃ l t, (runUp ns k).pile = l ++ [t] /\ e = (ns.length : Int) + t /\ (runUp ns (k + 1)).pile = l) := by
  have hn := run_next h
  have M := MI.up hR k
  show (_ /\ ((runUp ns k).step ns).pile = _) ∨ (_ /\ ∃ l t, _ /\ _ /\ ((runUp ns k).step ns).pile = l)
  rcases step_cases ns (runUp ns k) with ⟨p, l, t, q, _, s⟩ | ⟨p, q, s⟩ | ⟨p, q, s⟩
  · have : e = (ns.length : Int) + t := by
      rcases hn with ⟨_, a⟩ | ⟨a, _⟩
      · rw [a, top_at q]
      exact absurd p a
    have t0 := ((M.pile t).mp (by rw [q]; simp)).1
    exact .inr ⟨by lia, l, t, q, this, by rw [s]⟩
  · have : e = (runUp ns k).come := by
      rcases hn with ⟨a, _⟩ | ⟨_, _, a⟩
      · exact absurd a p
      exact a
    exact .inl ⟨by rw [this]; exact q.1, by rw [s, this]⟩
  rcases hn with ⟨a, _⟩ | ⟨_, a, _⟩
  · exact absurd a p
  exact absurd a q
noncomputable abbrev Hgt (ns : List Int) (k : Nat) : Nat := (runUp ns k).pile.length
noncomputable def brk (n : Int) (e : Int) : Nat := if n ≤ e then 41 else 40
theorem drop_get {l : List Int} {k : Nat} {e : Int} (h : l[k]? = some e) : l.drop k = e :: l.drop (k + 1) := by
  refine el_E (List.getElem?_eq_some_iff.mp h) ?_; intro hk he
  rw [List.drop_eq_getElem_cons hk, he]
theorem chk_run {ns : List Int} (hR : Rk ns) (B : Nat) : ∀ d k, k + d ≤ (runOf ns).length -> B ≤ Hgt ns k -> (chk ((((runOf ns).drop k).take d).map (brk ns.length)) (Hgt ns k - B) = true ↔ (∀ i, i ≤ d -> B ≤ Hgt ns (k + i)) /\ Hgt ns (k + d) = B)
  | 0, k, _, hB => by
    rw [List.take_zero]
    show ((Hgt ns k - B) == 0) = true ↔ _
    rw [beq_iff_eq]
    constructor
    · intro h
      exact ⟨fun i hi => by obtain rfl := Nat.le_zero.mp hi; exact hB, by show Hgt ns k = B; exact om48 ‹_› ‹_›⟩
    intro h
    have : Hgt ns k = B := h.2
    lia
  | d + 1, k, hk, hB => by
    have hkl : k < (runOf ns).length := by lia
    have he : (runOf ns)[k]? = some (runOf ns)[k] := List.getElem?_eq_getElem hkl
    generalize (runOf ns)[k] = e at he
    rw [drop_get he, List.take_succ_cons, List.map_cons]
    have shift : (∀ i, i ≤ d + 1 -> B ≤ Hgt ns (k + i)) /\ Hgt ns (k + (d + 1)) = B ↔ (∀ i, i ≤ d -> B ≤ Hgt ns (k + 1 + i)) /\ Hgt ns (k + 1 + d) = B := by
      rw [show k + (d + 1) = k + 1 + d by lia]
      refine and_congr ⟨fun h i hi => ?_, fun h i hi => ?_⟩ Iff.rfl
      · have := h (i + 1) (by exact Nat.lt_succ_of_le ‹_›)
        rwa [show k + (i + 1) = k + 1 + i by lia] at this
      cases i with
      | zero => exact hB
      | succ i =>
        have := h i (by exact Nat.le_of_lt_succ ‹_›)
        rwa [show k + 1 + i = k + (i + 1) by exact Nat.add_right_comm _ _ _] at this
    rw [shift]
    rcases run_turn hR he with ⟨h1, h2⟩ | ⟨h1, l, t, h2, h3, h4⟩
    · have hb : brk ns.length e = 40 := by unfold brk; rw [if_neg (by lia)]
      have hh : Hgt ns (k + 1) = Hgt ns k + 1 := by show (runUp ns (k + 1)).pile.length = _; rw [h2, List.length_append]; rfl
      have ih := chk_run hR B d (k + 1) (by lia) (by lia)
      rw [← ih, hb, hh]
      show (if 40 = 40 then chk _ (Hgt ns k - B + 1) else _) = true ↔ _
      rw [if_pos rfl, show Hgt ns k + 1 - B = Hgt ns k - B + 1 by exact om44 ‹_›]
    have hb : brk ns.length e = 41 := by unfold brk; rw [if_pos h1]
    have hh : Hgt ns k = Hgt ns (k + 1) + 1 := by show (runUp ns k).pile.length = (runUp ns (k + 1)).pile.length + 1; rw [h2, h4, List.length_append]; rfl
    rw [hb]
    unfold chk
    rw [if_neg (by decide), if_pos rfl]
    by_cases q : Hgt ns k = B
    · rw [show Hgt ns k - B = 0 by lia]
      dsimp only
      refine ⟨fun h => (by exact Mine.ft h), fun h => ?_⟩
      have := h.1 0 (Nat.zero_le _)
      rw [Nat.add_zero] at this
      lia
    have ih := chk_run hR B d (k + 1) (by lia) (by lia)
    rw [← ih, show Hgt ns k - B = (Hgt ns (k + 1) - B) + 1 by lia]
theorem stack_keeps {ns : List Int} (hR : Rk ns) {a : Nat} {j : Int} (ha : (runOf ns)[a]? = some j) (hj : j < ns.length) : ∀ k, a + 1 ≤ k -> k ≤ (runOf ns).length -> (∀ b, a < b -> b < k -> (runOf ns)[b]? ≠ some ((ns.length : Int) + j)) -> (runUp ns a).pile ++ [j] <+: (runUp ns k).pile := by
  have start : (runUp ns (a + 1)).pile = (runUp ns a).pile ++ [j] := by
    rcases run_turn hR ha with ⟨_, h⟩ | ⟨h, _⟩
    · exact h
    lia
  intro k hk
  obtain ⟨d, rfl⟩ : ∃ d, k = a + 1 + d := ⟨k - (a + 1), by omega⟩
  induction d with
  | zero => intro _ _; rw [Nat.add_zero, start]; exact List.prefix_refl _
  | succ d ih =>
    intro hl hno
    have ih := ih (by exact Nat.le_add_right _ _) (by exact Nat.le_of_lt ‹_›) fun b h1 h2 => hno b h1 (by exact Nat.lt_succ_of_lt ‹_›)
    rw [show a + 1 + (d + 1) = a + 1 + d + 1 by exact Nat.sub_zero _] at hno hl ⊢
    have hk' : a + 1 ≤ a + 1 + d := by exact Nat.le_add_right _ _
    clear hk
    generalize a + 1 + d = k at *
    have he : (runOf ns)[k]? = some (runOf ns)[k] := List.getElem?_eq_getElem ‹_›
    have hne := hno k ‹_› (by exact Nat.lt_succ_self _)
    generalize (runOf ns)[k] = e at he
    rcases run_turn hR he with ⟨h1, h2⟩ | ⟨h1, l, t, h2, h3, h4⟩
    · rw [h2]; exact ih.trans (List.prefix_append _ _)
    rw [h4]
    rw [h2] at ih
    rcases List.prefix_concat_iff.mp ih with q | q
    · have := (List.append_inj' q rfl).2
      have := List.singleton_inj.mp this
      rw [he, h3] at hne
      exact absurd (by rw [this]) hne
    exact q
theorem prefix_len {l₁ l₂ : List Int} {x : Int} (h : l₁ ++ [x] <+: l₂) : l₁.length + 1 ≤ l₂.length := by
  have := h.length_le
  rwa [List.length_append, List.length_singleton] at this
theorem hgt_parity {ns : List Int} (hR : Rk ns) {a : Nat} : ∀ d, a + d ≤ (runOf ns).length -> (Hgt ns (a + d) + Hgt ns a + d) % 2 = 0
  | 0, _ => by show (Hgt ns a + Hgt ns a + 0) % 2 = 0; lia
  | d + 1, h => by
    have ih := hgt_parity hR (a := a) d (by exact Nat.le_of_lt ‹_›)
    have he : (runOf ns)[a + d]? = some (runOf ns)[a + d] := List.getElem?_eq_getElem ‹_›
    have : Hgt ns (a + (d + 1)) = Hgt ns (a + d) + 1 ∨ Hgt ns (a + d) = Hgt ns (a + (d + 1)) + 1 := by
      rcases run_turn hR he with ⟨h1, h2⟩ | ⟨h1, l, t, h2, h3, h4⟩
      · exact .inl (by show (runUp ns (a + d + 1)).pile.length = _; rw [h2, List.length_append]; rfl)
      exact .inr (by show (runUp ns (a + d)).pile.length = (runUp ns (a + d + 1)).pile.length + 1; rw [h2, h4, List.length_append]; rfl)
    lia
theorem run_len (ns : List Int) : ∀ K, runUp ns (runUp ns K).ev.length = runUp ns K
  | 0 => rfl
  | K + 1 => by
    have ih := run_len ns K
    refine el_AA (run_shape ns K) ?_; intro h1 h2 h3
    have grow : ∀ e, ((runUp ns K).step ns).ev = (runUp ns K).ev ++ [e] -> runUp ns (runUp ns (K + 1)).ev.length = runUp ns (K + 1) := fun e he => by
      have hK : (runUp ns K).ev.length = K := by
        refine Nat.le_antisymm h1 (Nat.not_lt.mp fun k => ?_)
        rw [h3 k] at he
        have := congrArg List.length he
        rw [List.length_append, List.length_singleton] at this
        lia
      have e1 : (runUp ns (K + 1)).ev = (runUp ns K).ev ++ [e] := he
      rw [e1, List.length_append, hK]; rfl
    rcases step_cases ns (runUp ns K) with ⟨_, l, t, _, _, s⟩ | ⟨_, _, s⟩ | ⟨_, _, s⟩
    · exact grow _ (by rw [s])
    · exact grow _ (by rw [s])
    have e1 : runUp ns (K + 1) = runUp ns K := s
    rw [e1]; exact ih
theorem om62 {a b h : Nat} (hab : a < b) (p : (h + h + (b + 1 - a)) % 2 = 0) : (b - a - 1) % 2 = 0 := by
  rw [Nat.succ_sub (Nat.le_of_lt hab), om41 hab, ← Nat.two_mul] at p
  have p : (2 * h + ((b - a - 1) + 2)) % 2 = 0 := p
  rwa [← Nat.add_assoc, Nat.add_mod_right, Nat.mul_add_mod] at p
theorem om61 {a b L : Nat} (h1 : a < b) (h2 : b < L) : (b - a - 1) / 2 < (L - a) / 2 := by
  have h3 := Nat.sub_le_sub_right (show b + 1 ≤ L from h2) a
  rw [Nat.succ_sub (Nat.le_of_lt h1), om41 h1] at h3
  exact Nat.lt_of_lt_of_le (Nat.lt_succ_self _) (Nat.le_trans (Nat.le_of_eq (Nat.add_div_right _ (by decide)).symm) (Nat.div_le_div_right h3))
theorem read_ok {ns ms : List Int} (hR : Rk ns) (hl : ms.length = ns.length) (hn : ns.length ≤ 7) : ReadOk (runOf ns) ms := by
  have M := MI.up hR (2 * ns.length)
  have shape := run_shape ns (2 * ns.length)
  have pe : ∀ l : List Int, (l.map (pieceOf ms)).map br = l.map (brk ns.length) := fun l => by
    rw [List.map_map]
    refine List.map_congr_left fun e _ => ?_
    show br (pieceOf ms e) = _
    rw [br_piece, hl]; rfl
  have hL : (runOf ns).length ≤ 2 * ns.length := shape.1
  refine ⟨by lia, fun e he => ?_, ?_, fun a ha hj => ?_⟩
  · rcases (M.ev e).mp he with h | h <;> lia
  · rw [pe]
    have hc := chk_run hR 0 (runOf ns).length 0 (by (simp)) (Nat.zero_le _)
    rw [List.drop_zero, List.take_of_length_le (Nat.le_refl _), Nat.sub_zero, Nat.zero_add, show Hgt ns 0 = 0 from rfl] at hc
    have hend : Hgt ns (runOf ns).length = (runUp ns (2 * ns.length)).pile.length := by
      show (runUp ns (runUp ns (2 * ns.length)).ev.length).pile.length = _
      rw [run_len]
    have hlen : ((runOf ns).length : Int) = (runUp ns (2 * ns.length)).come + (runUp ns (2 * ns.length)).gone := M.len
    refine el_A (run_end hR) ?_; intro e1 e2
    have c1 := M.c1
    have g1 := M.g1
    have g0 := M.g0
    have key : Hgt ns (runOf ns).length = 0 ↔ (runOf ns).length = 2 * ns.length := by
      rw [hend]
      constructor
      · intro h
        have hp := List.length_eq_zero_iff.mp h
        have hcome : (runUp ns (2 * ns.length)).come = ns.length := by
          refine Int.le_antisymm c1 (Int.not_lt.mp fun k => e2 ⟨k, .inl hp⟩)
        have hgone : (runUp ns (2 * ns.length)).gone = ns.length := by
          refine Int.le_antisymm g1 (Int.not_lt.mp fun k => ?_)
          refine el_EAA (hR.sur _ g0 k) ?_; intro x x0 x1 x2
          have := (M.pile x).mpr ⟨x0, by lia, by lia⟩
          rw [hp] at this; cases this
        lia
      intro h
      rcases pile_cases (runUp ns (2 * ns.length)) with q | ⟨l, t, q⟩
      · rw [q]; rfl
      refine el_AA ((M.pile t).mp (by rw [q]; simp)) ?_; intro t0 t1 t2
      have := (hR.low t t0 (by exact Int.lt_of_lt_of_le ‹_› ‹_›)).2
      lia
    rw [hl, Bool.eq_iff_iff, hc, beq_iff_eq]
    constructor
    · intro q_
      refine el_A q_ ?_; clear q_; intro _ h
      have := key.mp h
      exact om35 ‹_›
    intro h
    exact ⟨fun _ _ => Nat.zero_le _, key.mpr (by exact Int.natCast_inj.mp ‹_›)⟩
  have hja : (runOf ns)[a]? = some ((runOf ns).getD a 0) := getD_get ha
  generalize hjd : (runOf ns).getD a 0 = j at hja hj
  rw [hl] at hj ⊢
  have hnod : (runOf ns).Nodup := M.nodup
  have inj : ∀ {b b' : Nat} {x : Int}, (runOf ns)[b]? = some x -> (runOf ns)[b']? = some x -> b = b' := fun {b b' x} h h' => by
    exact (List.getElem?_inj (List.getElem?_eq_some_iff.mp h).1 hnod).mp (h.trans h'.symm)
  have row : ∀ b, b < (runOf ns).length -> ((runOf ns).map (pieceOf ms)).getD b Str.empty = pieceOf ms ((runOf ns).getD b 0) := fun b hb => by
    rw [List.getD_eq_getElem?_getD, List.getElem?_map, getD_get hb]; rfl
  have hMate : ∀ b, a < b -> b < (runOf ns).length -> (mateAt ((runOf ns).map (pieceOf ms)) a b = true ↔ (ns.length : Int) ≤ (runOf ns).getD b 0 /\ (∀ i, i ≤ b + 1 - a -> Hgt ns a ≤ Hgt ns (a + i)) /\ Hgt ns (b + 1) = Hgt ns a) := fun b h1 h2 => by
    unfold mateAt
    rw [row b h2, piece_close, hl, Bool.and_eq_true, decide_eq_true_eq, ← List.map_drop, ← List.map_take, pe]
    have hc := chk_run hR (Hgt ns a) (b + 1 - a) a (by omega) (Nat.le_refl _)
    rw [Nat.sub_self, show a + (b + 1 - a) = b + 1 by exact om18 ‹_›] at hc
    rw [hc]
  have keeps := stack_keeps hR hja hj
  have plen : ((runOf ns).map (pieceOf ms)).length = (runOf ns).length := List.length_map _
  have candLt : ∀ i x, (cands a (runOf ns).length)[i]? = some x -> a < x /\ x < (runOf ns).length /\ x = a + 1 + 2 * i := fun i x h => by
    unfold cands at h
    rw [List.getElem?_map, Option.map_eq_some_iff] at h
    refine el_EA h ?_; (try clear h); intro k hk rfl_6; subst rfl_6
    refine el_E (List.getElem?_eq_some_iff.mp hk) ?_; intro hk1 hk2
    rw [List.getElem_range] at hk2
    rw [List.length_range] at hk1
    lia
  by_cases hpop : ∃ b : Nat, (runOf ns)[b]? = some ((ns.length : Int) + j)
  · (refine el_E hpop ?_; (try clear hpop); intro b hb)
    have hbl := (List.getElem?_eq_some_iff.mp hb).1
    have Mb := MI.up hR b
    rcases run_turn hR hb with ⟨h1, _⟩ | ⟨h1, l, t, h2, h3, h4⟩
    · have := (M.ev j).mp (List.mem_of_getElem? hja)
      omega
    obtain rfl : t = j := by lia
    have hab : a < b := by
      refine el_AA ((Mb.pile t).mp (by rw [h2]; simp)) ?_; intro t0 t1 t2
      have := (Mb.ev t).mpr (.inl ⟨t0, t1⟩)
      rw [shape.2.1 b (by unfold runOf at hbl; exact Nat.le_of_lt ‹_›)] at this
      refine el_E (List.mem_iff_getElem?.mp this) ?_; intro i hi
      have hib : i < b := by
        have := (List.getElem?_eq_some_iff.mp hi).1
        rw [List.length_take] at this; exact om30 ‹_›
      rw [List.getElem?_take_of_lt hib] at hi
      rw [inj hja hi]; exact hib
    have above : ∀ k, a + 1 ≤ k -> k ≤ b -> Hgt ns a + 1 ≤ Hgt ns k := fun k k1 k2 => prefix_len (keeps k k1 (by lia) fun b' q1 q2 q3 => by
      have := inj hb q3
      lia)
    have hHb : Hgt ns b = Hgt ns a + 1 := by
      have pre := keeps b ‹_› (by exact Nat.le_of_lt ‹_›) fun b' q1 q2 q3 => by
        have := inj hb q3
        lia
      rw [h2] at pre
      show (runUp ns b).pile.length = _
      rw [h2]
      rcases List.prefix_concat_iff.mp pre with q | q
      · rw [← q, List.length_append]; rfl
      have sorted := Mb.sort
      rw [h2, List.pairwise_append] at sorted
      have := sorted.2.2 t (q.subset (by simp)) t (by simp)
      lia
    have hHb1 : Hgt ns (b + 1) = Hgt ns a := by
      have e1 : Hgt ns b = Hgt ns (b + 1) + 1 := by show (runUp ns b).pile.length = (runUp ns (b + 1)).pile.length + 1; rw [h2, h4, List.length_append]; rfl
      lia
    have hgd : (runOf ns).getD b 0 = (ns.length : Int) + t := by rw [List.getD_eq_getElem?_getD, hb]; rfl
    have hyes : mateAt ((runOf ns).map (pieceOf ms)) a b = true := by
      rw [hMate b hab hbl]
      refine ⟨by rw [hgd]; exact h1, fun i hi => ?_, hHb1⟩
      by_cases z : i = 0
      · subst z; exact Nat.le_refl _
      by_cases z2 : a + i = b + 1
      · rw [z2, hHb1]; exact Nat.le_refl _
      have := above (a + i) (by lia) (by lia)
      exact Nat.le_of_lt ‹_›
    have par := hgt_parity hR (a := a) (b + 1 - a) (by lia)
    rw [show a + (b + 1 - a) = b + 1 by exact om18 ‹_›, hHb1] at par
    have hcand : (cands a (runOf ns).length)[(b - a - 1) / 2]? = some b := by
      unfold cands
      rw [List.getElem?_map, List.getElem?_range (om61 hab hbl)]
      show some _ = some _
      congr 1
      show a + 1 + 2 * ((b - a - 1) / 2) = b
      exact om60 hab (om62 hab par)
    have hfind : mateOf ((runOf ns).map (pieceOf ms)) a = [b] := by
      unfold mateOf
      rw [plen, find_at hcand hyes fun i y hi hy => ?_]
      · rfl
      refine el_AA (candLt i y hy) ?_; intro c1 c2 c3
      refine Bool.eq_false_iff.mpr fun q => ?_
      have q3 := ((hMate y c1 c2).mp q).2.2
      have := above (y + 1) (by exact Nat.lt_succ_of_lt ‹_›) (by lia)
      lia
    have hdue : dueOf (runOf ns) ns.length a = [b] := by
      unfold dueOf
      refine nodup_one (List.Pairwise.filter _ List.nodup_range) fun x => ?_
      rw [List.mem_filter, List.mem_range, beq_iff_eq, hjd]
      constructor
      · intro q_
        refine el_A q_ ?_; clear q_; intro q1 q2
        have := getD_get q1
        rw [q2] at this
        exact inj this hb
      rintro rfl
      exact ⟨hbl, hgd⟩
    rw [hfind, hdue]
  have above : ∀ k, a + 1 ≤ k -> k ≤ (runOf ns).length -> Hgt ns a + 1 ≤ Hgt ns k := fun k k1 k2 => prefix_len (keeps k k1 k2 fun b' q1 q2 q3 => hpop ⟨b', q3⟩)
  have hfind : mateOf ((runOf ns).map (pieceOf ms)) a = [] := by
    unfold mateOf
    rw [plen, find_upTo fun i y hy => ?_]
    · rfl
    refine el_AA (candLt i y hy) ?_; intro c1 c2 c3
    refine Bool.eq_false_iff.mpr fun q => ?_
    have q3 := ((hMate y c1 c2).mp q).2.2
    have := above (y + 1) (by exact Nat.lt_succ_of_lt ‹_›) ‹_›
    lia
  have hdue : dueOf (runOf ns) ns.length a = [] := by
    unfold dueOf
    rw [List.filter_eq_nil_iff]
    intro b hb q
    rw [List.mem_range] at hb
    rw [beq_iff_eq, hjd] at q
    exact hpop ⟨b, by rw [getD_get hb, q]⟩
  rw [hfind, hdue]
end
section
theorem and_pow (m i : Nat) : m &&& 2 ^ i = (m / 2 ^ i % 2) * 2 ^ i := by
  refine Nat.eq_of_testBit_eq fun j => ?_
  rw [Nat.testBit_and, Nat.testBit_two_pow]
  have ht : m.testBit i = decide (m / 2 ^ i % 2 = 1) := Nat.testBit_eq_decide_div_mod_eq
  rcases Nat.mod_two_eq_zero_or_one (m / 2 ^ i) with h | h <;> rw [h] at ht ⊢
  · rw [Nat.zero_mul, Nat.zero_testBit]
    by_cases q : i = j
    · subst q; rw [ht]; rfl
    rw [decide_eq_false q, Bool.and_false]
  rw [Nat.one_mul, Nat.testBit_two_pow]
  by_cases q : i = j
  · subst q; rw [ht]; simp
  rw [decide_eq_false q, Bool.and_false]
theorem band_nat (m p : Nat) : Builtin.bitAnd (m : Int) (p : Int) = ((m &&& p : Nat) : Int) := rfl
theorem band_or (m a b : Nat) : m &&& (a ||| b) = (m &&& a) ||| (m &&& b) := Nat.and_or_distrib_left ..
noncomputable def hitsOf (tab : List (Nat × Nat)) (v : Nat -> Nat) (d : Nat) : Nat := (tab.find? (fun p => v p.1 == p.1)).elim d (·.2)
noncomputable def natTab (i : Nat) : List (Nat × Nat) := (fmTab i).map fun p => (p.1.toNat, p.2)
theorem fmTab_pos : ∀ i < 10, ∀ p ∈ fmTab i, 0 ≤ p.1 := by decide
theorem find_same {α : Type} {p q : α -> Bool} : ∀ {l : List α}, (∀ x ∈ l, p x = q x) -> l.find? p = l.find? q
  | [], _ => rfl
  | x :: l, h => by
    rw [List.find?_cons, List.find?_cons, h x (.head _), find_same fun y hy => h y (.tail _ hy)]
theorem fmChar_eq (m : Nat) {i : Nat} (hi : i < 10) : fmChar m i = hitsOf (natTab i) (fun p => if i = 0 then m &&& 61440 else m &&& p) (if i = 0 then 63 else 45) := by
  have e : fmChar m i = ((fmTab i).find? (fmHit m i)).elim (if i = 0 then 63 else 45) (·.2) := by
    unfold fmChar
    cases (fmTab i).find? (fmHit m i) <;> rfl
  have e2 : (fmTab i).find? ((fun p : Nat × Nat => (if i = 0 then m &&& 61440 else m &&& p.1) == p.1) ∘ fun p : Int × Nat => (p.1.toNat, p.2)) = (fmTab i).find? (fmHit m i) := find_same fun p hp => ?_
  · rw [e]
    unfold hitsOf natTab
    rw [List.find?_map]
    show _ = (Option.map (fun p : Int × Nat => (p.1.toNat, p.2)) ((fmTab i).find? ((fun p : Nat × Nat => (if i = 0 then m &&& 61440 else m &&& p.1) == p.1) ∘ fun p : Int × Nat => (p.1.toNat, p.2)))).elim _ _
    rw [e2]
    cases (fmTab i).find? (fmHit m i) <;> rfl
  have h0 := fmTab_pos i hi p hp
  refine el_E (Int.eq_ofNat_of_zero_le h0) ?_; intro k hk
  unfold fmHit
  show ((if i = 0 then m &&& 61440 else m &&& p.1.toNat) == p.1.toNat) = _
  rw [hk, Int.toNat_natCast]
  by_cases q : i = 0
  · rw [if_pos q, if_pos q]
    show ((m &&& 61440) == k) = (Builtin.bitAnd (m : Int) ((61440 : Nat) : Int) == (k : Int))
    rw [band_nat, Bool.eq_iff_iff, beq_iff_eq, beq_iff_eq]
    lia
  rw [if_neg q, if_neg q]
  show ((m &&& k) == k) = (Builtin.bitAnd (m : Int) (k : Int) == (k : Int))
  rw [band_nat, Bool.eq_iff_iff, beq_iff_eq, beq_iff_eq]
  lia
theorem fdiv_nat (m d : Nat) : (m : Int).fdiv (d : Int) = ((m / d : Nat) : Int) := by rw [Int.fdiv_eq_ediv_of_nonneg _ (Int.natCast_nonneg _)]; (constructor <;> assumption)
theorem fmod_nat (m d : Nat) : (m : Int).fmod (d : Int) = ((m % d : Nat) : Int) := by rw [Int.fmod_eq_emod_of_nonneg _ (Int.natCast_nonneg _)]; (constructor <;> assumption)
theorem bm1 (m a : Nat) : m / (a * 4) % 2 = m / a % 8 / 4 := by rw [← Nat.div_div_eq_div_mul, show (8 : Nat) = 4 * 2 from rfl, Nat.mod_mul_right_div_self]
theorem bm2 (m a : Nat) : m / (a * 2) % 2 = m / a % 8 / 2 % 2 := by
  rw [← Nat.div_div_eq_div_mul, show (8 : Nat) = 2 * 4 from rfl, Nat.mod_mul_right_div_self, Nat.mod_mod_of_dvd _ (by decide)]
theorem bm3 (m a : Nat) : m / a % 2 = m / a % 8 % 2 := (Nat.mod_mod_of_dvd _ (by decide)).symm
theorem bm4 (m b : Nat) : m / (4096 * b) % 2 = m / 4096 / b % 2 := by rw [Nat.div_div_eq_div_mul]
theorem fm0 (m : Nat) (hm : m < 65536) : fmChar m 0 = chAt "?pc?d?b?-?l?s???" ((m : Int).fdiv 4096) := by
  rw [fmChar_eq m (by decide), show (4096 : Int) = ((4096 : Nat) : Int) from rfl, fdiv_nat]
  have e : m &&& 61440 = (m / 4096) * 4096 := by
    rw [show 61440 = (2 ^ 15 ||| 2 ^ 14) ||| (2 ^ 13 ||| 2 ^ 12) from rfl, band_or, band_or, band_or, and_pow, and_pow, and_pow, and_pow]
    have h : m / 4096 < 16 := by omega
    rw [show m / 2 ^ 15 % 2 = m / 4096 / 8 % 2 from bm4 m 8, show m / 2 ^ 14 % 2 = m / 4096 / 4 % 2 from bm4 m 4, show m / 2 ^ 13 % 2 = m / 4096 / 2 % 2 from bm4 m 2, show m / 2 ^ 12 % 2 = m / 4096 % 2 from rfl]
    generalize m / 4096 = q at *
    clear hm
    revert q; decide
  show hitsOf (natTab 0) (fun _ => m &&& 61440) 63 = _
  rw [e]
  have h : m / 4096 < 16 := by omega
  generalize m / 4096 = q at *
  clear e hm
  revert q; decide +kernel
theorem fmPart (m : Nat) {k : Nat} (hk : k < 3) : tl (rowPart m k) = [fmChar m (3 * k + 1), fmChar m (3 * k + 2), fmChar m (3 * k + 3)] := by
  rw [fmChar_eq m (by omega), fmChar_eq m (by omega), fmChar_eq m (by omega)]
  unfold rowPart rowEnds rowFig
  match k, hk with
  | 0, _ =>
    show tl (chr1 (chAt "-r" ((((m : Int).fdiv ((64 : Nat) : Int)).fmod ((8 : Nat) : Int)).fdiv ((4 : Nat) : Int))) ++ chr1 (chAt "-w" ((((m : Int).fdiv ((64 : Nat) : Int)).fmod ((8 : Nat) : Int)).fdiv ((2 : Nat) : Int) |>.fmod ((2 : Nat) : Int))) ++ chr1 (chAt (if ((m : Int).fdiv ((2048 : Nat) : Int)).fmod ((2 : Nat) : Int) = 1 then "Ss" else "-x") ((((m : Int).fdiv ((64 : Nat) : Int)).fmod ((8 : Nat) : Int)).fmod ((2 : Nat) : Int)))) =
      [hitsOf [(256, 114)] (fun p => m &&& p) 45, hitsOf [(128, 119)] (fun p => m &&& p) 45, hitsOf [(2112, 115), (2048, 83), (64, 120)] (fun p => m &&& p) 45]
    unfold hitsOf
    simp only [List.find?_cons, List.find?_nil]
    rw [show 2112 = 2 ^ 11 ||| 2 ^ 6 from rfl, band_or, show m &&& 256 = m &&& 2 ^ 8 from rfl, show m &&& 128 = m &&& 2 ^ 7 from rfl, show m &&& 2048 = m &&& 2 ^ 11 from rfl, show m &&& 64 = m &&& 2 ^ 6 from rfl, and_pow, and_pow, and_pow, and_pow]
    simp only [fdiv_nat, fmod_nat]
    rw [show m / 2 ^ 11 % 2 = m / 2048 % 2 from rfl, show m / 2 ^ 6 % 2 = m / 64 % 8 % 2 from bm3 m 64, show m / 2 ^ 8 % 2 = m / 64 % 8 / 4 from bm1 m 64, show m / 2 ^ 7 % 2 = m / 64 % 8 / 2 % 2 from bm2 m 64]
    have h1 : m / 64 % 8 < 8 := Nat.mod_lt _ (by decide)
    have h2 : m / 2048 % 2 < 2 := Nat.mod_lt _ (by decide)
    generalize m / 64 % 8 = f at *
    generalize m / 2048 % 2 = s at *
    revert f s; decide +kernel
  | 1, _ =>
    show tl (chr1 (chAt "-r" ((((m : Int).fdiv ((8 : Nat) : Int)).fmod ((8 : Nat) : Int)).fdiv ((4 : Nat) : Int))) ++ chr1 (chAt "-w" ((((m : Int).fdiv ((8 : Nat) : Int)).fmod ((8 : Nat) : Int)).fdiv ((2 : Nat) : Int) |>.fmod ((2 : Nat) : Int))) ++ chr1 (chAt (if ((m : Int).fdiv ((1024 : Nat) : Int)).fmod ((2 : Nat) : Int) = 1 then "Ss" else "-x") ((((m : Int).fdiv ((8 : Nat) : Int)).fmod ((8 : Nat) : Int)).fmod ((2 : Nat) : Int)))) =
      [hitsOf [(32, 114)] (fun p => m &&& p) 45, hitsOf [(16, 119)] (fun p => m &&& p) 45, hitsOf [(1032, 115), (1024, 83), (8, 120)] (fun p => m &&& p) 45]
    unfold hitsOf
    simp only [List.find?_cons, List.find?_nil]
    rw [show 1032 = 2 ^ 10 ||| 2 ^ 3 from rfl, band_or, show m &&& 32 = m &&& 2 ^ 5 from rfl, show m &&& 16 = m &&& 2 ^ 4 from rfl, show m &&& 1024 = m &&& 2 ^ 10 from rfl, show m &&& 8 = m &&& 2 ^ 3 from rfl, and_pow, and_pow, and_pow, and_pow]
    simp only [fdiv_nat, fmod_nat]
    rw [show m / 2 ^ 10 % 2 = m / 1024 % 2 from rfl, show m / 2 ^ 3 % 2 = m / 8 % 8 % 2 from bm3 m 8, show m / 2 ^ 5 % 2 = m / 8 % 8 / 4 from bm1 m 8, show m / 2 ^ 4 % 2 = m / 8 % 8 / 2 % 2 from bm2 m 8]
    have h1 : m / 8 % 8 < 8 := Nat.mod_lt _ (by decide)
    have h2 : m / 1024 % 2 < 2 := Nat.mod_lt _ (by decide)
    generalize m / 8 % 8 = f at *
    generalize m / 1024 % 2 = s at *
    revert f s; decide +kernel
  | 2, _ =>
    show tl (chr1 (chAt "-r" ((((m : Int).fdiv ((1 : Nat) : Int)).fmod ((8 : Nat) : Int)).fdiv ((4 : Nat) : Int))) ++ chr1 (chAt "-w" ((((m : Int).fdiv ((1 : Nat) : Int)).fmod ((8 : Nat) : Int)).fdiv ((2 : Nat) : Int) |>.fmod ((2 : Nat) : Int))) ++ chr1 (chAt (if ((m : Int).fdiv ((512 : Nat) : Int)).fmod ((2 : Nat) : Int) = 1 then "Tt" else "-x") ((((m : Int).fdiv ((1 : Nat) : Int)).fmod ((8 : Nat) : Int)).fmod ((2 : Nat) : Int)))) =
      [hitsOf [(4, 114)] (fun p => m &&& p) 45, hitsOf [(2, 119)] (fun p => m &&& p) 45, hitsOf [(513, 116), (512, 84), (1, 120)] (fun p => m &&& p) 45]
    unfold hitsOf
    simp only [List.find?_cons, List.find?_nil]
    rw [show 513 = 2 ^ 9 ||| 2 ^ 0 from rfl, band_or, show m &&& 4 = m &&& 2 ^ 2 from rfl, show m &&& 2 = m &&& 2 ^ 1 from rfl, show m &&& 512 = m &&& 2 ^ 9 from rfl, show m &&& 1 = m &&& 2 ^ 0 from rfl, and_pow, and_pow, and_pow, and_pow]
    simp only [fdiv_nat, fmod_nat]
    rw [show m / 2 ^ 9 % 2 = m / 512 % 2 from rfl, show m / 2 ^ 0 % 2 = m / 1 % 8 % 2 from bm3 m 1, show m / 2 ^ 2 % 2 = m / 1 % 8 / 4 from bm1 m 1, show m / 2 ^ 1 % 2 = m / 1 % 8 / 2 % 2 from bm2 m 1]
    have h1 : m / 1 % 8 < 8 := Nat.mod_lt _ (by decide)
    have h2 : m / 512 % 2 < 2 := Nat.mod_lt _ (by decide)
    generalize m / 1 % 8 = f at *
    generalize m / 512 % 2 = s at *
    revert f s; decide +kernel
theorem fm_row {mode : Int} (h0 : 0 ≤ mode) (h1 : mode < 65536) : fm mode = rowUp mode 3 := by
  refine el_E (Int.eq_ofNat_of_zero_le h0) ?_; intro m rfl_7; subst rfl_7
  have hm : m < 65536 := by omega
  refine str_ext ?_
  unfold fm
  rw [tl_join]
  show _ = tl (((chr1 _ ++ rowPart m 0) ++ rowPart m 1) ++ rowPart m 2)
  rw [tl_append, tl_append, tl_append, fmPart m (by decide), fmPart m (by decide), fmPart m (by decide)]
  show [fmChar m 0, fmChar m 1, fmChar m 2, fmChar m 3, fmChar m 4, fmChar m 5, fmChar m 6, fmChar m 7, fmChar m 8, fmChar m 9] = _
  rw [fm0 m hm]
  rfl
end
section
theorem filter_le {α : Type} {p q : α -> Bool} : ∀ {l : List α}, (∀ x ∈ l, p x = true -> q x = true) -> (l.filter p).length ≤ (l.filter q).length
  | [], _ => Nat.le_refl _
  | x :: l, h => by
    have ih := filter_le (l := l) (p := p) (q := q) fun y hy => h y (.tail _ hy)
    have hx := h x (.head _)
    rw [List.filter_cons, List.filter_cons]
    split
    · rename_i e
      rw [if_pos (hx e), List.length_cons, List.length_cons]; exact Nat.lt_succ_of_le ‹_›
    split
    · rw [List.length_cons]; exact om50 ‹_›
    exact ih
theorem filter_lt {α : Type} {p q : α -> Bool} {a : α} : ∀ {l : List α}, (∀ x ∈ l, p x = true -> q x = true) -> a ∈ l -> p a = false -> q a = true -> (l.filter p).length < (l.filter q).length
  | x :: l, h, ha, h1, h2 => by
    have le := filter_le (l := l) (p := p) (q := q) fun y hy => h y (.tail _ hy)
    rw [List.filter_cons, List.filter_cons]
    by_cases e : x = a
    · subst e
      rw [h1, h2, if_neg Bool.false_ne_true, if_pos rfl, List.length_cons]; exact Nat.lt_succ_of_le ‹_›
    have ih := filter_lt (l := l) (fun y hy => h y (.tail _ hy)) ((List.mem_cons.mp ha).resolve_left fun q => e q.symm) h1 h2
    have hx := h x (.head _)
    split
    · rename_i e
      rw [if_pos (hx e), List.length_cons, List.length_cons]; exact Nat.lt_succ_of_le ‹_›
    split
    · rw [List.length_cons]; exact Nat.lt_succ_of_le ‹_›
    exact ih
theorem pigeon : ∀ (n : Nat) (l : List Nat), l.Nodup -> (∀ x ∈ l, x < n) -> l.length ≤ n
  | 0, [], _, _ => Nat.le_refl _
  | 0, x :: l, _, h => absurd (h x (.head _)) (Nat.not_lt_zero _)
  | n + 1, l, hn, h => by
    by_cases q : n ∈ l
    · have e := List.length_erase_of_mem q
      have ih := pigeon n (l.erase n) (hn.erase n) fun x hx => by
        have h1 := h x (List.mem_of_mem_erase hx)
        have : x ≠ n := fun e => by
          rw [e] at hx
          exact absurd hx (List.Nodup.not_mem_erase hn)
        exact om11 ‹_› ‹_›
      have : 0 < l.length := List.length_pos_of_mem q
      lia
    have ih := pigeon n l hn fun x hx => by
      have h1 := h x hx
      have : x ≠ n := fun e => q (e ▸ hx)
      exact om11 ‹_› ‹_›
    exact om50 ‹_›
theorem rowLt_irrefl (rs : List Str) (i : Nat) : rowLt rs i i = false := by
  unfold rowLt
  rw [if_pos rfl]
  exact decide_eq_false (Int.lt_irrefl _)
theorem rowLt_trans {rs : List Str} {a b c : Nat} (h1 : rowLt rs a b = true) (h2 : rowLt rs b c = true) : rowLt rs a c = true := by
  unfold rowLt at h1 h2 ⊢
  generalize rs.getD a Str.empty = x at *
  generalize rs.getD b Str.empty = y at *
  generalize rs.getD c Str.empty = z at *
  split at h1 <;> split at h2 <;> rename_i e1 e2
  · subst e1; subst e2
    rw [if_pos rfl]
    rw [decide_eq_true_eq] at h1 h2 ⊢
    exact Int.lt_trans ‹_› ‹_›
  · subst e1
    rw [if_neg e2]; exact h2
  · subst e2
    rw [if_neg e1]; exact h1
  rw [decide_eq_true_eq] at h1 h2
  have := List.lt_trans h1 h2
  rw [if_neg fun e => by rw [e] at this; exact List.lt_irrefl _ this]
  exact decide_eq_true this
theorem rowLt_total (rs : List Str) {a b : Nat} (h : a ≠ b) : rowLt rs a b = true ∨ rowLt rs b a = true := by
  unfold rowLt
  generalize rs.getD a Str.empty = x at *
  generalize rs.getD b Str.empty = y at *
  by_cases e : x = y
  · rw [if_pos e, if_pos e.symm, decide_eq_true_eq, decide_eq_true_eq]
    lia
  rw [if_neg e, if_neg fun q => e q.symm, decide_eq_true_eq, decide_eq_true_eq]
  refine Classical.byContradiction fun q => ?_
  rw [not_or] at q
  have := List.le_antisymm (List.not_lt.mp q.2) (List.not_lt.mp q.1)
  exact e (by cases x; cases y; exact congrArg _ (Array.toList_inj.mp this))
theorem rankAt_lt {rs : List Str} {n a b : Nat} (ha : a < n) (h : rowLt rs a b = true) : rankAt rs n a < rankAt rs n b :=
  filter_lt (a := a) (fun x _ hx => rowLt_trans hx h) (List.mem_range.mpr ha) (rowLt_irrefl rs a) h
theorem rankAt_low {rs : List Str} {n i : Nat} (hi : i < n) : rankAt rs n i < n := by
  have := filter_lt (l := List.range n) (p := fun k => rowLt rs k i) (q := fun _ => true) (a := i) (fun _ _ _ => rfl) (List.mem_range.mpr hi) (rowLt_irrefl rs i) rfl
  rw [List.filter_eq_self.mpr fun _ _ => rfl, List.length_range] at this
  exact this
theorem rankAt_inj {rs : List Str} {n a b : Nat} (ha : a < n) (hb : b < n) (h : rankAt rs n a = rankAt rs n b) : a = b := by
  refine Classical.byContradiction fun q => ?_
  rcases rowLt_total rs q with k | k
  · have := rankAt_lt (n := n) ha k; lia
  have := rankAt_lt (n := n) hb k; lia
theorem rankAt_sur {rs : List Str} {n r : Nat} (hr : r < n) : ∃ i, i < n /\ rankAt rs n i = r := by
  refine Classical.byContradiction fun q => ?_
  have hn : ((List.range n).map (rankAt rs n)).Nodup := by
    unfold List.Nodup
    rw [List.pairwise_map]
    have := List.nodup_range (n := n)
    unfold List.Nodup at this
    refine this.imp_of_mem fun {a b} ha hb hab e => hab (rankAt_inj (List.mem_range.mp ha) (List.mem_range.mp hb) e)
  have := pigeon n (r :: (List.range n).map (rankAt rs n)) (List.nodup_cons.mpr ⟨fun h => ?_, hn⟩) fun x hx => ?_
  · rw [List.length_cons, List.length_map, List.length_range] at this; exact (Nat.lt_irrefl _ ‹_›).elim
  · (refine el_EA (List.mem_map.mp h) ?_; intro i hi e)
    exact q ⟨i, List.mem_range.mp hi, e⟩
  rcases List.mem_cons.mp hx with h | h
  · rw [h]; exact hr
  refine el_EA (List.mem_map.mp h) ?_; intro i hi rfl_8; subst rfl_8
  exact rankAt_low (List.mem_range.mp hi)
theorem ranks_len (rs : List Str) : (ranksOf rs).length = rs.length := by unfold ranksOf; simp
theorem rk_ranks (rs : List Str) {x : Int} (h0 : 0 ≤ x) (h1 : x < rs.length) : rk (ranksOf rs) x = (rankAt rs rs.length x.toNat : Int) := by
  unfold rk ranksOf
  rw [List.getD_eq_getElem?_getD, List.getElem?_map, List.getElem?_range (by exact om07 ‹_› ‹_›)]
  rfl
theorem ranks_rk (rs : List Str) : Rk (ranksOf rs) := by
  refine ⟨fun x h0 h1 => ?_, fun x y h0 h1 k0 k1 e => ?_, fun r h0 h1 => ?_⟩
  · rw [ranks_len] at h1 ⊢
    rw [rk_ranks rs h0 h1]
    have := rankAt_low (rs := rs) (n := rs.length) (i := x.toNat) (by exact om07 ‹_› ‹_›)
    lia
  · rw [ranks_len] at h1 k1
    rw [rk_ranks rs h0 h1, rk_ranks rs k0 k1] at e
    have := rankAt_inj (rs := rs) (n := rs.length) (a := x.toNat) (b := y.toNat) (by exact om07 ‹_› ‹_›) (by exact om07 ‹_› ‹_›) (by exact Int.natCast_inj.mp ‹_›)
    lia
  rw [ranks_len] at h1
  refine el_EA (rankAt_sur (rs := rs) (n := rs.length) (r := r.toNat) (by exact om07 ‹_› ‹_›)) ?_; intro i hi e
  refine ⟨(i : Int), by exact Int.natCast_nonneg _, by rw [ranks_len]; exact om15 ‹_›, ?_⟩
  rw [rk_ranks rs (by exact Int.natCast_nonneg _) (by exact om15 ‹_›), Int.toNat_natCast, e]; exact Int.toNat_of_nonneg ‹_›
end
section
section
variable {g : Gl Int} {c : Ac} {S S' : St Int} {Q : Value -> St Int -> Prop} {a b : Addr} {xs ys : List Value} {P : Params}
section
variable {g : Gl Int}
theorem fn_law (hK : g.K = hd.heap_1 P) : FnIs g.K 269 (bodyOf P 269) (fdOf P 269).scope (fdOf P 269) :=
  fnIs ⟨_, _, _, rfl⟩ (by kernel_rfl) rfl rfl rfl rfl hK
theorem so_law : scopeOk (fdOf P 269).scope = true := by kernel_rfl
noncomputable def numsOf (ns : List Int) : List Int := ((ns.take 7) ++ [0, 0, 0, 0, 0]).take (max 5 (min 7 ns.length))
noncomputable def baseL : List Int := [41471, 33261, 33188, 17407, 16832, 8592, 25008]
noncomputable def modesUp (nums : List Int) (i : Nat) : List Int := (List.range i).map fun k => (baseL.getD k 0 + 4109 * nums.getD k 0).fmod 65536
theorem nums_len (ns : List Int) : 5 ≤ (numsOf ns).length /\ (numsOf ns).length ≤ 7 := by
  unfold numsOf
  rw [List.length_take, List.length_append, List.length_take]
  simp only [List.length_cons, List.length_nil]
  lia
theorem modesUp_succ (nums : List Int) (i : Nat) : iL (modesUp nums (i + 1)) = iL (modesUp nums i) ++ [.int ((baseL.getD i 0 + 4109 * nums.getD i 0).fmod 65536) 0] := by
  unfold modesUp iL
  rw [List.range_succ, List.map_append, List.map_append]; rfl
theorem modes_ok (nums : List Int) (i : Nat) : ∀ m ∈ modesUp nums i, 0 ≤ m /\ m < 65536 := fun m hm => by
  refine el_EA (List.mem_map.mp hm) ?_; intro k _ rfl_56; subst rfl_56
  exact ⟨Int.fmod_nonneg_of_pos _ (by decide), Int.fmod_lt_of_pos _ (by decide)⟩
theorem iL_take (l : List Int) (k : Nat) : (iL l).take k = iL (l.take k) := by unfold iL; rw [List.map_take]
theorem setv_less {m m' : Str -> Option Value} {x : Str} {v : Value} (hx : m' x = some v) (h : ∀ y w, m y = some w -> m' y = some w) : ∀ y w, setv m x v y = some w -> m' y = some w := fun y w e => by
  unfold setv at e
  split at e
  · rename_i q; (replace e := Option.some.inj e; subst e); rw [q]; exact hx
  exact h y w e
theorem nov {m' : Str -> Option Value} : ∀ y w, (fun _ : Str => (none : Option Value)) y = some w -> m' y = some w := fun _ _ e => nomatch e
theorem WXsF_less {c : Ac} {S S' : St Int} {ss : List Stmt} {Q : Flow -> St Int -> Prop} (l : Le S' S) (h : WXsF g c ss S' Q) : WXsF g c ss S Q := WMF.le h l
theorem flatMap_len {α β : Type} {f : α -> List β} {k : Nat} : ∀ {l : List α}, (∀ x ∈ l, (f x).length ≤ k) -> (l.flatMap f).length ≤ l.length * k
  | [], _ => Nat.zero_le _
  | x :: l, h => by
    have := flatMap_len (l := l) fun y hy => h y (.tail _ hy)
    have := h x (.head _)
    rw [List.flatMap_cons, List.length_append, List.length_cons, Nat.add_mul]
    lia
theorem steps_len {ns : List Int} (h : ns.length ≤ 7) : (stepsOf ns).length ≤ 300 := by
  unfold stepsOf stepsUp pairs1 pairs2
  rw [List.length_append, List.length_append, List.length_map, List.length_map, List.length_range, List.length_range]
  have : ((List.range ns.length).flatMap fun i => stepRow ns i ns.length).length ≤ (List.range ns.length).length * 14 := flatMap_len fun i _ => by
    unfold stepRow
    have : ((List.range ns.length).flatMap (stepPairs ns i)).length ≤ (List.range ns.length).length * 2 := flatMap_len fun j _ => by
      unfold stepPairs
      rw [List.length_append]
      split <;> split <;> simp
    rw [List.length_range] at this
    lia
  rw [List.length_range] at this
  omega
theorem steps_pos {ns : List Int} (h : 1 ≤ ns.length) : 1 ≤ (stepsOf ns).length :=
  List.length_pos_of_mem (mem_steps.mpr (.inr (.inl ⟨0, Int.le_refl _, by exact om15 ‹_›, rfl⟩)))
theorem Ready.same {es es' : List (Int × Int)} {D : List Int} {x : Int} (h : ∀ e, e ∈ es ↔ e ∈ es') : Ready es D x ↔ Ready es' D x := by
  unfold Ready
  simp only [h]
theorem areInt : ∀ l : List Int, AreInt (iL l) l
  | [] => .nil
  | x :: l => .cons x (areInt l)
theorem EqW.bool' {S : St Int} (b : Bool) : EqW g S 0 (.bool b) (.bool b) true := by
  have := EqW.bool (g := g) (S := S) b b
  rwa [beq_self_eq_true] at this
theorem EqW.int' {S : St Int} (i : Int) : EqW g S 0 (.int i 0) (.int i 0) true := by
  have := EqW.int (g := g) (S := S) i i
  rwa [beq_self_eq_true] at this
theorem EqW.lists' {S : St Int} {k : Nat} (ha : S.σ a = some (.list xs)) (hb : S.σ b = some (.list ys)) (hne : a ≠ b) (hl : xs.length = ys.length) (h : ∀ (j : Nat) x y, xs[j]? = some x -> ys[j]? = some y -> EqW g S k x y true) : EqW g S (k + 1) (.ref a) (.ref b) true := by
  have := EqW.lists (e := fun _ => true) ha hb hne hl h
  rwa [all_true] at this
theorem EqW.tuples' {S : St Int} {k : Nat} (ha : S.σ a = some (.tup xs)) (hb : S.σ b = some (.tup ys)) (hne : a ≠ b) (hl : xs.length = ys.length) (h : ∀ (j : Nat) x y, xs[j]? = some x -> ys[j]? = some y -> EqW g S k x y true) : EqW g S (k + 1) (.ref a) (.ref b) true := by
  have := EqW.tuples (e := fun _ => true) ha hb hne h
  rwa [all_true, hl, beq_self_eq_true] at this
theorem W_barred2 (hK : g.K = hd.heap_1 P) (hd : c.Deep 1) {S : St Int} {Q : Value -> St Int -> Prop} {ns : List Int} (ha : S.σ a = some (.list (iL ns))) (hn : ns.length ≤ 1000) (h : ∀ x : Bool, (x = true ↔ Bar ns) -> Q (.bool x) S) : WC g c (.ref 252) [.ref a] S Q :=
  W_barred hK hd ha hn (fun k => h true ⟨fun _ => k, fun _ => rfl⟩) (fun k => h false ⟨(fun e => nomatch e), fun e => absurd e k⟩)
theorem om63 (n : Nat) : (if (if (n : Int) < 7 then (n : Int) else 7) > 5 then (if (n : Int) < 7 then (n : Int) else 7) else 5) = ((max 5 (min 7 n) : Nat) : Int) := by
  by_cases h : n < 7
  · rw [if_pos (show (n : Int) < 7 from Int.ofNat_lt.mpr h), Nat.min_eq_right (Nat.le_of_lt h)]
    by_cases h5 : 5 < n
    · rw [if_pos (show (n : Int) > 5 from Int.ofNat_lt.mpr h5), Nat.max_eq_right (Nat.le_of_lt h5)]
    rw [if_neg (fun q : (n : Int) > 5 => h5 (Int.ofNat_lt.mp q)), Nat.max_eq_left (Nat.not_lt.mp h5)]; rfl
  rw [if_neg (fun q : (n : Int) < 7 => h (Int.ofNat_lt.mp q)), if_pos (by decide), Nat.min_eq_left (Nat.not_lt.mp h)]; rfl
theorem W_law (hK : g.K = hd.heap_1 P) (hG : g.Ok) (K : KeyOk g kvI) {c' : Ac} (hs : c'.env.scope = (fdOf P 269).scope) (hx : c'.ext = fun _ => false) (hd' : c'.Deep 10) {l : Addr} {ns : List Int} (hl : ∃ ob, g.h₀.get? l = some ob /\ Is g ob (.list (iL ns) : AO Int)) (hn : ns.length ≤ 63) :
    WXsF g c' (bodyOf P 269) ⟨setv (fun _ => none) (Str.ofString "script") (.ref l), fun _ => none⟩ fun fl _ => retV fl = .bool true := by
  have atL : ∀ S : St Int, At g S l (.list (iL ns)) := fun S => .inr hl
  have hnl := nums_len ns
  show WXsF g c' (_ :: _) _ _
  refine WXsF_consL ?_
  intro Q_
  refine WXF_ofAssign (WX_AssignN (by rfl) hs hx (by kernel_rfl) ?_)
  refine WE_SliceL (WE_BinOp (WE_SliceL ?_))
  w_fin
  refine ⟨l, rfl, WPart_none (WPart_some ?_)⟩
  w_fin
  refine ⟨_, rfl, _, atL _, by rw [iL_len, sizeLine_eq]; exact Nat.le_trans ‹_› (by decide), fun D₁ hD₁ => ?_⟩
  have e1 : pickL (iL ns) none (some 7) = iL (ns.take 7) := by
    unfold pickL clipAt
    simp only [Option.elim]
    rw [if_neg (by (with_reducible decide)), iL_len, List.drop_zero, iL_take]
    have : (max 0 (min (7 : Int) (ns.length : Int))).toNat - 0 = min 7 ns.length := by lia
    rw [this]
    congr 1
    rw [← List.take_take, List.take_length]
  rw [e1]
  w_fin
  refine ⟨Nat.le_of_lt (show 5 < sizeLine by decide +kernel), fun D₂ hD₂ => ?_⟩
  refine WBin_addL (xs := iL (ns.take 7)) (ys := iL [0, 0, 0, 0, 0]) (upd_le hD₂ _ _ upd_self) upd_self (by rw [iL_len, iL_len, List.length_take, sizeLine_eq]; simp only [List.length_cons, List.length_nil]; lia) fun D₃ hD₃ => ?_
  refine ⟨D₃, rfl, WPart_none (WPart_some ?_)⟩
  w_fin
  refine WC_lenAt (atL _) (by rw [iL_len]; exact om26 (Nat.le_trans ‹_› (by decide))) ?_
  rw [iL_len]
  w_fin
  refine WC_min2 ?_
  w_fin
  refine WC_max2 ?_
  refine ⟨_, rfl, _, .inl upd_self, by rw [← iL_append, iL_len, List.length_append, List.length_take, sizeLine_eq]; simp only [List.length_cons, List.length_nil]; omega, fun A hA => ?_⟩
  have e2 : pickL (iL (ns.take 7) ++ iL [0, 0, 0, 0, 0]) none (some (if (if (ns.length : Int) < 7 then (ns.length : Int) else 7) > 5 then (if (ns.length : Int) < 7 then (ns.length : Int) else 7) else 5)) = iL (numsOf ns) := by
    rw [show (if (if (ns.length : Int) < 7 then (ns.length : Int) else 7) > 5 then (if (ns.length : Int) < 7 then (ns.length : Int) else 7) else 5) = ((max 5 (min 7 ns.length) : Nat) : Int) from om63 _]
    rw [pick_to (by rw [← iL_append, iL_len, List.length_append, List.length_take]; simp only [List.length_cons, List.length_nil]; lia), ← iL_append, iL_take]
    rfl
  rw [e2]
  refine WXsF_less (S' := ⟨setv (fun _ => none) (Str.ofString "numbers") (.ref A), upd (fun _ => none) A (.list (iL (numsOf ns)))⟩) ⟨fun x v e => ?_, fun x o e => ?_⟩ ?_
  · unfold setv at e
    dsimp only at e
    split at e
    · rename_i q; (replace e := Option.some.inj e; subst e); exact if_pos q
    exact Mine.ns e
  · unfold upd at e
    dsimp only at e
    split at e
    · rename_i q; (replace e := Option.some.inj e; subst e); exact if_pos q
    exact Mine.ns e
  generalize numsOf ns = nums at *
  clear hA hD₁ hD₂ hD₃ e1 e2
  w_fin
  refine ⟨Nat.le_of_lt (show 7 < sizeLine by decide +kernel), fun B hB => ?_⟩
  have hB : upd (fun _ => none) A (AO.list (N := Int) (iL nums)) B = none := hB
  refine WXsF_consL ?_
  intro Q_
  refine WXF_ofAssign (WX_CompR (fun _ _ => rfl) hs (by kernel_rfl) (by kernel_rfl) (by kernel_rfl) hx (by kernel_rfl) (by kernel_rfl) ?_)
  w_fin
  refine WC_len (upd_le hB _ _ upd_self) (by rw [iL_len]; lia) ?_
  rw [iL_len]
  w_fin
  refine WC_range1 fun r hr => ?_
  let Inv_1 : Nat -> List Value -> St Int -> Prop := fun k acc S' => S'.m (Str.ofString "base") = some (.ref B) /\ S'.m (Str.ofString "numbers") = some (.ref A) /\ acc = iL (modesUp nums k) /\ S'.σ A = some (.list (iL nums)) /\ S'.σ B = some (.list (iL baseL))
  refine ⟨r, 0, nums.length, rfl, upd_self, by exact om16, by exact om17, by exact om27 _, by lia, by rw [sizeLine_eq]; lia, Inv_1,
    ⟨by walk_at "w lk", by walk_at "w lk", rfl, upd_le hr _ _ (upd_le hB _ _ upd_self), upd_le hr _ _ upd_self⟩, fun k acc S₂ hI => by rw [hI.2.2.1, iL_len]; unfold modesUp; simp, fun c₁ hs₁ hx₁ hd₁ k acc S₄ hk q_ => ?_, fun acc S₄ ⟨w1, w2, w3, w4, w5⟩ D hD => ?_⟩
  · (refine el_AAAA q_ ?_; clear q_; intro w1 w2 w3 w4 w5)
    obtain ⟨m₄, σ₄⟩ := S₄
    have w1 : m₄ (Str.ofString "base") = _ := w1
    have w2 : m₄ (Str.ofString "numbers") = _ := w2
    have w4 : σ₄ A = _ := w4
    have w5 : σ₄ B = _ := w5
    have hk7 : k < nums.length := by exact om22 ‹_›
    rw [Int.zero_add]
    w_fin
    refine WSub_iL w5 (by exact Int.natCast_nonneg _) (by lia) (getD_get (by show _ < 7; lia)) ?_
    w_fin
    refine WSub_iL w4 (by exact Int.natCast_nonneg _) (by omega) (getD_get ‹_›) ?_
    w_fin
    refine WBin_mul (IntMulOk.of_left (by decide)) ?_
    w_fin
    rw [Int.toNat_natCast]
    exact ⟨by walk_at "w lk", by walk_at "w lk", by rw [modesUp_succ, w3], w4, w5⟩
  rw [show ((nums.length : Int) - 0).toNat = nums.length by exact Nat.sub_zero _] at w3
  subst w3
  obtain ⟨m₄, σ₄⟩ := S₄
  have w4 : σ₄ A = _ := w4
  have hD : σ₄ D = none := hD
  have mok := modes_ok nums nums.length
  have mlen : (modesUp nums nums.length).length = nums.length := by unfold modesUp; simp
  have hA2 := upd_le (o := .list (iL (modesUp nums nums.length))) hD _ _ w4
  have hD2 : upd σ₄ D (.list (iL (modesUp nums nums.length))) D = _ := upd_self
  show WXsF g c' (_ :: _) ⟨_, upd σ₄ D (.list (iL (modesUp nums nums.length)))⟩ _
  generalize upd σ₄ D (.list (iL (modesUp nums nums.length))) = σ₅ at *
  refine WXsF_less (S' := ⟨setv (setv (fun _ => none) (Str.ofString "numbers") (.ref A)) (Str.ofString "modes") (.ref D), σ₅⟩) ⟨setv_less (by walk_at "w lk") (setv_less (by walk_at "w lk") nov), fun x o e => e⟩ ?_
  generalize modesUp nums nums.length = ms at *
  clear hD w1 w2 w4 w5 hB hr
  refine WXsF_consL ?_
  intro Q_
  refine WXF_ofAssign (WX_AssignN (by rfl) hs hx (by kernel_rfl) ?_)
  w_fin
  refine WE_Comp (fun _ _ => rfl) hs (by kernel_rfl) (by kernel_rfl) (by kernel_rfl) ?_
  w_fin
  let Inv_2 : Nat -> List Value -> St Int -> Prop := fun k acc S' => acc = sL ((ms.take k).map fm) /\ S'.σ = σ₅
  refine ⟨iL ms, _, iter_list hD2, Inv_2,
    ⟨rfl, rfl⟩, fun k acc S₂ hI => ⟨by rw [hI.2]; exact hD2, by rw [hI.1]; unfold sL; rw [List.length_map, List.length_map, List.length_take]; exact Nat.min_le_left _ _⟩, by rw [iL_len, sizeLine_eq]; lia, fun c₁ hs₁ hx₁ hd₁ k y acc S₂ hy q_ => ?_, fun acc S₂ ⟨w1, w2⟩ E hE => ?_⟩
  · (refine el_A q_ ?_; clear q_; intro w1 w2)
    obtain ⟨m₆, σ₆⟩ := S₂
    obtain rfl : σ₆ = σ₅ := w2
    unfold iL at hy
    rw [List.getElem?_map, Option.map_eq_some_iff] at hy
    refine el_EA hy ?_; (try clear hy); intro m hm rfl_55; subst rfl_55
    w_fin
    refine W_fm hK hG ((hd₁ _ hd').less (by decide)) ?_
    exact ⟨by rw [w1, sL_snoc, List.take_add_one, hm, List.map_append]; rfl, rfl⟩
  rw [iL_len, List.take_of_length_le (Nat.le_refl _)] at w1
  subst w1
  obtain ⟨m₆, σ₆⟩ := S₂
  obtain rfl : σ₆ = σ₅ := w2
  have hE : σ₆ E = none := hE
  w_fin
  refine W_ranks (rs := ms.map fm) hK (hd'.less (by decide)) upd_self (by rw [List.length_map]; lia) fun R hR => ?_
  w_fin
  refine W_steps (ns := ranksOf (ms.map fm)) hK (hd'.less (by decide)) upd_self (by rw [ranks_len, List.length_map]; lia) (by rw [ranks_len, List.length_map]; lia) fun T vs σ₇ hT kp hTv hrf => ?_
  have hA3 : σ₇ A = _ := kp _ _ (upd_le hR _ _ (upd_le hE _ _ hA2))
  have hD3 : σ₇ D = _ := kp _ _ (upd_le hR _ _ (upd_le hE _ _ hD2))
  have efm : ms.map fm = ms.map fun m => rowUp m 3 := List.map_congr_left fun m hm => fm_row (mok m hm).1 (mok m hm).2
  rw [efm] at hrf
  refine WXsF_less (S' := ⟨setv (setv (setv (fun _ => none) (Str.ofString "numbers") (.ref A)) (Str.ofString "modes") (.ref D)) (Str.ofString "steps") (.ref T), σ₇⟩) ⟨setv_less (by walk_at "w lk") (setv_less (by walk_at "w lk") (setv_less (by walk_at "w lk") nov)), fun x o e => e⟩ ?_
  clear hT kp hR hE efm
  have hRk := ranks_rk (ms.map fun m => rowUp m 3)
  have hnlen : (ranksOf (ms.map fun m => rowUp m 3)).length = ms.length := by rw [ranks_len, List.length_map]
  have hpos := steps_pos (ns := ranksOf (ms.map fun m => rowUp m 3)) (by lia)
  have hsl := steps_len (ns := ranksOf (ms.map fun m => rowUp m 3)) (by lia)
  have hready := run_ready hRk
  have hfree := free_rank hRk
  have hbarred := bar_rank hRk
  have hread := read_ok (ms := ms) hRk hnlen.symm (by omega)
  have hvl := hrf.1
  refine WXsF_consL ?_
  intro Q_
  refine WXF_AssignName (fun _ => rfl) (WEF_Call (by rfl) ?_)
  w_fin
  refine ⟨by rw [hK]; kernel_rfl, ?_⟩
  w_fin
  refine WC_sum hA3 (areInt nums) ?_
  w_fin
  refine WC_len hTv (by lia) ?_
  refine WBin_mod (by lia) ?_
  w_fin
  have t0 := Int.fmod_nonneg_of_pos nums.sum (show (0 : Int) < (vs.length : Int) by lia)
  have t1 := Int.fmod_lt_of_pos nums.sum (show (0 : Int) < (vs.length : Int) by omega)
  refine el_E (Int.eq_ofNat_of_zero_le t0) ?_; intro t ht
  rw [ht] at t1 ⊢
  generalize stepsOf (ranksOf (ms.map fun m => rowUp m 3)) = ps at *
  have hrot : ∀ e, e ∈ ps.drop t ++ ps.take t ↔ e ∈ ps := fun e => by rw [List.mem_append, or_comm, ← List.mem_append, List.take_append_drop]
  refine W_led (ps := ps) (ls := (runOf (ranksOf (ms.map fun m => rowUp m 3))).map fun e => [e]) hK (hd'.less (by decide)) K hTv hrf (by omega) (by omega) ?_ ?_ ?_
  · rw [List.length_map]; have := hread.len; lia
  · exact led_runs (by rw [List.length_append, Nat.add_comm, ← List.length_append, List.take_append_drop]; exact Nat.le_trans ‹_› (by decide)) (fun k e he x => (Ready.same hrot).trans (hready.1 k e he x)) fun x h => hready.2 x ((Ready.same hrot).mp h)
  intro b hb R O Z ts σ₈ kp hR hO hts hZ
  refine W_StoreS hs hx (by kernel_rfl) ?_
  have hD4 : σ₈ D = _ := kp _ _ hD3
  refine WXsF_less (S' := ⟨setv (setv (fun _ => none) (Str.ofString "modes") (.ref D)) (Str.ofString "told") (.ref R), σ₈⟩) ⟨setv_less (by walk_at "w lk") (setv_less (by walk_at "w lk") nov), fun x o e => e⟩ ?_
  clear kp hD3 hA3 hTv hrf
  refine WXsF_consL ?_
  intro Q_
  refine WXF_ofAssign (WX_AssignN (by rfl) hs hx (by kernel_rfl) ?_)
  w_fin
  refine WE_Comp (fun _ _ => rfl) hs (by kernel_rfl) (by kernel_rfl) (by kernel_rfl) ?_
  w_fin
  let Inv_3 : Nat -> List Value -> St Int -> Prop := fun k acc S' => acc = sL ((ms.take k).map fun m => rowUp m 3) /\ S'.σ = σ₈
  refine ⟨iL ms, _, iter_list hD4, Inv_3,
    ⟨rfl, rfl⟩, fun k acc S₂ hI => ⟨by rw [hI.2]; exact hD4, by rw [hI.1]; unfold sL; rw [List.length_map, List.length_map, List.length_take]; exact Nat.min_le_left _ _⟩, by rw [iL_len, sizeLine_eq]; lia, fun c₁ hs₁ hx₁ hd₁ k y acc S₂ hy q_ => ?_, fun acc S₂ ⟨w1, w2⟩ E hE => ?_⟩
  · (refine el_A q_ ?_; clear q_; intro w1 w2)
    obtain ⟨m₆, σ₆⟩ := S₂
    obtain rfl : σ₆ = σ₈ := w2
    unfold iL at hy
    rw [List.getElem?_map, Option.map_eq_some_iff] at hy
    refine el_EA hy ?_; (try clear hy); intro m hm rfl_54; subst rfl_54
    have hmr := mok m (List.mem_of_getElem? hm)
    w_fin
    refine W_row hK ((hd₁ _ hd').less (by decide)) hmr.1 hmr.2 ?_
    exact ⟨by rw [w1, sL_snoc, List.take_add_one, hm, List.map_append]; rfl, rfl⟩
  rw [iL_len, List.take_of_length_le (Nat.le_refl _)] at w1
  subst w1
  obtain ⟨m₆, σ₆⟩ := S₂
  obtain rfl : σ₆ = σ₈ := w2
  have hE : σ₆ E = none := hE
  w_fin
  refine W_ranks (rs := ms.map fun m => rowUp m 3) hK (hd'.less (by decide)) upd_self (by rw [List.length_map]; lia) fun R₂ hR₂ => ?_
  have up1 : ∀ x o, σ₆ x = some o -> upd (upd σ₆ E (.list (sL (ms.map fun m => rowUp m 3)))) R₂ (.list (iL (ranksOf (ms.map fun m => rowUp m 3)))) x = some o := fun x o e => upd_le hR₂ _ _ (upd_le hE _ _ e)
  have hR2v : upd (upd σ₆ E (.list (sL (ms.map fun m => rowUp m 3)))) R₂ (.list (iL (ranksOf (ms.map fun m => rowUp m 3)))) R₂ = _ := upd_self
  show WXsF g c' (_ :: _) ⟨_, upd (upd σ₆ E (.list (sL (ms.map fun m => rowUp m 3)))) R₂ (.list (iL (ranksOf (ms.map fun m => rowUp m 3))))⟩ _
  generalize upd (upd σ₆ E (.list (sL (ms.map fun m => rowUp m 3)))) R₂ (.list (iL (ranksOf (ms.map fun m => rowUp m 3)))) = σ₉ at *
  have hD5 := up1 _ _ hD4
  have hRv := up1 _ _ hR
  have hOv := up1 _ _ hO
  have hZv := up1 _ _ hZ
  have htsv : ts.length = ((runOf (ranksOf (ms.map fun m => rowUp m 3))).map fun e => [e]).length /\ ∀ (j : Nat) (l : List Int), ((runOf (ranksOf (ms.map fun m => rowUp m 3))).map fun e => [e])[j]? = some l -> ∃ T : Addr, ts[j]? = some (Value.ref T) /\ σ₉ T = some (.tup (iL l)) := ⟨hts.1, fun j l h => let ⟨T, h1, h2⟩ := hts.2 j l h; ⟨T, h1, up1 _ _ h2⟩⟩
  clear hts hZ hO hR hD4 up1 hR₂ hE hready
  generalize ranksOf (ms.map fun m => rowUp m 3) = ρ at *
  w_fin
  refine W_run (ns := ρ) hK (hd'.less (by decide)) hR2v (by lia) fun V hV => ?_
  have hV : σ₉ V = none := hV
  have hVv : upd σ₉ V (.list (iL (runOf ρ))) V = _ := upd_self
  have up2 : ∀ x o, σ₉ x = some o -> upd σ₉ V (.list (iL (runOf ρ))) x = some o := upd_le hV
  show WXsF g c' (_ :: _) ⟨_, upd σ₉ V (.list (iL (runOf ρ)))⟩ _
  have hD6 := up2 _ _ hD5
  have hR6 := up2 _ _ hRv
  have hO6 := up2 _ _ hOv
  have hZ6 := up2 _ _ hZv
  have hP6 := up2 _ _ hR2v
  have hts6 : ∀ (j : Nat) (l : List Int), ((runOf ρ).map fun e => [e])[j]? = some l -> ∃ T : Addr, ts[j]? = some (Value.ref T) /\ upd σ₉ V (.list (iL (runOf ρ))) T = some (.tup (iL l)) := fun j l h => let ⟨T, h1, h2⟩ := htsv.2 j l h; ⟨T, h1, up2 _ _ h2⟩
  have htl := htsv.1
  generalize upd σ₉ V (.list (iL (runOf ρ))) = σ₁₀ at *
  clear htsv hD5 hRv hOv hZv hR2v up2 hV
  refine WXsF_less (S' := ⟨setv (setv (setv (setv (fun _ => none) (Str.ofString "modes") (.ref D)) (Str.ofString "told") (.ref R)) (Str.ofString "ranks") (.ref R₂)) (Str.ofString "events") (.ref V), σ₁₀⟩) ⟨setv_less (by walk_at "w lk") (setv_less (by walk_at "w lk") (setv_less (by walk_at "w lk") (setv_less (by walk_at "w lk") nov))), fun x o e => e⟩ ?_
  rw [List.length_map] at htl
  refine WXsF_consL ?_
  intro Q_
  refine WXF_If (WT_Compare (by kernel_rfl) ?_)
  w_fin
  refine W_barred2 (ns := ρ) hK (hd'.less (by decide)) hP6 (by lia) fun x hxb => WUn_not (WTr_bool ?_)
  have hbx : b = !x := by
    cases x with
    | true =>
      have := hbarred (hxb.mp rfl)
      cases b with
      | true => exact absurd (hb.mp rfl) this
      | false => rfl
    | false =>
      have := hfree fun k => Bool.false_ne_true (hxb.mpr k)
      exact hb.mpr this
  rw [← hbx]
  clear hbx hxb hbarred hfree hb
  w_fin
  refine WE_Comp (fun _ _ => rfl) hs (by kernel_rfl) (by kernel_rfl) (by kernel_rfl) ?_
  w_fin
  have hrl := hread.len
  let Inv_4 : Nat -> List Value -> St Int -> Prop := fun k acc S' => (∀ x o, σ₁₀ x = some o -> S'.σ x = some o) /\ acc.length = k /\ ∀ (j : Nat) (e : Int), j < k -> (runOf ρ)[j]? = some e -> ∃ T' : Addr, acc[j]? = some (Value.ref T') /\ σ₁₀ T' = none /\ S'.σ T' = some (.tup [.int e 0])
  refine ⟨iL (runOf ρ), _, iter_list hVv, Inv_4,
    ⟨fun _ _ e => e, rfl, fun j e h => absurd h (Nat.not_lt_zero _)⟩, fun k acc S₂ hI => ⟨hI.1 _ _ hVv, Nat.le_of_eq hI.2.1⟩, by rw [iL_len, sizeLine_eq]; lia, fun c₁ hs₁ hx₁ hd₁ k y acc S₂ hy q_ => ?_, fun acc S₂ ⟨w1, w2, w3⟩ C hC => ?_⟩
  · (refine el_AA q_ ?_; clear q_; intro w1 w2 w3)
    obtain ⟨m₆, σ₆⟩ := S₂
    unfold iL at hy
    rw [List.getElem?_map, Option.map_eq_some_iff] at hy
    refine el_EA hy ?_; (try clear hy); intro e he rfl_53; subst rfl_53
    w_fin
    refine WE_Tuple ?_
    w_fin
    refine ⟨Nat.le_of_lt (show 1 < sizeLine by decide +kernel), fun T' hT' => ?_⟩
    have hT' : σ₆ T' = none := hT'
    refine ⟨fun x o q => upd_le hT' x o (w1 x o q), by rw [List.length_append, w2]; rfl, fun j e' hj hje => ?_⟩
    by_cases q : j = k
    · subst q
      rw [he] at hje
      (replace hje := Option.some.inj hje; subst hje)
      refine ⟨T', by rw [List.getElem?_append_right (by lia), w2, Nat.sub_self]; rfl, ?_, upd_self⟩
      cases z : σ₁₀ T' with
      | none => rfl
      | some o => have := w1 T' o z; exact absurd (this.symm.trans hT') (by simp)
    refine el_EAA (w3 j e' (by exact om11 ‹_› ‹_›) hje) ?_; intro T₂ h1 h2 h3
    exact ⟨T₂, by rw [List.getElem?_append_left (by lia)]; exact h1, h2, upd_le hT' _ _ h3⟩
  obtain ⟨m₆, σ₆⟩ := S₂
  rw [iL_len] at w2 w3
  have hC : σ₆ C = none := hC
  have w1 : ∀ x o, σ₁₀ x = some o -> σ₆ x = some o := w1
  have C0 : σ₁₀ C = none := by
    cases z : σ₁₀ C with
    | none => rfl
    | some o => have := w1 C o z; exact absurd (this.symm.trans hC) (by simp)
  have hCv : upd σ₆ C (.list acc) C = _ := upd_self
  have w1' : ∀ x o, σ₁₀ x = some o -> upd σ₆ C (.list acc) x = some o := fun x o q => upd_le hC x o (w1 x o q)
  have w3' : ∀ (j : Nat) (e : Int), (runOf ρ)[j]? = some e -> ∃ T' : Addr, acc[j]? = some (Value.ref T') /\ σ₁₀ T' = none /\ upd σ₆ C (.list acc) T' = some (.tup [.int e 0]) := fun j e h => by
    refine el_EAA (w3 j e (List.getElem?_eq_some_iff.mp h).1 h) ?_; intro T₂ h1 h2 h3
    exact ⟨T₂, h1, h2, upd_le hC _ _ h3⟩
  clear w3 w1
  show WEs g c' (_ :: _) ⟨_, upd σ₆ C (.list acc)⟩ _
  generalize upd σ₆ C (.list acc) = σ₁₁ at *
  w_fin
  refine WE_Tuple ?_
  w_fin
  refine ⟨Nat.zero_le _, fun Z₂ hZ₂ => ?_⟩
  have hZ₂ : σ₁₁ Z₂ = none := hZ₂
  w_fin
  refine ⟨Nat.le_of_lt (show 3 < sizeLine by decide +kernel), fun L hL => ?_⟩
  have hL : upd σ₁₁ Z₂ (.tup []) L = none := hL
  have up : ∀ x o, σ₁₁ x = some o -> upd (upd σ₁₁ Z₂ (.tup [])) L (.list [.bool b, .ref C, .ref Z₂]) x = some o := fun x o q => upd_le hL _ _ (upd_le hZ₂ _ _ q)
  have ne : ∀ {x y : Addr} {o}, σ₁₀ x = some o -> σ₁₀ y = none -> x ≠ y := fun {x y o} h h' e => by rw [e, h'] at h; exact Mine.ns h
  have Z0 : σ₁₀ Z₂ = none := by
    cases z : σ₁₀ Z₂ with
    | none => rfl
    | some o => have := w1' Z₂ o z; exact absurd (this.symm.trans hZ₂) (by simp)
  refine WCmp_neL (k := 2) (e := fun _ => true) (up _ _ (w1' _ _ hR6)) upd_self rfl (by decide) (fun j x y hx' hy => ?_) ?_
  · match j, hx', hy with
    | 0, hx', hy =>
      (replace hx' := Option.some.inj hx'; subst hx'); (replace hy := Option.some.inj hy; subst hy)
      exact EqW.le (EqW.bool' b) (by decide)
    | 1, hx', hy =>
      (replace hx' := Option.some.inj hx'; subst hx'); (replace hy := Option.some.inj hy; subst hy)
      refine EqW.lists' (k := 1) (up _ _ (w1' _ _ hO6)) (up _ _ hCv) (ne hO6 C0) (by rw [htl, w2]) fun j x y hx' hy => ?_
      have hj : j < (runOf ρ).length := by rw [← htl]; exact (List.getElem?_eq_some_iff.mp hx').1
      have he : (runOf ρ)[j]? = some (runOf ρ)[j] := List.getElem?_eq_getElem hj
      generalize (runOf ρ)[j] = e at he
      refine el_EA (hts6 j [e] (by rw [List.getElem?_map, he]; rfl)) ?_; intro T₁ h1 h2
      refine el_EAA (w3' j e he) ?_; intro T₂ h3 h4 h5
      rw [h1] at hx'
      rw [h3] at hy
      (replace hx' := Option.some.inj hx'; subst hx'); (replace hy := Option.some.inj hy; subst hy)
      refine EqW.tuples' (k := 0) (up _ _ (w1' _ _ h2)) (up _ _ h5) (ne h2 h4) rfl fun j x y hx' hy => ?_
      match j, hx', hy with
      | 0, hx', hy =>
        (replace hx' := Option.some.inj hx'; subst hx'); (replace hy := Option.some.inj hy; subst hy)
        exact EqW.int' e
      | j + 1, hx', hy => exact Mine.ns hx'
    | 2, hx', hy =>
      (replace hx' := Option.some.inj hx'; subst hx'); (replace hy := Option.some.inj hy; subst hy)
      exact EqW.tuples' (k := 1) (up _ _ (w1' _ _ hZ6)) (upd_le hL _ _ upd_self) (ne hZ6 Z0) rfl fun j x y hx' hy => by exact Mine.ns hx'
    | j + 3, hx', hy => exact Mine.ns hx'
  refine WTr_bool ?_
  rw [all_true, if_neg (by decide)]
  refine WXsF_nil ?_
  show WXsF g c' (_ :: _) _ _
  w_fin
  refine W_read (es := runOf ρ) (ms := ms) hK (hd'.less (by decide)) (up _ _ (w1' _ _ hVv)) (up _ _ (w1' _ _ hD6)) (by lia) hread ?_
  rfl
end
end
end
end
section
open PySem PySem.W PySem.Calls PySem.Spec PyProof.Rows PySem.W.X
theorem well_list {P : Params} {h : Heap} {v : Value} {xs : List WData} (w : Well P h v (.list xs)) : ∃ (a : Addr) (vs : List Value), v = .ref a /\ h.get? a = some { cls := .type "list", data := .seq vs.toArray } := by
  cases w with
  | list h1 _ => exact ⟨_, _, rfl, h1⟩
theorem ints_er : ∀ {vs : List Value} {ns : List Int}, IntsAre vs ns -> vs.map er = iL ns
  | _, _, .nil => rfl
  | _, _, .cons n t h => by
    show er _ :: _ = _
    rw [List.map_congr_left (fun _ _ => rfl), ints_er h]; rfl
theorem keyInt {prog : Program} {w : World} {K : Frag} {h₀ : Heap} {os : OsState} {mg mb : Str -> Option Value} : KeyOk ⟨prog, w, intKind prog w, K, h₀, os, mg, mb⟩ kvI where
  is k u e := by
    refine el_E (er_int e) ?_; intro t rfl_59; subst rfl_59
    exact beq_self_eq_true k
  inv k u e := by
    refine el_E (Value.isInt_shape e) ?_; intro t rfl_58; subst rfl_58
    rfl
  sc k u e := by
    refine el_E (er_int e) ?_; intro t rfl_57; subst rfl_57
    rfl
  er k := rfl
  hand k := rfl
theorem X : PySem.Challenge.rw_oy0345_02.Holds := Mine.hd (by
  intro w s₀ s₁ mg mb G Y fa o pm cd doc dV kV ho hd hcd hD hmg hg args vals as hpre hlay hrd hwl hlo
  have KX := kIn_of Y
  refine Ground.open G ?_
  intro T B D TE TW
  wrow_args hpre hlay hrd hwl hlo
  rename_i ns hs' hlay0 hL1 hr1 hl2 a4 a3 l vs a0 hL ra w1 r0 hI hr hcond _
  have h269 : nsIn (Mine.hd.heap_1 w.params) mainGlobals (Str.ofString "law") = some (some (.ref 269)) := by kernel_rfl
  have hfa : fa = 269 := by
    have e := mg_of KX T.g h269
    have e' : mg (Str.ofString "law") = some (.ref fa) := hmg
    rw [e] at e'
    (replace e' := Option.some.inj e'; replace e' := PySem.Value.ref.inj e'; subst e'); rfl
  subst hfa
  refine el_EEA (well_list (show Well w.params s₁.heap (.ref l) (.list (ofPys (ns.map PyData.int))) from w1)) ?_; intro a us e1 e2
  (replace e1 := PySem.Value.ref.inj e1; subst e1)
  refine el_EAAE hL ?_; (try clear hL); intro o' h1 h2 n' h3
  rw [e2] at h1
  (replace h1 := Option.some.inj h1; subst h1)
  cases h3
  have hus : vs.map er = iL ns := ints_er hI
  let g : Gl Int := ⟨PySem.Challenge.rw_oy0345_02.row.prog, w, intKind _ w, Mine.hd.heap_1 w.params, s₁.heap, s₁.os, mg, mb⟩
  have hG : g.Ok := ⟨KX, T.g, T.b, T.builtins, T.nolimit, _, _, topRead_of T⟩
  refine wpAny_mono (W_entry (g := g) (A := callerA) (n := 10) rfl rfl (by decide) hG (fn_law rfl) so_law (us := [.ref l]) (bs := [(Str.ofString "script", .ref l)]) (by kernel_rfl) (by kernel_rfl) rfl rfl (.of_eq hg) (P := fun v => v = .bool true) fun c' hs hx hd' => W_law (g := g) rfl hG keyInt hs hx hd' ⟨_, e2, vs.toArray, _, rfl, by simpa using hus⟩ (by lia)) (fun v s' q_ => ?_) fun _ _ x => x.elim
  refine el_AAA q_ ?_; clear q_; intro hv hk hos hbare
  obtain rfl := er_bool hv
  refine ⟨.inl ⟨_, (.bool true), [], rfl, (fun _ => rfl), .bool true, by kernel_rfl, fun _ => ⟨.nil, fun _ h => nomatch h⟩⟩, .of_keep hk, hos, hbare⟩)
end
end Mine
theorem PySem.Challenge.cw_oy0345_02_holds : PySem.Challenge.rw_oy0345_02.Holds :=
  Mine.X
end
