import PyProof.Rows.All
import Wide.All
import OpenK.AllK
import Wide.FinOn
import Lean
import PySem.Challenge.RW_oy0345_01
set_option Elab.async false
set_option maxRecDepth 100000
set_option genSizeOf false
set_option genInjectivity false
set_option compiler.extract_closed false
set_option maxHeartbeats 8000000
noncomputable section
open PySem PySem.W PySem.Calls PySem.Spec PyProof.Rows
open PySem.Str (ofString)
set_option hygiene false in
local macro_rules | `(tactic| o_shape) => `(tactic| first | (refine letP ?_; intro QQ_) | skip)
namespace Mine
theorem zL {P0 P1 p : Prop} (h : P0 /\ P1) (f : P0 -> P1 -> p) : p := f h.1 h.2
theorem zI {α0 : Sort _} {P0 : α0 -> Prop} {p : Prop} (h : ∃ x0, P0 x0) (f : ∀ x0, P0 x0 -> p) : p := h.elim fun x0 h1 => f x0 h1
theorem el_AA {P0 P1 P2 p : Prop} (h : P0 /\ P1 /\ P2) (f : P0 -> P1 -> P2 -> p) : p := f h.1 h.2.1 h.2.2
theorem el_AE {α0 : Sort _} {P0 : Prop} {P1 : α0 -> Prop} {p : Prop} (h : P0 /\ ∃ x0, P1 x0) (f : P0 -> ∀ x0, P1 x0 -> p) : p := h.2.elim fun x0 h1 => f h.1 x0 h1
theorem zB {α0 : Sort _} {P0 P1 : α0 -> Prop} {p : Prop} (h : ∃ x0, P0 x0 /\ P1 x0) (f : ∀ x0, P0 x0 -> P1 x0 -> p) : p := h.elim fun x0 h1 => f x0 h1.1 h1.2
theorem el_EE {α0 α1 : Sort _} {P0 : α0 -> α1 -> Prop} {p : Prop} (h : ∃ x0 x1, P0 x0 x1) (f : ∀ x0 x1, P0 x0 x1 -> p) : p := h.elim fun x0 h1 => h1.elim fun x1 h2 => f x0 x1 h2
theorem el_AAA {P0 P1 P2 P3 p : Prop} (h : P0 /\ P1 /\ P2 /\ P3) (f : P0 -> P1 -> P2 -> P3 -> p) : p := f h.1 h.2.1 h.2.2.1 h.2.2.2
theorem el_AAE {α0 : Sort _} {P0 P1 : Prop} {P2 : α0 -> Prop} {p : Prop} (h : P0 /\ P1 /\ ∃ x0, P2 x0) (f : P0 -> P1 -> ∀ x0, P2 x0 -> p) : p := h.2.2.elim fun x0 h1 => f h.1 h.2.1 x0 h1
theorem el_AEA {α0 : Sort _} {P0 : Prop} {P1 P2 : α0 -> Prop} {p : Prop} (h : P0 /\ ∃ x0, P1 x0 /\ P2 x0) (f : P0 -> ∀ x0, P1 x0 -> P2 x0 -> p) : p := h.2.elim fun x0 h1 => f h.1 x0 h1.1 h1.2
theorem el_AEE {α0 α1 : Sort _} {P0 : Prop} {P1 : α0 -> α1 -> Prop} {p : Prop} (h : P0 /\ ∃ x0 x1, P1 x0 x1) (f : P0 -> ∀ x0 x1, P1 x0 x1 -> p) : p := h.2.elim fun x0 h1 => h1.elim fun x1 h2 => f h.1 x0 x1 h2
theorem zJ {α0 : Sort _} {P0 P1 P2 : α0 -> Prop} {p : Prop} (h : ∃ x0, P0 x0 /\ P1 x0 /\ P2 x0) (f : ∀ x0, P0 x0 -> P1 x0 -> P2 x0 -> p) : p := h.elim fun x0 h1 => f x0 h1.1 h1.2.1 h1.2.2
theorem zg {α0 α1 : Sort _} {P0 P1 : α0 -> α1 -> Prop} {p : Prop} (h : ∃ x0 x1, P0 x0 x1 /\ P1 x0 x1) (f : ∀ x0 x1, P0 x0 x1 -> P1 x0 x1 -> p) : p := h.elim fun x0 h1 => h1.elim fun x1 h2 => f x0 x1 h2.1 h2.2
theorem el_EEE {α0 α1 α2 : Sort _} {P0 : α0 -> α1 -> α2 -> Prop} {p : Prop} (h : ∃ x0 x1 x2, P0 x0 x1 x2) (f : ∀ x0 x1 x2, P0 x0 x1 x2 -> p) : p := h.elim fun x0 h1 => h1.elim fun x1 h2 => h2.elim fun x2 h3 => f x0 x1 x2 h3
theorem el_AAAA {P0 P1 P2 P3 P4 p : Prop} (h : P0 /\ P1 /\ P2 /\ P3 /\ P4) (f : P0 -> P1 -> P2 -> P3 -> P4 -> p) : p := f h.1 h.2.1 h.2.2.1 h.2.2.2.1 h.2.2.2.2
theorem el_EAAA {α0 : Sort _} {P0 P1 P2 P3 : α0 -> Prop} {p : Prop} (h : ∃ x0, P0 x0 /\ P1 x0 /\ P2 x0 /\ P3 x0) (f : ∀ x0, P0 x0 -> P1 x0 -> P2 x0 -> P3 x0 -> p) : p := h.elim fun x0 h1 => f x0 h1.1 h1.2.1 h1.2.2.1 h1.2.2.2
theorem el_EAAE {α0 α1 : Sort _} {P0 P1 : α0 -> Prop} {P2 : α0 -> α1 -> Prop} {p : Prop} (h : ∃ x0, P0 x0 /\ P1 x0 /\ ∃ x1, P2 x0 x1) (f : ∀ x0, P0 x0 -> P1 x0 -> ∀ x1, P2 x0 x1 -> p) : p := h.elim fun x0 h1 => h1.2.2.elim fun x1 h2 => f x0 h1.1 h1.2.1 x1 h2
theorem el_EAEA {α0 α1 : Sort _} {P0 : α0 -> Prop} {P1 P2 : α0 -> α1 -> Prop} {p : Prop} (h : ∃ x0, P0 x0 /\ ∃ x1, P1 x0 x1 /\ P2 x0 x1) (f : ∀ x0, P0 x0 -> ∀ x1, P1 x0 x1 -> P2 x0 x1 -> p) : p := h.elim fun x0 h1 => h1.2.elim fun x1 h2 => f x0 h1.1 x1 h2.1 h2.2
theorem zD {α0 α1 : Sort _} {P0 P1 P2 : α0 -> α1 -> Prop} {p : Prop} (h : ∃ x0 x1, P0 x0 x1 /\ P1 x0 x1 /\ P2 x0 x1) (f : ∀ x0 x1, P0 x0 x1 -> P1 x0 x1 -> P2 x0 x1 -> p) : p := h.elim fun x0 h1 => h1.elim fun x1 h2 => f x0 x1 h2.1 h2.2.1 h2.2.2
theorem el_EEEA {α0 α1 α2 : Sort _} {P0 P1 : α0 -> α1 -> α2 -> Prop} {p : Prop} (h : ∃ x0 x1 x2, P0 x0 x1 x2 /\ P1 x0 x1 x2) (f : ∀ x0 x1 x2, P0 x0 x1 x2 -> P1 x0 x1 x2 -> p) : p := h.elim fun x0 h1 => h1.elim fun x1 h2 => h2.elim fun x2 h3 => f x0 x1 x2 h3.1 h3.2
theorem zx {P0 P1 P2 P3 P4 P5 p : Prop} (h : P0 /\ P1 /\ P2 /\ P3 /\ P4 /\ P5) (f : P0 -> P1 -> P2 -> P3 -> P4 -> P5 -> p) : p := f h.1 h.2.1 h.2.2.1 h.2.2.2.1 h.2.2.2.2.1 h.2.2.2.2.2
theorem zK {α0 : Sort _} {P0 P1 P2 P3 P4 : α0 -> Prop} {p : Prop} (h : ∃ x0, P0 x0 /\ P1 x0 /\ P2 x0 /\ P3 x0 /\ P4 x0) (f : ∀ x0, P0 x0 -> P1 x0 -> P2 x0 -> P3 x0 -> P4 x0 -> p) : p := h.elim fun x0 h1 => f x0 h1.1 h1.2.1 h1.2.2.1 h1.2.2.2.1 h1.2.2.2.2
theorem el_EAEEA {α0 α1 α2 : Sort _} {P0 : α0 -> Prop} {P1 P2 : α0 -> α1 -> α2 -> Prop} {p : Prop} (h : ∃ x0, P0 x0 /\ ∃ x1 x2, P1 x0 x1 x2 /\ P2 x0 x1 x2) (f : ∀ x0, P0 x0 -> ∀ x1 x2, P1 x0 x1 x2 -> P2 x0 x1 x2 -> p) : p := h.elim fun x0 h1 => h1.2.elim fun x1 h2 => h2.elim fun x2 h3 => f x0 h1.1 x1 x2 h3.1 h3.2
theorem el_EAEEE {α0 α1 α2 α3 : Sort _} {P0 : α0 -> Prop} {P1 : α0 -> α1 -> α2 -> α3 -> Prop} {p : Prop} (h : ∃ x0, P0 x0 /\ ∃ x1 x2 x3, P1 x0 x1 x2 x3) (f : ∀ x0, P0 x0 -> ∀ x1 x2 x3, P1 x0 x1 x2 x3 -> p) : p := h.elim fun x0 h1 => h1.2.elim fun x1 h2 => h2.elim fun x2 h3 => h3.elim fun x3 h4 => f x0 h1.1 x1 x2 x3 h4
theorem zE {α0 α1 : Sort _} {P0 P1 P2 P3 : α0 -> α1 -> Prop} {p : Prop} (h : ∃ x0 x1, P0 x0 x1 /\ P1 x0 x1 /\ P2 x0 x1 /\ P3 x0 x1) (f : ∀ x0 x1, P0 x0 x1 -> P1 x0 x1 -> P2 x0 x1 -> P3 x0 x1 -> p) : p := h.elim fun x0 h1 => h1.elim fun x1 h2 => f x0 x1 h2.1 h2.2.1 h2.2.2.1 h2.2.2.2
theorem el_EEEEA {α0 α1 α2 α3 : Sort _} {P0 P1 : α0 -> α1 -> α2 -> α3 -> Prop} {p : Prop} (h : ∃ x0 x1, ∃ x2 x3, P0 x0 x1 x2 x3 /\ P1 x0 x1 x2 x3) (f : ∀ x0 x1, ∀ x2 x3, P0 x0 x1 x2 x3 -> P1 x0 x1 x2 x3 -> p) : p := h.elim fun x0 h1 => h1.elim fun x1 h2 => h2.elim fun x2 h3 => h3.elim fun x3 h4 => f x0 x1 x2 x3 h4.1 h4.2
theorem el_AAAAEA {α0 : Sort _} {P0 P1 P2 P3 : Prop} {P4 P5 : α0 -> Prop} {p : Prop} (h : P0 /\ P1 /\ P2 /\ P3 /\ ∃ x0, P4 x0 /\ P5 x0) (f : P0 -> P1 -> P2 -> P3 -> ∀ x0, P4 x0 -> P5 x0 -> p) : p := h.2.2.2.2.elim fun x0 h1 => f h.1 h.2.1 h.2.2.1 h.2.2.2.1 x0 h1.1 h1.2
theorem el_AEEEAA {α0 α1 α2 : Sort _} {P0 : Prop} {P1 P2 P3 : α0 -> α1 -> α2 -> Prop} {p : Prop} (h : P0 /\ ∃ x0 x1 x2, P1 x0 x1 x2 /\ P2 x0 x1 x2 /\ P3 x0 x1 x2) (f : P0 -> ∀ x0 x1 x2, P1 x0 x1 x2 -> P2 x0 x1 x2 -> P3 x0 x1 x2 -> p) : p := h.2.elim fun x0 h1 => h1.elim fun x1 h2 => h2.elim fun x2 h3 => f h.1 x0 x1 x2 h3.1 h3.2.1 h3.2.2
theorem el_EAEEAA {α0 α1 α2 : Sort _} {P0 : α0 -> Prop} {P1 P2 P3 : α0 -> α1 -> α2 -> Prop} {p : Prop} (h : ∃ x0, P0 x0 /\ ∃ x1 x2, P1 x0 x1 x2 /\ P2 x0 x1 x2 /\ P3 x0 x1 x2) (f : ∀ x0, P0 x0 -> ∀ x1 x2, P1 x0 x1 x2 -> P2 x0 x1 x2 -> P3 x0 x1 x2 -> p) : p := h.elim fun x0 h1 => h1.2.elim fun x1 h2 => h2.elim fun x2 h3 => f x0 h1.1 x1 x2 h3.1 h3.2.1 h3.2.2
theorem el_EEAAAA {α0 α1 : Sort _} {P0 P1 P2 P3 P4 : α0 -> α1 -> Prop} {p : Prop} (h : ∃ x0 x1, P0 x0 x1 /\ P1 x0 x1 /\ P2 x0 x1 /\ P3 x0 x1 /\ P4 x0 x1) (f : ∀ x0 x1, P0 x0 x1 -> P1 x0 x1 -> P2 x0 x1 -> P3 x0 x1 -> P4 x0 x1 -> p) : p := h.elim fun x0 h1 => h1.elim fun x1 h2 => f x0 x1 h2.1 h2.2.1 h2.2.2.1 h2.2.2.2.1 h2.2.2.2.2
theorem zN {α0 α1 α2 : Sort _} {P0 P1 P2 P3 : α0 -> α1 -> α2 -> Prop} {p : Prop} (h : ∃ x0 x1 x2, P0 x0 x1 x2 /\ P1 x0 x1 x2 /\ P2 x0 x1 x2 /\ P3 x0 x1 x2) (f : ∀ x0 x1 x2, P0 x0 x1 x2 -> P1 x0 x1 x2 -> P2 x0 x1 x2 -> P3 x0 x1 x2 -> p) : p := h.elim fun x0 h1 => h1.elim fun x1 h2 => h2.elim fun x2 h3 => f x0 x1 x2 h3.1 h3.2.1 h3.2.2.1 h3.2.2.2
theorem el_EAEEAAA {α0 α1 α2 : Sort _} {P0 : α0 -> Prop} {P1 P2 P3 P4 : α0 -> α1 -> α2 -> Prop} {p : Prop} (h : ∃ x0, P0 x0 /\ ∃ x1 x2, P1 x0 x1 x2 /\ P2 x0 x1 x2 /\ P3 x0 x1 x2 /\ P4 x0 x1 x2) (f : ∀ x0, P0 x0 -> ∀ x1 x2, P1 x0 x1 x2 -> P2 x0 x1 x2 -> P3 x0 x1 x2 -> P4 x0 x1 x2 -> p) : p := h.elim fun x0 h1 => h1.2.elim fun x1 h2 => h2.elim fun x2 h3 => f x0 h1.1 x1 x2 h3.1 h3.2.1 h3.2.2.1 h3.2.2.2
theorem zk {α0 α1 : Sort _} {P0 P1 P2 P3 P4 P5 : α0 -> α1 -> Prop} {p : Prop} (h : ∃ x0 x1, P0 x0 x1 /\ P1 x0 x1 /\ P2 x0 x1 /\ P3 x0 x1 /\ P4 x0 x1 /\ P5 x0 x1) (f : ∀ x0 x1, P0 x0 x1 -> P1 x0 x1 -> P2 x0 x1 -> P3 x0 x1 -> P4 x0 x1 -> P5 x0 x1 -> p) : p := h.elim fun x0 h1 => h1.elim fun x1 h2 => f x0 x1 h2.1 h2.2.1 h2.2.2.1 h2.2.2.2.1 h2.2.2.2.2.1 h2.2.2.2.2.2
theorem el_EEEEAAA {α0 α1 α2 α3 : Sort _} {P0 P1 P2 P3 : α0 -> α1 -> α2 -> α3 -> Prop} {p : Prop} (h : ∃ x0 x1, ∃ x2 x3, P0 x0 x1 x2 x3 /\ P1 x0 x1 x2 x3 /\ P2 x0 x1 x2 x3 /\ P3 x0 x1 x2 x3) (f : ∀ x0 x1, ∀ x2 x3, P0 x0 x1 x2 x3 -> P1 x0 x1 x2 x3 -> P2 x0 x1 x2 x3 -> P3 x0 x1 x2 x3 -> p) : p := h.elim fun x0 h1 => h1.elim fun x1 h2 => h2.elim fun x2 h3 => h3.elim fun x3 h4 => f x0 x1 x2 x3 h4.1 h4.2.1 h4.2.2.1 h4.2.2.2
theorem el_AEEEAAAA {α0 α1 α2 : Sort _} {P0 : Prop} {P1 P2 P3 P4 P5 : α0 -> α1 -> α2 -> Prop} {p : Prop} (h : P0 /\ ∃ x0 x1 x2, P1 x0 x1 x2 /\ P2 x0 x1 x2 /\ P3 x0 x1 x2 /\ P4 x0 x1 x2 /\ P5 x0 x1 x2) (f : P0 -> ∀ x0 x1 x2, P1 x0 x1 x2 -> P2 x0 x1 x2 -> P3 x0 x1 x2 -> P4 x0 x1 x2 -> P5 x0 x1 x2 -> p) : p := h.2.elim fun x0 h1 => h1.elim fun x1 h2 => h2.elim fun x2 h3 => f h.1 x0 x1 x2 h3.1 h3.2.1 h3.2.2.1 h3.2.2.2.1 h3.2.2.2.2
theorem el_EEAEAAAA {α0 α1 α2 : Sort _} {P0 : α0 -> α1 -> Prop} {P1 P2 P3 P4 P5 : α0 -> α1 -> α2 -> Prop} {p : Prop} (h : ∃ x0 x1, P0 x0 x1 /\ ∃ x2, P1 x0 x1 x2 /\ P2 x0 x1 x2 /\ P3 x0 x1 x2 /\ P4 x0 x1 x2 /\ P5 x0 x1 x2) (f : ∀ x0 x1, P0 x0 x1 -> ∀ x2, P1 x0 x1 x2 -> P2 x0 x1 x2 -> P3 x0 x1 x2 -> P4 x0 x1 x2 -> P5 x0 x1 x2 -> p) : p := h.elim fun x0 h1 => h1.elim fun x1 h2 => h2.2.elim fun x2 h3 => f x0 x1 h2.1 x2 h3.1 h3.2.1 h3.2.2.1 h3.2.2.2.1 h3.2.2.2.2
theorem el_AEEAAAAAA {α0 α1 : Sort _} {P0 : Prop} {P1 P2 P3 P4 P5 P6 P7 : α0 -> α1 -> Prop} {p : Prop} (h : P0 /\ ∃ x0 x1, P1 x0 x1 /\ P2 x0 x1 /\ P3 x0 x1 /\ P4 x0 x1 /\ P5 x0 x1 /\ P6 x0 x1 /\ P7 x0 x1) (f : P0 -> ∀ x0 x1, P1 x0 x1 -> P2 x0 x1 -> P3 x0 x1 -> P4 x0 x1 -> P5 x0 x1 -> P6 x0 x1 -> P7 x0 x1 -> p) : p := h.2.elim fun x0 h1 => h1.elim fun x1 h2 => f h.1 x0 x1 h2.1 h2.2.1 h2.2.2.1 h2.2.2.2.1 h2.2.2.2.2.1 h2.2.2.2.2.2.1 h2.2.2.2.2.2.2
theorem el_EAEEAAAAA {α0 α1 α2 : Sort _} {P0 : α0 -> Prop} {P1 P2 P3 P4 P5 P6 : α0 -> α1 -> α2 -> Prop} {p : Prop} (h : ∃ x0, P0 x0 /\ ∃ x1 x2, P1 x0 x1 x2 /\ P2 x0 x1 x2 /\ P3 x0 x1 x2 /\ P4 x0 x1 x2 /\ P5 x0 x1 x2 /\ P6 x0 x1 x2) (f : ∀ x0, P0 x0 -> ∀ x1 x2, P1 x0 x1 x2 -> P2 x0 x1 x2 -> P3 x0 x1 x2 -> P4 x0 x1 x2 -> P5 x0 x1 x2 -> P6 x0 x1 x2 -> p) : p := h.elim fun x0 h1 => h1.2.elim fun x1 h2 => h2.elim fun x2 h3 => f x0 h1.1 x1 x2 h3.1 h3.2.1 h3.2.2.1 h3.2.2.2.1 h3.2.2.2.2.1 h3.2.2.2.2.2
theorem el_EEEEAAAAA {α0 α1 α2 α3 : Sort _} {P0 P1 P2 P3 P4 P5 : α0 -> α1 -> α2 -> α3 -> Prop} {p : Prop} (h : ∃ x0 x1, ∃ x2 x3, P0 x0 x1 x2 x3 /\ P1 x0 x1 x2 x3 /\ P2 x0 x1 x2 x3 /\ P3 x0 x1 x2 x3 /\ P4 x0 x1 x2 x3 /\ P5 x0 x1 x2 x3) (f : ∀ x0 x1, ∀ x2 x3, P0 x0 x1 x2 x3 -> P1 x0 x1 x2 x3 -> P2 x0 x1 x2 x3 -> P3 x0 x1 x2 x3 -> P4 x0 x1 x2 x3 -> P5 x0 x1 x2 x3 -> p) : p := h.elim fun x0 h1 => h1.elim fun x1 h2 => h2.elim fun x2 h3 => h3.elim fun x3 h4 => f x0 x1 x2 x3 h4.1 h4.2.1 h4.2.2.1 h4.2.2.2.1 h4.2.2.2.2.1 h4.2.2.2.2.2
theorem el_EAAAAAAAAA {α0 : Sort _} {P0 P1 P2 P3 P4 P5 P6 P7 P8 P9 : α0 -> Prop} {p : Prop} (h : ∃ x0, P0 x0 /\ P1 x0 /\ P2 x0 /\ P3 x0 /\ P4 x0 /\ P5 x0 /\ P6 x0 /\ P7 x0 /\ P8 x0 /\ P9 x0) (f : ∀ x0, P0 x0 -> P1 x0 -> P2 x0 -> P3 x0 -> P4 x0 -> P5 x0 -> P6 x0 -> P7 x0 -> P8 x0 -> P9 x0 -> p) : p := h.elim fun x0 h1 => f x0 h1.1 h1.2.1 h1.2.2.1 h1.2.2.2.1 h1.2.2.2.2.1 h1.2.2.2.2.2.1 h1.2.2.2.2.2.2.1 h1.2.2.2.2.2.2.2.1 h1.2.2.2.2.2.2.2.2.1 h1.2.2.2.2.2.2.2.2.2
theorem el_EEEEAAAEAA {α0 α1 α2 α3 α4 : Sort _} {P0 P1 P2 : α0 -> α1 -> α2 -> α3 -> Prop} {P3 P4 P5 : α0 -> α1 -> α2 -> α3 -> α4 -> Prop} {p : Prop} (h : ∃ x0 x1, ∃ x2 x3, P0 x0 x1 x2 x3 /\ P1 x0 x1 x2 x3 /\ P2 x0 x1 x2 x3 /\ ∃ x4, P3 x0 x1 x2 x3 x4 /\ P4 x0 x1 x2 x3 x4 /\ P5 x0 x1 x2 x3 x4) (f : ∀ x0 x1, ∀ x2 x3, P0 x0 x1 x2 x3 -> P1 x0 x1 x2 x3 -> P2 x0 x1 x2 x3 -> ∀ x4, P3 x0 x1 x2 x3 x4 -> P4 x0 x1 x2 x3 x4 -> P5 x0 x1 x2 x3 x4 -> p) : p := h.elim fun x0 h1 => h1.elim fun x1 h2 => h2.elim fun x2 h3 => h3.elim fun x3 h4 => h4.2.2.2.elim fun x4 h5 => f x0 x1 x2 x3 h4.1 h4.2.1 h4.2.2.1 x4 h5.1 h5.2.1 h5.2.2
theorem el_AAEEEEEAAAAA {α0 α1 α2 α3 α4 : Sort _} {P0 P1 : Prop} {P2 P3 P4 P5 P6 P7 : α0 -> α1 -> α2 -> α3 -> α4 -> Prop} {p : Prop} (h : P0 /\ P1 /\ ∃ x0 x1, ∃ x2 x3 x4, P2 x0 x1 x2 x3 x4 /\ P3 x0 x1 x2 x3 x4 /\ P4 x0 x1 x2 x3 x4 /\ P5 x0 x1 x2 x3 x4 /\ P6 x0 x1 x2 x3 x4 /\ P7 x0 x1 x2 x3 x4) (f : P0 -> P1 -> ∀ x0 x1, ∀ x2 x3 x4, P2 x0 x1 x2 x3 x4 -> P3 x0 x1 x2 x3 x4 -> P4 x0 x1 x2 x3 x4 -> P5 x0 x1 x2 x3 x4 -> P6 x0 x1 x2 x3 x4 -> P7 x0 x1 x2 x3 x4 -> p) : p := h.2.2.elim fun x0 h1 => h1.elim fun x1 h2 => h2.elim fun x2 h3 => h3.elim fun x3 h4 => h4.elim fun x4 h5 => f h.1 h.2.1 x0 x1 x2 x3 x4 h5.1 h5.2.1 h5.2.2.1 h5.2.2.2.1 h5.2.2.2.2.1 h5.2.2.2.2.2
theorem el_AEEEEEEAAAAAAA {α0 α1 α2 α3 α4 α5 : Sort _} {P0 : Prop} {P1 P2 P3 P4 P5 P6 P7 P8 : α0 -> α1 -> α2 -> α3 -> α4 -> α5 -> Prop} {p : Prop} (h : P0 /\ ∃ x0 x1, ∃ x2 x3, ∃ x4 x5, P1 x0 x1 x2 x3 x4 x5 /\ P2 x0 x1 x2 x3 x4 x5 /\ P3 x0 x1 x2 x3 x4 x5 /\ P4 x0 x1 x2 x3 x4 x5 /\ P5 x0 x1 x2 x3 x4 x5 /\ P6 x0 x1 x2 x3 x4 x5 /\ P7 x0 x1 x2 x3 x4 x5 /\ P8 x0 x1 x2 x3 x4 x5) (f : P0 -> ∀ x0 x1, ∀ x2 x3, ∀ x4 x5, P1 x0 x1 x2 x3 x4 x5 -> P2 x0 x1 x2 x3 x4 x5 -> P3 x0 x1 x2 x3 x4 x5 -> P4 x0 x1 x2 x3 x4 x5 -> P5 x0 x1 x2 x3 x4 x5 -> P6 x0 x1 x2 x3 x4 x5 -> P7 x0 x1 x2 x3 x4 x5 -> P8 x0 x1 x2 x3 x4 x5 -> p) : p := h.2.elim fun x0 h1 => h1.elim fun x1 h2 => h2.elim fun x2 h3 => h3.elim fun x3 h4 => h4.elim fun x4 h5 => h5.elim fun x5 h6 => f h.1 x0 x1 x2 x3 x4 x5 h6.1 h6.2.1 h6.2.2.1 h6.2.2.2.1 h6.2.2.2.2.1 h6.2.2.2.2.2.1 h6.2.2.2.2.2.2.1 h6.2.2.2.2.2.2.2
theorem el_EEEEEEEAAAAAAAAA {α0 α1 α2 α3 α4 α5 α6 : Sort _} {P0 P1 P2 P3 P4 P5 P6 P7 P8 P9 : α0 -> α1 -> α2 -> α3 -> α4 -> α5 -> α6 -> Prop} {p : Prop} (h : ∃ x0 x1, ∃ x2 x3, ∃ x4 x5 x6, P0 x0 x1 x2 x3 x4 x5 x6 /\ P1 x0 x1 x2 x3 x4 x5 x6 /\ P2 x0 x1 x2 x3 x4 x5 x6 /\ P3 x0 x1 x2 x3 x4 x5 x6 /\ P4 x0 x1 x2 x3 x4 x5 x6 /\ P5 x0 x1 x2 x3 x4 x5 x6 /\ P6 x0 x1 x2 x3 x4 x5 x6 /\ P7 x0 x1 x2 x3 x4 x5 x6 /\ P8 x0 x1 x2 x3 x4 x5 x6 /\ P9 x0 x1 x2 x3 x4 x5 x6) (f : ∀ x0 x1, ∀ x2 x3, ∀ x4 x5 x6, P0 x0 x1 x2 x3 x4 x5 x6 -> P1 x0 x1 x2 x3 x4 x5 x6 -> P2 x0 x1 x2 x3 x4 x5 x6 -> P3 x0 x1 x2 x3 x4 x5 x6 -> P4 x0 x1 x2 x3 x4 x5 x6 -> P5 x0 x1 x2 x3 x4 x5 x6 -> P6 x0 x1 x2 x3 x4 x5 x6 -> P7 x0 x1 x2 x3 x4 x5 x6 -> P8 x0 x1 x2 x3 x4 x5 x6 -> P9 x0 x1 x2 x3 x4 x5 x6 -> p) : p := h.elim fun x0 h1 => h1.elim fun x1 h2 => h2.elim fun x2 h3 => h3.elim fun x3 h4 => h4.elim fun x4 h5 => h5.elim fun x5 h6 => h6.elim fun x6 h7 => f x0 x1 x2 x3 x4 x5 x6 h7.1 h7.2.1 h7.2.2.1 h7.2.2.2.1 h7.2.2.2.2.1 h7.2.2.2.2.2.1 h7.2.2.2.2.2.2.1 h7.2.2.2.2.2.2.2.1 h7.2.2.2.2.2.2.2.2.1 h7.2.2.2.2.2.2.2.2.2
theorem om01 {a b c d n : Nat} (h : a + 4 * (n + 1) + 20 < c /\ b + 20 * (n + 1) + 100 < d) : a + 1 + 4 * n + 20 < c /\ b + 3 + 20 * n + 100 < d := by omega
theorem om02 {a b c d n : Nat} (h : a + 4 * (n + 1) + 20 < c /\ b + 20 * (n + 1) + 100 < d) : a + 1 + 4 * 0 + 20 < c /\ b + 3 + 20 * 0 + 100 < d := by omega
theorem om03 {k i n : Nat} (h : k + i = n) (h' : i < n) : k - 1 + (i + 1) = n := by omega
theorem om04 {t n : Nat} (h : t ≤ n) : (max 0 (min (t : Int) n)).toNat = t := by
 rw [Int.min_eq_left (Int.ofNat_le.mpr h), Int.max_eq_right (Int.natCast_nonneg t), Int.toNat_natCast]
theorem om54 {n i k : Nat} (h : n - i = k + 1) : n = i + (k + 1) := by
 rw [← h]; exact (Nat.add_sub_cancel' (Nat.le_of_lt (Nat.lt_of_sub_pos (h ▸ Nat.succ_pos k)))).symm
theorem om51 {n i k : Nat} (h : n - i = k + 1) : n - k = i + 1 := Nat.sub_eq_of_eq_add ((om54 h).trans (Nat.add_right_comm i 1 k).symm)
theorem om52 {n i k : Nat} (h : n - i = k + 1) : n - (k + 1) = i := Nat.sub_eq_of_eq_add (om54 h)
theorem om53 {n i k : Nat} (h : n - i = k + 1) : k = n - (i + 1) := (Nat.sub_eq_of_eq_add ((om54 h).trans (congrArg Nat.succ (Nat.add_comm i k)))).symm
theorem om05 {k i n : Nat} (h : k + i = n) (h' : n ≤ i) : i = n := Nat.le_antisymm (h ▸ Nat.le_add_left ..) h'
theorem om06 {k i n : Nat} (h : k + i = n) (h' : i < n) : k - 1 < k := by omega
theorem om07 {z : Int} {n : Nat} (h : 0 ≤ z) (h' : z < n) : z.toNat < n := by omega
theorem om08 {n : Nat} {a b : Int} (h : n < (a - b).toNat) : (n : Int) < a - b := by omega
theorem om09 {a b : Nat} (h : a + 4 * 0 + 20 < b) : a < b := Nat.lt_of_le_of_lt (Nat.le_add_right _ 20) h
theorem om10 {a b : Nat} (h : a + 20 * 0 + 100 < b) : a < b := Nat.lt_of_le_of_lt (Nat.le_add_right _ 100) h
theorem om11 {a b : Nat} (h : a < b + 1) (h' : ¬ a = b) : a < b := Nat.lt_of_le_of_ne (Nat.le_of_lt_succ h) h'
theorem om12 {a b : Nat} (h : a < b) (h1 : ¬ a < b - 1) : a = b - 1 := by omega
theorem om15 {a b : Nat} (h : a < b) : (a : Int) < b := Int.ofNat_lt.mpr h
theorem om16 : -(2 ^ 62 : Int) ≤ 0 := by decide
theorem om17 : (0 : Int) < 2 ^ 62 := by decide
theorem om22 {a b : Nat} (h' : (a : Int) < (b : Int) - 0) : a < b := by omega
theorem om23 {a b : Nat} (h : a ≤ b) (hb : b ≤ 10000) : a ≤ 16777216 := Nat.le_trans h (Nat.le_trans hb (by decide))
theorem om24 {a : Nat} (hb : a ≤ 10000) : a ≤ 16777216 := Nat.le_trans hb (by decide)
theorem om25 {a : Nat} (hb : a ≤ 10000) : (a : Int) < 2 ^ 62 := by omega
theorem om26 {a : Nat} (hb : a ≤ 10000) : (a : Int) < 2 ^ 63 := by omega
theorem om27 (a : Nat) : -(2 ^ 62 : Int) ≤ (a : Int) := Int.le_trans (by decide) (Int.natCast_nonneg a)
theorem om28 (a : Nat) : -(2 ^ 63 : Int) ≤ (a : Int) := Int.le_trans (by decide) (Int.natCast_nonneg a)
theorem om37 {a b c : Nat} (h : a ≤ c) (h' : b = a) : b ≤ c := h' ▸ h
theorem om41 {a b : Nat} (h : a < b) : b - a = b - a - 1 + 1 := by omega
theorem om44 {a b : Nat} (h : a ≤ b) : b + 1 - a = b - a + 1 := Nat.succ_sub h
theorem om45 {a b : Nat} (h : a + 1 ≤ b) : b - (a + 1) + 1 = b - a := by omega
theorem om50 {a b : Nat} (h : a ≤ b) : a ≤ b + 1 := Nat.le_succ_of_le h
theorem sn {α : Type} {a : α} {p : Prop} (h : some a = none) : p := nomatch h
theorem ns {α : Type} {a : α} {p : Prop} (h : none = some a) : p := nomatch h
theorem tf {p : Prop} (h : true = false) : p := nomatch h
theorem ft {p : Prop} (h : false = true) : p := nomatch h
noncomputable def er : Value -> Value
 | .int i _ => .int i 0
 | .str s _ => .str s 0
 | .float b _ => .float b 0
 | .bytes b _ => .bytes b 0
 | v => v
theorem zf {v : Value} {i : Int} (h : er v = .int i 0) : ∃ t, v = .int i t := by
 cases v <;> simp only [er, Value.int.injEq, reduceCtorEq, and_true] at h
 exact ⟨_, by rw [h]⟩
theorem zZ {v : Value} {x : Str} (h : er v = .str x 0) : ∃ t, v = .str x t := by
 cases v <;> simp only [er, Value.str.injEq, reduceCtorEq, and_true] at h
 exact ⟨_, by rw [h]⟩
theorem er_bool {v : Value} {b : Bool} (h : er v = .bool b) : v = .bool b := by
 cases v <;> simp only [er, reduceCtorEq] at h
 exact h
theorem er_none {v : Value} (h : er v = .none) : v = .none := by
 cases v <;> simp only [er, reduceCtorEq] at h
 rfl
theorem zH {v : Value} {a : Addr} (h : er v = .ref a) : v = .ref a := by
 cases v <;> simp only [er, reduceCtorEq] at h
 exact h
theorem er_builtin {v : Value} {a : String} (h : er v = .builtin a) : v = .builtin a := by
 cases v <;> simp only [er, reduceCtorEq] at h
 exact h
theorem er_type {v : Value} {a : String} (h : er v = .type a) : v = .type a := by
 cases v <;> simp only [er, reduceCtorEq] at h
 exact h
@[simp] theorem er_er (v : Value) : er (er v) = er v := by cases v <;> rfl
theorem letP {prog : Program} {w : World} {A : Around} {α : Type} {t : Sem α} {Q : α -> Shared -> Prop} {E : Value -> Shared -> Prop} {s : Shared} (h : let Q' : α -> Shared -> Prop := Q; wpAny (model prog w) A t Q' E s) : wpAny (model prog w) A t Q E s := h
set_option genInjectivity true in
inductive AO (N : Type) where
 | list (xs : List Value)
 | tup (xs : List Value)
 | dict (kvs : List (N × Value)) (ep : Nat)
 | set (S : N -> Bool) (n : Nat)
 | inst (C d : Addr)
 | ns (m : Str -> Option Value) (k : Nat)
 | slots (C d : Addr) (vs : List (Option Value))
 | raw (P : Obj -> Prop)
structure Gl (N : Type) [DecidableEq N] where
 prog : Program
 w : World
 knd : KeyKind prog w N
 K : Frag
 hU : Heap
 os : OsState
 mg : Str -> Option Value
 mb : Str -> Option Value
noncomputable def Is (g : Gl Str) (ob : Obj) : AO Str -> Prop
 | .list xs => ∃ arr n, ob = { cls := .type "list", data := .seq arr n } /\ arr.toList.map er = xs
 | .tup xs => ∃ arr n, ob = { cls := .type "tuple", data := .seq arr n } /\ arr.toList.map er = xs
 | .dict kvs ep => ∃ es ks, ob.ExactDict /\ ob.data = .dict es ep /\ KeysOf g.knd es /\ Pairs g.knd es.toList ks /\ (ks.map (·.1)).Nodup /\ ks.map (fun p => (p.1, er p.2)) = kvs
 | .set S n => ∃ es ep t, ob.ExactSet /\ ob.data = .set es ep t /\ ElemsOf g.knd es.toList /\ (∀ k, S k = true ↔ ∃ e ∈ es.toList, g.knd.is k e.2 = true) /\ es.size < scanBound /\ t.fits es.size = true /\ es.size = n
 | .inst C d => ob = { cls := .ref C, dict := some d, data := .plain }
 | .ns m k => ∃ es ep, ob = dictOf es ep /\ StrKeys es.toArray /\ (∀ x, (nsFind es.toArray x).map er = m x) /\ es.length ≤ k
 | .slots C d vs => ∃ sl, ob = { cls := .ref C, dict := some d, data := .plain, slots := sl } /\ sl.toList.map (·.map er) = vs
 | .raw P => P ob
structure Gl.Ok (g : Gl Str) : Prop where
 k : g.K.In g.hU
 gl : g.hU.Ns mainGlobals g.mg
 bl : g.hU.Ns builtinsNs g.mb
 bi : ∀ x : Str, x ≠ "__name__" -> g.mb x = bootBuiltins x
 lim : g.hU.NoLimit
 tr : ∃ p loose, TopRead p loose g.mg g.mb g.hU
structure Ac where
 A : Around
 env : Env
 ext : Str -> Bool := fun _ => false
noncomputable def Ac.Own (c : Ac) (x : Str) : Prop := c.env.kindOf x = some .cell /\ c.ext x = false
noncomputable def Ac.Deep (c : Ac) (n : Nat) : Prop := c.A.depth + 4 * n + 20 < recursionLimit /\ c.A.units + 20 * n + 100 < cLine
structure Ac.Ok (c : Ac) : Prop where
 kind : c.env.scope.kind = .function
 gl : c.env.globals = mainGlobals
 bl : c.env.builtins = builtinsNs
 hd : c.A.handled = none
 deep : c.Deep 0
 cells : ∀ x, c.env.kindOf x = some .cell -> ∃ a, c.env.cells.lookup x = some a
 frees : ∀ x, c.env.kindOf x = some .free -> c.ext x = true /\ ∃ a, c.env.cells.lookup x = some a
structure Hid where
 objs : Addr -> Option Obj
 gens : List (Nat × GenState)
structure St (N : Type) where
 m : Str -> Option Value
 σ : Addr -> Option (AO N)
noncomputable def setv (m : Str -> Option Value) (x : Str) (v : Value) : Str -> Option Value := fun y => if y = x then some v else m y
noncomputable def upd (σ : Addr -> Option (AO Str)) (a : Addr) (o : AO Str) : Addr -> Option (AO Str) := fun b => if b = a then some o else σ b
structure Rel (g : Gl Str) (c : Ac) (H : Hid) (S : St Str) (s : Shared) : Prop where
 ok : g.Ok
 ac : c.Ok
 above : g.hU.objs.size ≤ c.env.locals
 keep : ∀ b o, g.hU.get? b = some o -> s.heap.get? b = some o
 os : s.os = g.os
 bare : AllBare s.gens
 gen : ∀ p ∈ H.gens, s.gens[p.1]? = some p.2
 hid : ∀ a o, H.objs a = some o -> s.heap.get? a = some o
 loc : ∃ m, s.heap.Ns c.env.locals m /\ ∀ x v, S.m x = some v -> c.env.kindOf x = some .local -> ∃ u, m x = some u /\ er u = v
 cel : ∀ x a, c.env.cells.lookup x = some a -> c.Own x -> ∃ u, s.heap.IsCell a u /\ ∀ v, S.m x = some v -> u.map er = some v
 inj : ∀ x y a, c.env.cells.lookup x = some a -> c.env.cells.lookup y = some a -> c.Own x -> c.Own y -> x = y
 fre : ∀ x a, c.env.cells.lookup x = some a -> c.ext x = true -> ∀ v, S.m x = some v -> ∃ ob u, H.objs a = some ob /\ ob.data = .cell (some u) /\ er u = v
 sto : ∀ a o, S.σ a = some o -> ∃ ob, s.heap.get? a = some ob /\ Is g ob o
 role : ∃ ρ : Addr -> Nat, (∀ b o, g.hU.get? b = some o -> ρ b = 0) /\ ρ c.env.locals = 1 /\ (∀ x a, c.env.cells.lookup x = some a -> c.Own x -> ρ a = 2) /\
  (∀ a o, H.objs a = some o -> ρ a = 3) /\ ∀ a o, S.σ a = some o -> ρ a = 4
namespace Rel
variable {g : Gl Str} {c : Ac} {H : Hid} {S : St Str} {s : Shared}
theorem ne {a b : Addr} {ρ : Addr -> Nat} {i j : Nat} (ha : ρ a = i) (hb : ρ b = j) (h : i ≠ j := by decide) : a ≠ b := fun e => h (by rw [← ha, ← hb, e])
theorem grow (R : Rel g c H S s) {h' : Heap} {tk : Tok} (hk : ∀ b o, s.heap.get? b = some o -> h'.get? b = some o) : Rel g c H S { s with heap := h', toks := tk } where
 ok := R.ok
 ac := R.ac
 above := R.above
 keep b o e := hk b o (R.keep b o e)
 os := R.os
 bare := R.bare
 gen := R.gen
 hid a o e := hk _ _ (R.hid a o e)
 loc := let ⟨m, hn, hm⟩ := R.loc; ⟨m, hn.keeps hk, hm⟩
 cel x a h1 h2 := let ⟨u, hu, hv⟩ := R.cel x a h1 h2; ⟨u, hu.keeps hk, hv⟩
 inj := R.inj
 fre := R.fre
 sto a o e := let ⟨ob, h1, h2⟩ := R.sto a o e; ⟨ob, hk _ _ h1, h2⟩
 role := R.role
theorem toks (R : Rel g c H S s) {tk : Tok} : Rel g c H S { s with toks := tk } := R.grow (fun _ _ e => e)
theorem le (R : Rel g c H S s) {S' : St Str} (hm : ∀ x v, S'.m x = some v -> S.m x = some v) (hs : ∀ a o, S'.σ a = some o -> S.σ a = some o) : Rel g c H S' s where
 ok := R.ok
 ac := R.ac
 above := R.above
 keep := R.keep
 os := R.os
 bare := R.bare
 gen := R.gen
 hid := R.hid
 loc := let ⟨m, hn, h⟩ := R.loc; ⟨m, hn, fun x v e => h x v (hm x v e)⟩
 cel x a h1 h2 := let ⟨u, hu, hv⟩ := R.cel x a h1 h2; ⟨u, hu, fun v e => hv v (hm x v e)⟩
 inj := R.inj
 fre x a h1 h2 v e := R.fre x a h1 h2 v (hm x v e)
 sto a o e := R.sto a o (hs a o e)
 role := let ⟨ρ, r0, r1, r2, r3, r4⟩ := R.role; ⟨ρ, r0, r1, r2, r3, fun a o e => r4 a o (hs a o e)⟩
theorem add (R : Rel g c H S s) {h' : Heap} {tk : Tok} {a : Addr} {ob : Obj} {o : AO Str} (hk : Heap.ExtBut a s.heap h') (ha : s.heap.get? a = none) (hn : h'.get? a = some ob) (hi : Is g ob o) :
  S.σ a = none /\ Rel g c H ⟨S.m, upd S.σ a o⟩ { s with heap := h', toks := tk } := by
 have hk' : ∀ b o, s.heap.get? b = some o -> h'.get? b = some o := fun b o e => hk b o (by rintro rfl; rw [ha] at e; exact Mine.ns e) e
 have none : S.σ a = none := by
  cases q : S.σ a with
  | none => rfl
  | some o' => (refine zB (R.sto a o' q) ?_; intro ob' e _); rw [ha] at e; exact Mine.ns e
 have R' := R.grow (tk := tk) hk'
 refine ⟨none, { R' with sto := ?_, role := ?_ }⟩
 ·intro b o' e
  unfold upd at e
  dsimp only at e
  split at e
  ·rename_i hb; subst hb; (replace e := Option.some.inj e; subst e); exact ⟨ob, hn, hi⟩
  exact R'.sto b o' e
 refine zK R.role ?_; intro ρ r0 r1 r2 r3 r4
 have nz : ∀ b o, s.heap.get? b = some o -> b ≠ a := fun b o e q => by rw [q, ha] at e; exact Mine.ns e
 refine ⟨fun b => if b = a then 4 else ρ b, fun b o e => ?_, ?_, fun x b h1 h2 => ?_, fun b o e => ?_, fun b o' e => ?_⟩
 ·dsimp only; rw [if_neg (nz b o (R.keep b o e))]; exact r0 b o e
 ·dsimp only; (refine zB R.loc ?_; intro m hm _)
  refine el_EEEA hm ?_; (try clear hm); intro oL _ _ hL _
  rw [if_neg (nz _ _ hL)]; exact r1
 ·(refine zB (R.cel x b h1 h2) ?_; intro u nn_84 _; obtain ⟨oc, hc, _⟩ := nn_84)
  dsimp only; rw [if_neg (nz _ _ hc)]; exact r2 x b h1 h2
 ·dsimp only; rw [if_neg (nz _ _ (R.hid b o e))]; exact r3 b o e
 by_cases hb : b = a
 ·dsimp only; rw [if_pos hb]
 dsimp only; rw [if_neg hb]
 refine r4 b o' ?_
 unfold upd at e
 dsimp only at e
 rwa [if_neg hb] at e
theorem put (R : Rel g c H S s) {h' : Heap} {tk : Tok} {a : Addr} {ob : Obj} {o0 o : AO Str} (hk : Heap.ExtBut a s.heap h') (ha : S.σ a = some o0) (hn : h'.get? a = some ob) (hi : Is g ob o) :
  Rel g c H ⟨S.m, upd S.σ a o⟩ { s with heap := h', toks := tk } := by
 refine zK R.role ?_; intro ρ r0 r1 r2 r3 r4
 have ra := r4 a _ ha
 refine { ok := R.ok, ac := R.ac, above := R.above, os := R.os, bare := R.bare, gen := R.gen, inj := R.inj, keep := ?_, hid := ?_, loc := ?_, cel := ?_, fre := R.fre, sto := ?_, role := ?_ }
 ·exact fun b o e => hk b o (ne (r0 b o e) ra) (R.keep b o e)
 ·exact fun b o e => hk _ _ (ne (r3 b o e) ra) (R.hid b o e)
 ·(refine zB R.loc ?_; intro m hm hv)
  exact ⟨m, hm.extBut hk (ne r1 ra), hv⟩
 ·intro x b h1 h2
  refine zB (R.cel x b h1 h2) ?_; intro u nn_83 hv; obtain ⟨oc, hc, hd⟩ := nn_83
  exact ⟨u, ⟨oc, hk _ _ (ne (r2 x b h1 h2) ra) hc, hd⟩, hv⟩
 ·intro b o' e
  unfold upd at e
  dsimp only at e
  split at e
  ·rename_i hb; subst hb; (replace e := Option.some.inj e; subst e); exact ⟨ob, hn, hi⟩
  rename_i hb
  refine zB (R.sto b o' e) ?_; intro ob' h1 h2
  exact ⟨ob', hk _ _ hb h1, h2⟩
 refine ⟨ρ, r0, r1, r2, r3, fun b o' e => ?_⟩
 unfold upd at e
 dsimp only at e
 split at e
 ·rename_i hb; subst hb; exact ra
 exact r4 b o' e
theorem setLoc (R : Rel g c H S s) {h' : Heap} {tk : Tok} {x : Str} {v : Value} {m : Str -> Option Value}
  (hv : ∀ x v, S.m x = some v -> c.env.kindOf x = some .local -> ∃ u, m x = some u /\ er u = v) (hx : c.env.kindOf x = some .local) (hxe : c.ext x = false)
  (hn : h'.Ns c.env.locals (fun y => if y = x then some v else m y)) (hk : Heap.SameBut c.env.locals s.heap h') :
  Rel g c H ⟨setv S.m x (er v), S.σ⟩ { s with heap := h', toks := tk } := by
 refine zK R.role ?_; intro ρ r0 r1 r2 r3 r4
 have hk := hk.extBut
 refine { ok := R.ok, ac := R.ac, above := R.above, os := R.os, bare := R.bare, gen := R.gen, inj := R.inj, keep := ?_, hid := ?_, loc := ?_, cel := ?_, fre := ?_, sto := ?_, role := ⟨ρ, r0, r1, r2, r3, r4⟩ }
 ·exact fun b o e => hk b o (ne (r0 b o e) r1) (R.keep b o e)
 ·exact fun b o e => hk _ _ (ne (r3 b o e) r1) (R.hid b o e)
 ·refine ⟨_, hn, fun y u e hy => ?_⟩
  unfold setv at e
  dsimp only at e ⊢
  split at e
  ·rename_i hyx; subst hyx; (replace e := Option.some.inj e; subst e); exact ⟨v, by rw [if_pos rfl], rfl⟩
  rename_i hyx; rw [if_neg hyx]; exact hv y u e hy
 ·intro y b h1 h2
  refine zB (R.cel y b h1 h2) ?_; intro u nn_82 hu; obtain ⟨oc, hc, hd⟩ := nn_82
  refine ⟨u, ⟨oc, hk _ _ (ne (r2 y b h1 h2) r1) hc, hd⟩, fun w e => hu w ?_⟩
  unfold setv at e
  dsimp only at e
  rwa [if_neg (by rintro rfl; have := h2.1; rw [hx] at this; exact (nomatch this))] at e
 ·intro y b h1 h2 w e
  refine R.fre y b h1 h2 w ?_
  unfold setv at e
  dsimp only at e
  rwa [if_neg (by rintro rfl; rw [hxe] at h2; exact Mine.ft h2)] at e
 intro b o e
 refine zB (R.sto b o e) ?_; intro ob h1 h2
 exact ⟨ob, hk _ _ (ne (r4 b o e) r1) h1, h2⟩
theorem setCell (R : Rel g c H S s) {h' : Heap} {tk : Tok} {x : Str} {a : Addr} {v : Value} (hx : c.Own x) (ha : c.env.cells.lookup x = some a)
  (hn : h'.IsCell a (some v)) (hk : Heap.SameBut a s.heap h') : Rel g c H ⟨setv S.m x (er v), S.σ⟩ { s with heap := h', toks := tk } := by
 refine zK R.role ?_; intro ρ r0 r1 r2 r3 r4
 have hk := hk.extBut
 have ra := r2 x a ha hx
 refine { ok := R.ok, ac := R.ac, above := R.above, os := R.os, bare := R.bare, gen := R.gen, inj := R.inj, keep := ?_, hid := ?_, loc := ?_, cel := ?_, fre := ?_, sto := ?_, role := ⟨ρ, r0, r1, r2, r3, r4⟩ }
 ·exact fun b o e => hk b o (ne (r0 b o e) ra) (R.keep b o e)
 ·exact fun b o e => hk _ _ (ne (r3 b o e) ra) (R.hid b o e)
 ·(refine zB R.loc ?_; intro m hm hv)
  refine ⟨m, hm.extBut hk (ne r1 ra), fun y u e hy => hv y u ?_ hy⟩
  unfold setv at e
  dsimp only at e
  rwa [if_neg (by rintro rfl; rw [hx.1] at hy; exact (nomatch hy))] at e
 ·intro y b h1 h2
  by_cases hy : y = x
  ·subst hy
   obtain rfl : a = b := Option.some.inj (ha.symm.trans h1)
   refine ⟨some v, hn, fun w e => ?_⟩
   unfold setv at e
   dsimp only at e
   rw [if_pos rfl] at e
   exact e
  refine zB (R.cel y b h1 h2) ?_; intro u nn_81 hu; obtain ⟨oc, hc, hd⟩ := nn_81
  refine ⟨u, ⟨oc, hk _ _ (fun q => hy (R.inj y x a (q ▸ h1) ha h2 hx)) hc, hd⟩, fun w e => hu w ?_⟩
  unfold setv at e
  dsimp only at e
  rwa [if_neg hy] at e
 ·intro y b h1 h2 w e
  refine R.fre y b h1 h2 w ?_
  unfold setv at e
  dsimp only at e
  rwa [if_neg (by rintro rfl; rw [hx.2] at h2; exact Mine.ft h2)] at e
 intro b o e
 refine zB (R.sto b o e) ?_; intro ob h1 h2
 exact ⟨ob, hk _ _ (ne (r4 b o e) ra) h1, h2⟩
theorem hide (R : Rel g c H S s) {h' : Heap} {tk : Tok} {a : Addr} {ob : Obj} (hk : Heap.ExtBut a s.heap h') (ha : s.heap.get? a = none) (hn : h'.get? a = some ob) :
  Rel g c ⟨fun b => if b = a then some ob else H.objs b, H.gens⟩ S { s with heap := h', toks := tk } := by
 have hk' : ∀ b o, s.heap.get? b = some o -> h'.get? b = some o := fun b o e => hk b o (by rintro rfl; rw [ha] at e; exact Mine.ns e) e
 have R' := R.grow (tk := tk) hk'
 have nz : ∀ b o, s.heap.get? b = some o -> b ≠ a := fun b o e q => by rw [q, ha] at e; exact Mine.ns e
 refine { ok := R.ok, ac := R.ac, above := R.above, os := R.os, bare := R.bare, gen := R.gen, inj := R.inj, keep := R'.keep, hid := ?_, loc := R'.loc, cel := R'.cel, fre := ?_, sto := R'.sto, role := ?_ }
 ·intro b o e
  dsimp only at e
  split at e
  ·rename_i hb; subst hb; (replace e := Option.some.inj e; subst e); exact hn
  exact R'.hid b o e
 ·intro x b h1 h2 v e
  refine zg (R.fre x b h1 h2 v e) ?_; intro ob' u h3 r
  refine ⟨ob', u, ?_, r⟩
  dsimp only
  rw [if_neg (nz _ _ (R.hid _ _ h3))]; exact h3
 refine zK R.role ?_; intro ρ r0 r1 r2 r3 r4
 refine ⟨fun b => if b = a then 3 else ρ b, fun b o e => ?_, ?_, fun x b h1 h2 => ?_, fun b o e => ?_, fun b o' e => ?_⟩
 ·dsimp only; rw [if_neg (nz b o (R.keep b o e))]; exact r0 b o e
 ·dsimp only; (refine zB R.loc ?_; intro m hm _)
  refine el_EEEA hm ?_; (try clear hm); intro oL _ _ hL _
  rw [if_neg (nz _ _ hL)]; exact r1
 ·(refine zB (R.cel x b h1 h2) ?_; intro u nn_80 _; obtain ⟨oc, hc, _⟩ := nn_80)
  dsimp only; rw [if_neg (nz _ _ hc)]; exact r2 x b h1 h2
 ·dsimp only at e ⊢
  split at e
  ·rename_i hb; rw [if_pos hb]
  rename_i hb; rw [if_neg hb]; exact r3 b o e
 refine zB (R.sto b o' e) ?_; intro ob' h1 _
 dsimp only; rw [if_neg (nz _ _ h1)]; exact r4 b o' e
theorem turn {a : Addr} {ob ob' : Obj} (R : Rel g c H S s) (ha : H.objs a = some ob) {h' : Heap} {tk : Tok} (hk : Heap.ExtBut a s.heap h') (hn : h'.get? a = some ob')
  (hc : ∀ u, ob.data = .cell u -> False) : Rel g c ⟨fun b => if b = a then some ob' else H.objs b, H.gens⟩ S { s with heap := h', toks := tk } := by
 refine zK R.role ?_; intro ρ r0 r1 r2 r3 r4
 have ra := r3 _ _ ha
 refine { ok := R.ok, ac := R.ac, above := R.above, os := R.os, bare := R.bare, gen := R.gen, inj := R.inj, keep := ?_, hid := ?_, loc := ?_, cel := ?_, fre := ?_, sto := ?_, role := ⟨ρ, r0, r1, r2, fun b o e => ?_, r4⟩ }
 ·exact fun b o e => hk b o (ne (r0 b o e) ra) (R.keep b o e)
 ·intro b o e
  dsimp only at e
  split at e
  ·rename_i hb; subst hb; (replace e := Option.some.inj e; subst e); exact hn
  rename_i hb; exact hk _ _ hb (R.hid b o e)
 ·(refine zB R.loc ?_; intro m hm hv)
  exact ⟨m, hm.extBut hk (ne r1 ra), hv⟩
 ·intro y b h1 h2
  refine zB (R.cel y b h1 h2) ?_; intro u nn_79 hu; obtain ⟨oc, hc, hd⟩ := nn_79
  exact ⟨u, ⟨oc, hk _ _ (ne (r2 y b h1 h2) ra) hc, hd⟩, hu⟩
 ·intro y b h1 h2 w e
  refine zD (R.fre y b h1 h2 w e) ?_; intro ob1 u h3 h4 h5
  refine ⟨ob1, u, ?_, h4, h5⟩
  dsimp only
  rw [if_neg (by rintro rfl; rw [ha] at h3; (replace h3 := Option.some.inj h3; subst h3); exact hc _ h4)]; exact h3
 ·intro b o e
  refine zB (R.sto b o e) ?_; intro ob h1 h2
  exact ⟨ob, hk _ _ (ne (r4 b o e) ra) h1, h2⟩
 dsimp only at e
 split at e
 ·rename_i hb; subst hb; exact ra
 exact r3 b o e
theorem drop {H' : Hid} (R : Rel g c H S s) (h : ∀ a o, H'.objs a = some o -> H.objs a = some o) (hg : ∀ p ∈ H'.gens, p ∈ H.gens) (hc : ∀ a ob u, H.objs a = some ob -> ob.data = .cell u -> H'.objs a = some ob) : Rel g c H' S s where
 ok := R.ok
 ac := R.ac
 above := R.above
 keep := R.keep
 os := R.os
 bare := R.bare
 gen p hp := R.gen p (hg p hp)
 hid a o e := R.hid a o (h a o e)
 loc := R.loc
 cel := R.cel
 inj := R.inj
 fre x a h1 h2 v e := by
  refine zD (R.fre x a h1 h2 v e) ?_; intro ob u h3 h4 h5
  exact ⟨ob, u, hc _ _ _ h3 h4, h4, h5⟩
 sto := R.sto
 role := let ⟨ρ, r0, r1, r2, r3, r4⟩ := R.role; ⟨ρ, r0, r1, r2, fun a o e => r3 a o (h a o e), r4⟩
theorem in_K (R : Rel g c H S s) : g.K.In s.heap := fun a o e => R.keep a o (R.ok.k a o e)
theorem nolimit (R : Rel g c H S s) : s.heap.NoLimit := R.ok.lim.keeps R.keep
theorem room (R : Rel g c H S s) : c.A.depth < recursionLimit := by have := R.ac.deep.1; exact om09 ‹_›
end Rel
variable {g : Gl Str} {c : Ac} {S S' : St Str} {Q : Value -> St Str -> Prop} {a b : Addr} {xs ys : List Value}
noncomputable def erF : Flow -> Flow
 | .ret v => .ret (er v)
 | f => f
theorem goK {g : Gl Str} {c : Ac} {H : Hid} {A : Around} {α : Type} {t : Sem α} {Q : α -> St Str -> Prop} {P : α -> Shared -> Prop} {E : Value -> Shared -> Prop} {s : Shared} (h : wpAny (model g.prog g.w) A t (fun u s1 => ∃ S1, Rel g c H S1 s1 /\ Q u S1) (fun _ _ => False) s) (k : ∀ u s1 S1, Rel g c H S1 s1 -> Q u S1 -> P u s1) : wpAny (model g.prog g.w) A t P E s :=
 wpAny_mono h (fun u s1 q => q.elim fun S1 q => k u s1 S1 q.1 q.2) fun _ _ x => x.elim
noncomputable def WM (g : Gl Str) (c : Ac) {α : Type} (t : Sem α) (S : St Str) (Q : α -> St Str -> Prop) : Prop :=
 ∀ H s, Rel g c H S s -> wpAny (model g.prog g.w) c.A t (fun a s' => ∃ S', Rel g c H S' s' /\ Q a S') (fun _ _ => False) s
noncomputable def WE (g : Gl Str) (c : Ac) (e : Expr) (S : St Str) (Q : Value -> St Str -> Prop) : Prop := WM g c (eval e c.env) S fun v S' => Q (er v) S'
noncomputable def WT (g : Gl Str) (c : Ac) (e : Expr) (S : St Str) (Q : Bool -> St Str -> Prop) : Prop := WM g c (isTrue e c.env (eval e c.env)) S Q
noncomputable def WX (g : Gl Str) (c : Ac) (st : Stmt) (S : St Str) (Q : Flow -> St Str -> Prop) : Prop := WM g c (exec st c.env) S fun f S' => Q (erF f) S'
noncomputable def WXs (g : Gl Str) (c : Ac) (ss : List Stmt) (S : St Str) (Q : Flow -> St Str -> Prop) : Prop := WM g c (execs ss c.env) S fun f S' => Q (erF f) S'
noncomputable def WV1 (g : Gl Str) (c : Ac) (t : Value -> Sem Value) (a : Value) (S : St Str) (Q : Value -> St Str -> Prop) : Prop :=
 ∀ u, er u = a -> WM g c (t u) S fun v S' => Q (er v) S'
noncomputable def WV2 (g : Gl Str) (c : Ac) (t : Value -> Value -> Sem Value) (a b : Value) (S : St Str) (Q : Value -> St Str -> Prop) : Prop :=
 ∀ u v, er u = a -> er v = b -> WM g c (t u v) S fun v S' => Q (er v) S'
noncomputable def WBin (g : Gl Str) (c : Ac) (op : Operator) (a b : Value) (S : St Str) (Q : Value -> St Str -> Prop) : Prop := WV2 g c (binaryOp op) a b S Q
noncomputable def WIn (g : Gl Str) (c : Ac) (op : Operator) (a b : Value) (S : St Str) (Q : Value -> St Str -> Prop) : Prop := WV2 g c (inplaceOp op) a b S Q
noncomputable def WCmp (g : Gl Str) (c : Ac) (op : CmpOp) (a b : Value) (S : St Str) (Q : Value -> St Str -> Prop) : Prop := WV2 g c (compareOp op) a b S Q
noncomputable def WUn (g : Gl Str) (c : Ac) (op : UnaryOp) (a : Value) (S : St Str) (Q : Value -> St Str -> Prop) : Prop := WV1 g c (unaryOp op) a S Q
noncomputable def WTr (g : Gl Str) (c : Ac) (a : Value) (S : St Str) (Q : Bool -> St Str -> Prop) : Prop := ∀ u, er u = a -> WM g c (truthy u) S Q
noncomputable def WItem (g : Gl Str) (c : Ac) (a b : Value) (S : St Str) (Q : Value -> St Str -> Prop) : Prop := WV2 g c getItem a b S Q
noncomputable def WStore (g : Gl Str) (c : Ac) (x : Str) (a : Value) (S : St Str) (Q : St Str -> Prop) : Prop := ∀ u, er u = a -> WM g c (storeName c.env x u) S fun _ S' => Q S'
noncomputable def WAsg (g : Gl Str) (c : Ac) (t : Expr) (a : Value) (S : St Str) (Q : St Str -> Prop) : Prop := ∀ u, er u = a -> WM g c (assign t c.env u) S fun _ S' => Q S'
noncomputable def WSetItem (g : Gl Str) (c : Ac) (o i v : Value) (S : St Str) (Q : St Str -> Prop) : Prop := ∀ u j w, er u = o -> er j = i -> er w = v -> WM g c (setItem u j w) S fun _ S' => Q S'
noncomputable def WGet (g : Gl Str) (c : Ac) (o : Value) (x : Str) (S : St Str) (Q : Value -> St Str -> Prop) : Prop := ∀ u b, er u = o -> WM g c (getAttr u x b) S fun v S' => Q (er v) S'
noncomputable def WSet (g : Gl Str) (c : Ac) (o : Value) (x : Str) (v : Value) (S : St Str) (Q : St Str -> Prop) : Prop := ∀ u w, er u = o -> er w = v -> WM g c (setAttr u x w) S fun _ S' => Q S'
noncomputable def WC (g : Gl Str) (c : Ac) (f : Value) (as : List Value) (S : St Str) (Q : Value -> St Str -> Prop) : Prop :=
 ∀ us, us.map er = as -> WM g c (call f us) S fun v S' => Q (er v) S'
theorem WM.mono {α : Type} {t : Sem α} {Q Q' : α -> St Str -> Prop} (h : WM g c t S Q) (hQ : ∀ a S', Q a S' -> Q' a S') : WM g c t S Q' :=
 fun H s R => goK (h H s R) (fun _ _ S' R' q => ⟨S', R', hQ _ _ q⟩)
theorem WM.le {α : Type} {t : Sem α} {Q : α -> St Str -> Prop} (h : WM g c t S' Q) (hm : ∀ x v, S'.m x = some v -> S.m x = some v) (hs : ∀ a o, S'.σ a = some o -> S.σ a = some o) : WM g c t S Q :=
 fun H s R => h H s (R.le hm hs)
structure Le (S' S : St Str) : Prop where
 m : ∀ x v, S'.m x = some v -> S.m x = some v
 s : ∀ a o, S'.σ a = some o -> S.σ a = some o
theorem Le.refl (S : St Str) : Le S S := ⟨fun _ _ e => e, fun _ _ e => e⟩
theorem WXs.le {ss : List Stmt} {Q : Flow -> St Str -> Prop} (h : WXs g c ss S' Q) (l : Le S' S) : WXs g c ss S Q := WM.le h l.m l.s
theorem WX.le {ss : Stmt} {Q : Flow -> St Str -> Prop} (h : WX g c ss S' Q) (l : Le S' S) : WX g c ss S Q := WM.le h l.m l.s
theorem WE.le {ss : Expr} {Q : Value -> St Str -> Prop} (h : WE g c ss S' Q) (l : Le S' S) : WE g c ss S Q := WM.le h l.m l.s
theorem WE.mono {e : Expr} {Q Q' : Value -> St Str -> Prop} (h : WE g c e S Q) (hQ : ∀ a S', Q a S' -> Q' a S') : WE g c e S Q' := WM.mono h fun a S' q => hQ (er a) S' q
theorem Rel.name {H : Hid} {s : Shared} (R : Rel g c H S s) {x : Str} {v : Value} {E P : Value -> Shared -> Prop} (hv : S.m x = some v)
  (hk : c.env.kindOf x = some .local ∨ c.env.kindOf x = some .cell ∨ c.env.kindOf x = some .free) (hn : (x == ("__classdict__" : Str)) = false) (h : ∀ u, er u = v -> P u s) :
  wpAny (model g.prog g.w) c.A (loadName c.env x) P E s := by
 rcases hk with hk | hk | hk
 ·(refine zB R.loc ?_; intro m hm hl)
  refine zB (hl x v hv hk) ?_; intro u hu he
  exact wpAny_loadName_local R.ac.kind hk hm hu (h u he)
 ·(refine zI (R.ac.cells x hk) ?_; intro a ha)
  cases hx : c.ext x with
  | false =>
   refine zB (R.cel x a ha ⟨hk, hx⟩) ?_; intro u hu he
   have := he v hv
   cases u with
   | none => exact Mine.ns this
   | some u => exact wpAny_loadName_cell R.ac.kind hk ha hu (h u (Option.some.inj this))
  | true =>
   refine zD (R.fre x a ha hx v hv) ?_; intro ob u hm hd he
   exact wpAny_loadName_cell R.ac.kind hk ha ⟨ob, R.hid _ _ hm, hd⟩ (h u he)
 refine el_AE (R.ac.frees x hk) ?_; intro hx a ha
 refine zD (R.fre x a ha hx v hv) ?_; intro ob u hm hd he
 exact wpAny_loadName_free R.ac.kind hk ha ⟨ob, R.hid _ _ hm, hd⟩ (h u he) hn
noncomputable def isVar (sc : Scope) (x : Str) : Bool := (match sc.names.lookup x with | some .local => true | some .cell => true | some .free => true | _ => false) && !(x == ("__debug__" : Str)) && !(x == ("__classdict__" : Str))
noncomputable def isOwn (sc : Scope) (x : Str) : Bool := match sc.names.lookup x with | some .local => true | some .cell => true | _ => false
noncomputable def isGlob (sc : Scope) (x : Str) : Bool := (match sc.names.lookup x with | some .globalImplicit => true | _ => false) && !(x == ("__debug__" : Str))
theorem isVar_kind {sc : Scope} {x : Str} (h : isVar sc x = true) : (sc.names.lookup x = some .local ∨ sc.names.lookup x = some .cell ∨ sc.names.lookup x = some .free) /\ (x == ("__debug__" : Str)) = false /\ (x == ("__classdict__" : Str)) = false := by
 unfold isVar at h
 simp only [Bool.and_eq_true, Bool.not_eq_true'] at h
 refine ⟨?_, h.1.2, h.2⟩
 have := h.1.1
 split at this <;> simp_all
theorem WE_Name {x : Str} {pos : Pos} {v : Value} {Q : Value -> St Str -> Prop} (hk : isVar c.env.scope x = true) (hv : S.m x = some v) (h : Q v S) : WE g c (.Name x pos) S Q := by
 intro H s R
 o_shape
 refine el_AA (isVar_kind hk) ?_; intro k h1 h2
 exact wpAny_Name (R.name hv k h2 fun u hu => ⟨S, R, by show Q (er u) S; rw [hu]; exact h⟩) h1
theorem W_load {x : Str} {v : Value} {Q : Value -> St Str -> Prop} (hk : isVar c.env.scope x = true) (hv : S.m x = some v) (h : Q v S) : WM g c (loadName c.env x) S fun v S' => Q (er v) S' := by
 intro H s R
 o_shape
 refine el_AA (isVar_kind hk) ?_; intro k h1 h2
 exact R.name hv k h2 fun u hu => ⟨S, R, by show Q (er u) S; rw [hu]; exact h⟩
theorem isGlob_kind {sc : Scope} {x : Str} (h : isGlob sc x = true) : sc.names.lookup x = some .globalImplicit /\ (x == ("__debug__" : Str)) = false := by
 unfold isGlob at h
 simp only [Bool.and_eq_true, Bool.not_eq_true'] at h
 refine ⟨?_, h.2⟩
 have := h.1
 split at this <;> simp_all
theorem WE_Glob {x : Str} {pos : Pos} {v : Value} {Q : Value -> St Str -> Prop} (hk : isGlob c.env.scope x = true) (hv : nsIn g.K mainGlobals x = some (some v)) (h : Q (er v) S) : WE g c (.Name x pos) S Q := by
 intro H s R
 o_shape
 refine zL (isGlob_kind hk) ?_; intro k h1
 refine Name_function_global R.ac.kind k (loadGlobal_global (by rw [R.ac.gl]; exact R.ok.gl.keeps R.keep) (mg_of R.ok.k R.ok.gl hv) ⟨S, R, h⟩) h1
theorem WE_Built {x : Str} {pos : Pos} {v : Value} {Q : Value -> St Str -> Prop} (hk : isGlob c.env.scope x = true) (hv : nsIn g.K mainGlobals x = some none) (hb : bootBuiltins x = some v) (hx : x ≠ "__name__") (h : Q (er v) S) : WE g c (.Name x pos) S Q := by
 intro H s R
 o_shape
 refine zL (isGlob_kind hk) ?_; intro k h1
 refine Name_function_global R.ac.kind k (loadGlobal_builtin (by rw [R.ac.gl]; exact R.ok.gl.keeps R.keep) (mg_none_of R.ok.k R.ok.gl hv) (by rw [R.ac.bl]; exact R.ok.bl.keeps R.keep) ((R.ok.bi x hx).trans hb) ⟨S, R, h⟩) h1
theorem isOwn_kind {sc : Scope} {x : Str} (h : isOwn sc x = true) : sc.names.lookup x = some .local ∨ sc.names.lookup x = some .cell := by
 unfold isOwn at h
 split at h <;> simp_all
theorem W_Store {x : Str} {v : Value} {Q : St Str -> Prop} (hk : isOwn c.env.scope x = true) (hx : c.ext x = false) (h : Q ⟨setv S.m x v, S.σ⟩) : WStore g c x v S Q := by
 intro u hu H s R
 o_shape
 rcases isOwn_kind hk with k | k
 ·(refine zB R.loc ?_; intro m hm hl)
  refine wpAny_storeName_local k hm (fun h' hn hs => ?_) (by show (c.env.scope.kind == .class || (c.env.scope.kind == .module && c.env.locals != c.env.globals)) = false; rw [R.ac.kind]; rfl)
  refine ⟨⟨setv S.m x v, S.σ⟩, ?_, h⟩
  have := R.setLoc (tk := s.toks + 1) hl k hx hn hs
  rwa [hu] at this
 refine zI (R.ac.cells x k) ?_; intro a ha
 refine zB (R.cel x a ha ⟨k, hx⟩) ?_; intro u0 hu0 _
 refine wpAny_storeName_cell R.ac.kind k ha hu0 fun h' hn hs => ?_
 refine ⟨⟨setv S.m x v, S.σ⟩, ?_, h⟩
 have := R.setCell (tk := s.toks) ⟨k, hx⟩ ha hn hs
 rwa [hu] at this
theorem WE_int {i : Int} {k : Nat} {pos : Pos} {Q : Value -> St Str -> Prop} (h : Q (.int i 0) S) : WE g c (.Constant (.int i) k pos) S Q := fun _ _ R => wpAny_Constant_int ⟨S, R.toks, h⟩
theorem WE_str {x : Str} {k : Nat} {pos : Pos} {Q : Value -> St Str -> Prop} (h : Q (.str x 0) S) : WE g c (.Constant (.str x) k pos) S Q := fun _ _ R => wpAny_Constant_str ⟨S, R.toks, h⟩
theorem WE_none {k : Nat} {pos : Pos} {Q : Value -> St Str -> Prop} (h : Q .none S) : WE g c (.Constant .none k pos) S Q := fun _ _ R => wpAny_Constant_none ⟨S, R, h⟩
theorem WE_bool {b : Bool} {k : Nat} {pos : Pos} {Q : Value -> St Str -> Prop} (h : Q (.bool b) S) : WE g c (.Constant (.bool b) k pos) S Q := fun _ _ R => wpAny_Constant_bool ⟨S, R, h⟩
theorem WE_BinOp {l r : Expr} {op : Operator} {pos : Pos} {Q : Value -> St Str -> Prop} (h : WE g c l S fun a S1 => WE g c r S1 fun b S2 => WBin g c op a b S2 Q) : WE g c (.BinOp l op r pos) S Q :=
 fun H _ R => wpAny_BinOp (goK (h H _ R) (fun _ _ _ R1 hJ => goK (hJ H _ R1) (fun _ _ _ R2 hV => hV _ _ rfl rfl H _ R2)))
theorem WE_UnaryOp {x : Expr} {op : UnaryOp} {pos : Pos} {Q : Value -> St Str -> Prop} (h : WE g c x S fun a S1 => WUn g c op a S1 Q) : WE g c (.UnaryOp op x pos) S Q :=
 fun H _ R => wpAny_UnaryOp (goK (h H _ R) (fun _ _ _ R1 hJ => hJ _ rfl H _ R1))
theorem WE_Compare {l r : Expr} {op : CmpOp} {pos : Pos} {Q : Value -> St Str -> Prop} (hm : behindInMarks op r = false) (h : WE g c l S fun a S1 => WE g c r S1 fun b S2 => WCmp g c op a b S2 Q) : WE g c (.Compare l [op] [r] pos) S Q :=
 fun H _ R => wpAny_Compare1 (goK (h H _ R) (fun _ _ _ R1 hJ => goK (hJ H _ R1) (fun _ _ _ R2 hV => hV _ _ rfl rfl H _ R2))) hm
theorem WT_Compare {l r : Expr} {op : CmpOp} {pos : Pos} {Q : Bool -> St Str -> Prop} (hm : behindInMarks op r = false) (h : WE g c l S fun a S1 => WE g c r S1 fun b S2 => WCmp g c op a b S2 fun v S3 => WTr g c v S3 Q) : WT g c (.Compare l [op] [r] pos) S Q :=
 fun H _ R => wpAny_isTrue_Compare1 (goK (h H _ R) (fun _ _ _ R1 hJ => goK (hJ H _ R1) (fun _ _ _ R2 hV => goK (hV _ _ rfl rfl H _ R2) (fun _ _ _ R3 hW => hW _ rfl H _ R3)))) hm
theorem WT_value {e : Expr} {Q : Bool -> St Str -> Prop} (he : ∀ env whole, isTrue e env whole = (do let v ← whole; standAt e.pos; holding [v] (truthy v))) (h : WE g c e S fun a S1 => WTr g c a S1 Q) : WT g c e S Q :=
 fun H _ R => wpAny_isTrue_value (goK (h H _ R) (fun _ _ _ R1 hJ => hJ _ rfl H _ R1)) (he _ _)
theorem WT_Not {x : Expr} {pos : Pos} {Q : Bool -> St Str -> Prop} (h : WT g c x S fun b S1 => Q (!b) S1) : WT g c (.UnaryOp .Not x pos) S Q :=
 fun H _ R => wpAny_isTrue_Not (h H _ R)
theorem zP {b : Bool} {Q : Bool -> St Str -> Prop} (h : Q b S) : WTr g c (.bool b) S Q := by
 intro u hu H s R
 o_shape
 rw [er_bool hu]
 exact wpAny_truthy_bool ⟨S, R, h⟩
theorem WE_IfExp {t b o : Expr} {pos : Pos} {Q : Value -> St Str -> Prop} (h : WT g c t S fun x S1 => if x = true then WE g c b S1 Q else WE g c o S1 Q) : WE g c (.IfExp t b o pos) S Q := by
 intro H s R
 o_shape
 refine wpAny_IfExp (goK (h H _ R) (fun x s1 S1 R1 hJ => ?_))
 cases x
 ·exact hJ H _ R1
 exact hJ H _ R1
theorem WXs_nil {Q : Flow -> St Str -> Prop} (h : Q .next S) : WXs g c [] S Q := fun _ _ R => wpAny_execs_nil ⟨S, R, h⟩
noncomputable abbrev SeqQ (g : Gl Str) (c : Ac) (ss : List Stmt) (Q : Flow -> St Str -> Prop) (f : Flow) (S1 : St Str) : Prop := match f with | .next => WXs g c ss S1 Q | f => Q f S1
theorem WXs_cons {st : Stmt} {ss : List Stmt} {Q : Flow -> St Str -> Prop} (h : WX g c st S (SeqQ g c ss Q)) : WXs g c (st :: ss) S Q := by
 intro H s R
 o_shape
 refine wpAny_execs_cons (goK (h H _ R) (fun f s1 S1 R1 hJ => ?_))
 cases f with
 | next => exact hJ H _ R1
 | brk => exact ⟨S1, R1, hJ⟩
 | cont => exact ⟨S1, R1, hJ⟩
 | ret v => exact ⟨S1, R1, hJ⟩
theorem WX_If {t : Expr} {b o : List Stmt} {pos : Pos} {Q : Flow -> St Str -> Prop} (h : WT g c t S fun x S1 => if x = true then WXs g c b S1 Q else WXs g c o S1 Q) : WX g c (.If t b o pos) S Q := by
 intro H s R
 o_shape
 refine wpAny_If (goK (h H _ R) (fun x s1 S1 R1 hJ => ?_))
 cases x
 ·exact hJ H _ R1
 exact hJ H _ R1
theorem WX_Return {e : Expr} {pos : Pos} {Q : Flow -> St Str -> Prop} (h : WE g c e S fun v S1 => Q (.ret v) S1) : WX g c (.Return (some e) pos) S Q := fun H _ R => wpAny_Return_some (h H _ R)
theorem WX_Continue {pos : Pos} {Q : Flow -> St Str -> Prop} (h : Q .cont S) : WX g c (.Continue pos) S Q := fun _ _ R => wpAny_Continue ⟨S, R, h⟩
theorem WX_Break {pos : Pos} {Q : Flow -> St Str -> Prop} (h : Q .brk S) : WX g c (.Break pos) S Q := fun _ _ R => wpAny_Break ⟨S, R, h⟩
theorem WX_AssignName {x : Str} {p pos : Pos} {e : Expr} {Q : Flow -> St Str -> Prop} (hs : ∀ env, swapsWith e (some (.Name x p)) pos.line env = pure false) (h : WE g c e S fun v S1 => WStore g c x v S1 (Q .next)) : WX g c (.Assign [.Name x p] e pos) S Q :=
 fun H _ R => wpAny_Assign_Name (goK (h H _ R) (fun _ _ _ R1 hJ => hJ _ rfl H _ R1)) (hs _)
theorem WX_AssignSub {o i e : Expr} {p pos : Pos} {Q : Flow -> St Str -> Prop} (hs : ∀ env, swapsWith e (some (.Subscript o i p)) pos.line env = pure false)
  (h : WE g c e S fun v S1 => WE g c o S1 fun ov S2 => WE g c i S2 fun iv S3 => WSetItem g c ov iv v S3 (Q .next)) : WX g c (.Assign [.Subscript o i p] e pos) S Q :=
 fun H _ R => wpAny_Assign_Subscript (goK (h H _ R) (fun _ _ _ R1 hJ => goK (hJ H _ R1) (fun _ _ _ R2 hV => goK (hV H _ R2) (fun _ _ _ R3 hW => hW _ _ _ rfl rfl rfl H _ R3)))) (hs _)
theorem WX_AugName {x : Str} {p pos : Pos} {op : Operator} {e : Expr} {a : Value} {Q : Flow -> St Str -> Prop} (hk : isVar c.env.scope x = true) (hv : S.m x = some a)
  (h : WE g c e S fun b S2 => WIn g c op a b S2 fun r S3 => WStore g c x r S3 (Q .next)) : WX g c (.AugAssign (.Name x p) op e pos) S Q := by
 intro H s R
 o_shape
 refine wpAny_AugAssign_Name (goK (W_load (Q := fun v S1 => v = a /\ S1 = S) hk hv ⟨rfl, rfl⟩ H _ R) (fun u s1 S1 R1 q_ => ?_))
 refine zL q_ ?_; clear q_; intro hu ec
 subst ec
 exact goK (h H _ R1) (fun _ _ _ R2 hV => goK (hV _ _ hu rfl H _ R2) (fun _ _ _ R3 hW => hW _ rfl H _ R3))
theorem WX_AugAttr {o e : Expr} {x : Str} {p pos : Pos} {op : Operator} {Q : Flow -> St Str -> Prop}
  (h : WE g c o S fun ov S1 => WGet g c ov x S1 fun old S2 => WE g c e S2 fun b S3 => WIn g c op old b S3 fun r S4 => WSet g c ov x r S4 (Q .next)) : WX g c (.AugAssign (.Attribute o x p) op e pos) S Q :=
 fun H _ R => wpAny_AugAssign_AttributeAny (wpAny_mono (h H _ R) (fun _ _ ⟨_, R1, hJ⟩ => wpAny_mono (hJ _ _ rfl H _ R1) (fun _ _ ⟨_, R2, hV⟩ => wpAny_mono (hV H _ R2) (fun _ _ ⟨_, R3, hW⟩ =>
  goK (hW _ _ rfl rfl H _ R3) (fun _ _ _ R4 h₄ => h₄ _ _ rfl rfl H _ R4)) fun _ _ x => x) fun _ _ x => x) fun _ _ x => x)
theorem WX_AugSub {o i e : Expr} {p pos : Pos} {op : Operator} {Q : Flow -> St Str -> Prop}
  (hi : ∀ ov iv new, augStore i ov iv new = (do holding [new, ov, iv] (setItem ov iv new); release [new, ov, iv] []; pure .next))
  (h : WE g c o S fun ov S1 => WE g c i S1 fun iv S2 => WItem g c ov iv S2 fun old S3 => WE g c e S3 fun b S4 => WIn g c op old b S4 fun r S5 => WSetItem g c ov iv r S5 (Q .next)) : WX g c (.AugAssign (.Subscript o i p) op e pos) S Q :=
 fun H _ R => wpAny_AugAssign_SubscriptAny (wpAny_mono (h H _ R) (fun _ _ ⟨_, R1, hJ⟩ => wpAny_mono (hJ H _ R1) (fun _ _ ⟨_, R2, hV⟩ => wpAny_mono (hV _ _ rfl rfl H _ R2) (fun _ _ ⟨_, R3, hW⟩ =>
  goK (hW H _ R3) (fun _ _ _ R4 h₄ => goK (h₄ _ _ rfl rfl H _ R4) (fun _ _ _ R5 h₅ => h₅ _ _ _ rfl rfl rfl H _ R5))) fun _ _ x => x) fun _ _ x => x) fun _ _ x => x) hi
theorem WE_NamedExpr {x : Str} {p pos : Pos} {e : Expr} {Q : Value -> St Str -> Prop} (h : WE g c e S fun v S1 => WStore g c x v S1 fun S2 => Q v S2) : WE g c (.NamedExpr (.Name x p) e pos) S Q :=
 fun H _ R => wpAny_NamedExpr (goK (h H _ R) (fun _ _ _ R1 hJ => wpAny_assign_Name (hJ _ rfl H _ R1)))
theorem ze {x : Str} {p : Pos} {v : Value} {Q : St Str -> Prop} (h : WStore g c x v S Q) : WAsg g c (.Name x p) v S Q :=
 fun u hu H _ R => wpAny_assign_Name (h u hu H _ R)
section
variable {i j : Int} {Q : Value -> St Str -> Prop}
theorem WBin_of {op : Operator} {r : Int} (hr : ∀ (t u : Tok) (s : Shared) (P : Value -> Shared -> Prop) (E : Value -> Shared -> Prop), P (.int r s.toks) { s with toks := s.toks + 1 } -> wpAny (model g.prog g.w) c.A (binaryOp op (.int i t) (.int j u)) P E s)
  (h : Q (.int r 0) S) : WBin g c op (.int i 0) (.int j 0) S Q := by
 intro u v hu hv H s R
 o_shape
 refine zI (zf hu) ?_; intro t rfl_134; subst rfl_134
 refine zI (zf hv) ?_; intro t' rfl_133; subst rfl_133
 exact hr _ _ _ _ _ ⟨S, R.toks, h⟩
theorem WBin_add (h : Q (.int (i + j) 0) S) : WBin g c .Add (.int i 0) (.int j 0) S Q := WBin_of (fun _ _ _ _ _ h => add_int h) h
theorem WBin_sub (h : Q (.int (i - j) 0) S) : WBin g c .Sub (.int i 0) (.int j 0) S Q := WBin_of (fun _ _ _ _ _ h => sub_int h) h
theorem WBin_mul (hm : IntMulOk i j) (h : Q (.int (i * j) 0) S) : WBin g c .Mult (.int i 0) (.int j 0) S Q := WBin_of (fun _ _ _ _ _ h => mul_int h hm) h
theorem WBin_mod (hj : j ≠ 0) (h : Q (.int (i.fmod j) 0) S) : WBin g c .Mod (.int i 0) (.int j 0) S Q := WBin_of (fun _ _ _ _ _ h => mod_int hj h) h
theorem WBin_and (h : Q (.int (Builtin.bitAnd i j) 0) S) : WBin g c .BitAnd (.int i 0) (.int j 0) S Q := WBin_of (fun _ _ _ _ _ h => and_int h) h
theorem WBin_shr (hj : 0 ≤ j) (h : Q (.int (i.fdiv (2 ^ j.toNat)) 0) S) : WBin g c .RShift (.int i 0) (.int j 0) S Q := WBin_of (fun _ _ _ _ _ h => rshift_int hj h) h
theorem WBin_shl (hj : 0 ≤ j) (hj2 : j ≤ 1000000) (hi : i.natAbs < 2 ^ 64) (h : Q (.int (i * 2 ^ j.toNat) 0) S) : WBin g c .LShift (.int i 0) (.int j 0) S Q := WBin_of (fun _ _ _ _ _ h => lshift_int_small hj hj2 hi h) h
theorem WIn_add (h : Q (.int (i + j) 0) S) : WIn g c .Add (.int i 0) (.int j 0) S Q := by
 intro u v hu hv H s R
 o_shape
 refine zI (zf hu) ?_; intro t rfl_132; subst rfl_132
 refine zI (zf hv) ?_; intro t' rfl_131; subst rfl_131
 exact iadd_int ⟨S, R.toks, h⟩
theorem WCmp_of {op : CmpOp} {b : Bool} (hr : ∀ (t u : Tok) (s : Shared) (P : Value -> Shared -> Prop) (E : Value -> Shared -> Prop), P (.bool b) s -> wpAny (model g.prog g.w) c.A (compareOp op (.int i t) (.int j u)) P E s)
  (h : Q (.bool b) S) : WCmp g c op (.int i 0) (.int j 0) S Q := by
 intro u v hu hv H s R
 o_shape
 refine zI (zf hu) ?_; intro t rfl_130; subst rfl_130
 refine zI (zf hv) ?_; intro t' rfl_129; subst rfl_129
 exact hr _ _ _ _ _ ⟨S, R, h⟩
theorem WCmp_lt (h : Q (.bool (decide (i < j))) S) : WCmp g c .Lt (.int i 0) (.int j 0) S Q := WCmp_of (fun _ _ _ _ _ h => lt_int h) h
theorem WCmp_gt (h : Q (.bool (decide (j < i))) S) : WCmp g c .Gt (.int i 0) (.int j 0) S Q := WCmp_of (fun _ _ _ _ _ h => gt_int h) h
theorem WCmp_ge (h : Q (.bool (decide (j ≤ i))) S) : WCmp g c .GtE (.int i 0) (.int j 0) S Q := WCmp_of (fun _ _ _ _ _ h => ge_int h) h
theorem WCmp_eq (h : Q (.bool (i == j)) S) : WCmp g c .Eq (.int i 0) (.int j 0) S Q := WCmp_of (fun _ _ _ _ _ h => eq_int h) h
theorem WCmp_ne (h : Q (.bool (i != j)) S) : WCmp g c .NotEq (.int i 0) (.int j 0) S Q := WCmp_of (fun _ _ _ _ _ h => ne_int h) h
theorem WUn_neg (h : Q (.int (-i) 0) S) : WUn g c .USub (.int i 0) S Q := by
 intro u hu H s R
 o_shape
 refine zI (zf hu) ?_; intro t rfl_128; subst rfl_128
 exact neg_int ⟨S, R.toks, h⟩
end
section
variable {x y : Str} {Q : Value -> St Str -> Prop}
theorem WCmp_eqs (h : Q (.bool (x == y)) S) : WCmp g c .Eq (.str x 0) (.str y 0) S Q := by
 intro u v hu hv H s R
 o_shape
 refine zI (zZ hu) ?_; intro t rfl_127; subst rfl_127
 refine zI (zZ hv) ?_; intro t' rfl_126; subst rfl_126
 exact eq_str ⟨S, R, h⟩
theorem zi (hsz : x.length + y.length ≤ sizeLine) (h : Q (.str (x ++ y) 0) S) : WBin g c .Add (.str x 0) (.str y 0) S Q := by
 intro u v hu hv H s R
 o_shape
 refine zI (zZ hu) ?_; intro t rfl_123; subst rfl_123
 refine zI (zZ hv) ?_; intro t' rfl_122; subst rfl_122
 exact add_str (fun _ _ => ⟨S, R.toks, h⟩) hsz
end
noncomputable def allobjs (hU h : Heap) (L : Addr) : List (Addr × Obj) := (List.range h.objs.size).filterMap fun a => if a = L ∨ (hU.get? a).isSome = true then none else (h.get? a).map fun o => (a, o)
theorem zX {hU h : Heap} {L : Addr} {p : Addr × Obj} : p ∈ allobjs hU h L ↔ (p.1 ≠ L /\ hU.get? p.1 = none) /\ h.get? p.1 = some p.2 := by
 unfold allobjs
 rw [List.mem_filterMap]
 constructor
 ·intro q_
  refine zB q_ ?_; clear q_; intro a _ e
  split at e
  ·exact Mine.ns e
  rename_i q
  refine zB (Option.map_eq_some_iff.mp e) ?_; intro o ho rfl_179; subst rfl_179
  refine ⟨⟨fun e => q (.inl e), ?_⟩, ho⟩
  show hU.get? a = none
  cases z : hU.get? a with
  | none => rfl
  | some o' => exact absurd (.inr (by rw [z]; rfl)) q
 intro q_
 refine zL q_ ?_; clear q_; intro nn_178 h2; obtain ⟨h1, h3⟩ := nn_178
 refine ⟨p.1, List.mem_range.mpr (Heap.lt_size h2), ?_⟩
 rw [if_neg (by rw [h3]; rintro (e | e); exact h1 e; exact Mine.ft e), h2]; rfl
theorem nodup_filterMap_keys {f : Nat -> Option (Nat × Obj)} (hf : ∀ a p, f a = some p -> p.1 = a) : ∀ l : List Nat, l.Nodup -> ((l.filterMap f).map (·.1)).Nodup
 | [], _ => List.nodup_nil
 | a :: l, h => by
  refine zL (List.nodup_cons.mp h) ?_; intro h1 h2
  have ih := nodup_filterMap_keys hf l h2
  rw [List.filterMap_cons]
  cases q : f a with
  | none => exact ih
  | some p =>
   refine List.nodup_cons.mpr ⟨fun hm => ?_, ih⟩
   refine zB (List.mem_map.mp hm) ?_; intro p' hp' e
   refine zB (List.mem_filterMap.mp hp') ?_; intro b hb hq
   have := hf b p' hq
   have := hf a p q
   have e' : p'.1 = p.1 := e
   exact h1 (by rw [← hf a p q, ← e', hf b p' hq]; exact hb)
theorem nodup_allobjs (hU h : Heap) (L : Addr) : ((allobjs hU h L).map (·.1)).Nodup := by
 refine nodup_filterMap_keys (fun a p e => ?_) _ List.nodup_range
 split at e
 ·exact Mine.ns e
 (refine zB (Option.map_eq_some_iff.mp e) ?_; intro o ho rfl_177; subst rfl_177); rfl
theorem upd_exists {a : Addr} {ob ob' : Obj} : ∀ {l : List (Addr × Obj)}, (l.map (·.1)).Nodup -> (a, ob) ∈ l -> ∃ l', Upd a ob ob' l l' /\ (a, ob') ∈ l' /\ ∀ p ∈ l, p.1 ≠ a -> p ∈ l'
 | [], _, h => by cases h
 | p :: l, nd, h => by
  refine zL (List.nodup_cons.mp nd) ?_; intro h1 h2
  by_cases hp : p.1 = a
  ·have : p = (a, ob) := by
    rcases List.mem_cons.mp h with q | q
    ·exact q.symm
    exact absurd (List.mem_map.mpr ⟨_, q, hp.symm⟩) h1
   subst this
   refine ⟨(a, ob') :: l, .head fun q hq e => h1 (List.mem_map.mpr ⟨q, hq, e⟩), .head _, fun q hq hn => ?_⟩
   rcases List.mem_cons.mp hq with rfl | hq
   ·exact absurd rfl hn
   exact .tail _ hq
  have hm : (a, ob) ∈ l := by
   rcases List.mem_cons.mp h with q | q
   ·exact absurd (by rw [← q]) hp
   exact q
  obtain ⟨l', u, m1, m2⟩ := upd_exists h2 hm
  refine ⟨p :: l', .tail hp u, .tail _ m1, fun q hq hn => ?_⟩
  rcases List.mem_cons.mp hq with rfl | hq
  ·exact .head _
  exact .tail _ (m2 q hq hn)
namespace Rel
variable {H : Hid} {s : Shared}
theorem led (R : Rel g c H S s) : ∃ m, Fr g.hU c.env.locals s.heap m /\ News g.hU c.env.locals s.heap (allobjs g.hU s.heap c.env.locals) /\
  ∀ x v, S.m x = some v -> c.env.kindOf x = some .local -> ∃ u, m x = some u /\ er u = v := by
 refine zB R.loc ?_; intro m hm hv
 refine ⟨m, ⟨hm, R.keep, R.above⟩, fun p hp => ?_, hv⟩
 refine zL (zX.mp hp) ?_; intro nn_176 h2; obtain ⟨h1, h3⟩ := nn_176
 exact ⟨h2, h1, h3⟩
theorem backBut (R : Rel g c H S s) {m : Str -> Option Value} (hv : ∀ x v, S.m x = some v -> c.env.kindOf x = some .local -> ∃ u, m x = some u /\ er u = v)
  {h' : Heap} {tk : Tok} (F : Fr g.hU c.env.locals h' m) (hk : ∀ p ∈ allobjs g.hU s.heap c.env.locals, h'.get? p.1 = some p.2) : Rel g c H S { s with heap := h', toks := tk } := by
 refine zK R.role ?_; intro ρ r0 r1 r2 r3 r4
 have k : ∀ b o, b ≠ c.env.locals -> s.heap.get? b = some o -> h'.get? b = some o := fun b o hb e => by
  cases z : g.hU.get? b with
  | none => exact hk (b, o) (zX.mpr ⟨⟨hb, z⟩, e⟩)
  | some o' => rw [F.keep b o' z, ← e, R.keep b o' z]
 refine { ok := R.ok, ac := R.ac, above := R.above, os := R.os, bare := R.bare, gen := R.gen, inj := R.inj, fre := R.fre, role := ⟨ρ, r0, r1, r2, r3, r4⟩, loc := ⟨m, F.ns, hv⟩, keep := ?_, hid := ?_, cel := ?_, sto := ?_ }
 ·exact fun b o e => k b o (ne (r0 b o e) r1) (R.keep b o e)
 ·exact fun b o e => k _ _ (ne (r3 b o e) r1) (R.hid b o e)
 ·intro x b h1 h2
  refine zB (R.cel x b h1 h2) ?_; intro u nn_175 hu; obtain ⟨oc, hc, hd⟩ := nn_175
  exact ⟨u, ⟨oc, k _ _ (ne (r2 x b h1 h2) r1) hc, hd⟩, hu⟩
 intro b o e
 refine zB (R.sto b o e) ?_; intro ob h1 h2
 exact ⟨ob, k _ _ (ne (r4 b o e) r1) h1, h2⟩
theorem back (R : Rel g c H S s) {m : Str -> Option Value} (hv : ∀ x v, S.m x = some v -> c.env.kindOf x = some .local -> ∃ u, m x = some u /\ er u = v)
  {h' : Heap} {tk : Tok} (F : Fr g.hU c.env.locals h' m) (N' : News g.hU c.env.locals h' (allobjs g.hU s.heap c.env.locals)) : Rel g c H S { s with heap := h', toks := tk } :=
 R.backBut hv F fun p hp => (N' p hp).1
theorem backNew (R : Rel g c H S s) {m : Str -> Option Value} (hv : ∀ x v, S.m x = some v -> c.env.kindOf x = some .local -> ∃ u, m x = some u /\ er u = v)
  {h' : Heap} {tk : Tok} {a : Addr} {ob : Obj} {o : AO Str} (F : Fr g.hU c.env.locals h' m) (N' : News g.hU c.env.locals h' ((a, ob) :: allobjs g.hU s.heap c.env.locals)) (ha : s.heap.get? a = none) (hi : Is g ob o) :
  S.σ a = none /\ Rel g c H ⟨S.m, upd S.σ a o⟩ { s with heap := h', toks := tk } := by
 have R' := R.backBut (tk := tk) hv F fun p hp => (N' p (.tail _ hp)).1
 have hn := (N' _ (.head _)).1
 have hl := (N' _ (.head _)).2.1
 have none : S.σ a = none := by
  cases q : S.σ a with
  | none => rfl
  | some o' => (refine zB (R.sto a o' q) ?_; intro ob' e _); rw [ha] at e; exact Mine.ns e
 have nz : ∀ b o, s.heap.get? b = some o -> b ≠ a := fun b o e q => by rw [q, ha] at e; exact Mine.ns e
 refine ⟨none, { R' with sto := ?_, role := ?_ }⟩
 ·intro b o' e
  unfold upd at e
  dsimp only at e
  split at e
  ·rename_i hb; subst hb; (replace e := Option.some.inj e; subst e); exact ⟨ob, hn, hi⟩
  exact R'.sto b o' e
 refine zK R.role ?_; intro ρ r0 r1 r2 r3 r4
 refine ⟨fun b => if b = a then 4 else ρ b, fun b o e => ?_, ?_, fun x b h1 h2 => ?_, fun b o e => ?_, fun b o' e => ?_⟩
 ·dsimp only; rw [if_neg (nz b o (R.keep b o e))]; exact r0 b o e
 ·dsimp only; rw [if_neg (Ne.symm hl)]; exact r1
 ·(refine zB (R.cel x b h1 h2) ?_; intro u nn_174 _; obtain ⟨oc, hc, _⟩ := nn_174)
  dsimp only; rw [if_neg (nz _ _ hc)]; exact r2 x b h1 h2
 ·dsimp only; rw [if_neg (nz _ _ (R.hid b o e))]; exact r3 b o e
 by_cases hb : b = a
 ·dsimp only; rw [if_pos hb]
 dsimp only; rw [if_neg hb]
 refine r4 b o' ?_
 unfold upd at e
 dsimp only at e
 rwa [if_neg hb] at e
theorem sto_ne (R : Rel g c H S s) {a : Addr} {o : AO Str} (h : S.σ a = some o) : a ≠ c.env.locals := by
 refine zK R.role ?_; intro ρ r0 r1 r2 r3 r4
 exact ne (r4 a o h) r1
theorem sto_new (R : Rel g c H S s) {a : Addr} {o : AO Str} (h : S.σ a = some o) : g.hU.get? a = none := by
 refine zK R.role ?_; intro ρ r0 r1 r2 r3 r4
 cases z : g.hU.get? a with
 | none => rfl
 | some o' => have := r0 a o' z; rw [r4 a o h] at this; cases this
theorem backUpd (R : Rel g c H S s) {m : Str -> Option Value} (hv : ∀ x v, S.m x = some v -> c.env.kindOf x = some .local -> ∃ u, m x = some u /\ er u = v)
  {h' : Heap} {tk : Tok} {a : Addr} {ob' : Obj} {o0 o : AO Str} (ha : S.σ a = some o0) (F : Fr g.hU c.env.locals h' m) (hk : ∀ p ∈ allobjs g.hU s.heap c.env.locals, p.1 ≠ a -> h'.get? p.1 = some p.2) (hn : h'.get? a = some ob') (hi : Is g ob' o) :
  Rel g c H ⟨S.m, upd S.σ a o⟩ { s with heap := h', toks := tk } := by
 refine zK R.role ?_; intro ρ r0 r1 r2 r3 r4
 have ra := r4 a _ ha
 have k : ∀ b o, b ≠ c.env.locals -> b ≠ a -> s.heap.get? b = some o -> h'.get? b = some o := fun b o hb hb' e => by
  cases z : g.hU.get? b with
  | none => exact hk (b, o) (zX.mpr ⟨⟨hb, z⟩, e⟩) hb'
  | some o' => rw [F.keep b o' z, ← e, R.keep b o' z]
 refine { ok := R.ok, ac := R.ac, above := R.above, os := R.os, bare := R.bare, gen := R.gen, inj := R.inj, fre := R.fre, role := ?_, loc := ⟨m, F.ns, hv⟩, keep := ?_, hid := ?_, cel := ?_, sto := ?_ }
 ·exact fun b o e => k b o (ne (r0 b o e) r1) (ne (r0 b o e) ra) (R.keep b o e)
 ·exact fun b o e => k _ _ (ne (r3 b o e) r1) (ne (r3 b o e) ra) (R.hid b o e)
 ·intro x b h1 h2
  refine zB (R.cel x b h1 h2) ?_; intro u nn_173 hu; obtain ⟨oc, hc, hd⟩ := nn_173
  exact ⟨u, ⟨oc, k _ _ (ne (r2 x b h1 h2) r1) (ne (r2 x b h1 h2) ra) hc, hd⟩, hu⟩
 ·intro b o' e
  unfold upd at e
  dsimp only at e
  split at e
  ·rename_i hb; subst hb; (replace e := Option.some.inj e; subst e); exact ⟨ob', hn, hi⟩
  rename_i hb
  refine zB (R.sto b o' e) ?_; intro ob h1 h2
  exact ⟨ob, k _ _ (ne (r4 b o' e) r1) hb h1, h2⟩
 refine ⟨ρ, r0, r1, r2, r3, fun b o' e => ?_⟩
 unfold upd at e
 dsimp only at e
 split at e
 ·rename_i hb; subst hb; exact ra
 exact r4 b o' e
theorem updLed (R : Rel g c H S s) {a : Addr} {ob : Obj} (hg : s.heap.get? a = some ob) {o0 : AO Str} (ha : S.σ a = some o0) (ob' : Obj) : ∃ news', Upd a ob ob' (allobjs g.hU s.heap c.env.locals) news' /\
  ∀ {m : Str -> Option Value}, (∀ x v, S.m x = some v -> c.env.kindOf x = some .local -> ∃ u, m x = some u /\ er u = v) ->
   ∀ {h' : Heap} {tk : Tok} {o : AO Str}, Fr g.hU c.env.locals h' m -> News g.hU c.env.locals h' news' -> Is g ob' o -> Rel g c H ⟨S.m, upd S.σ a o⟩ { s with heap := h', toks := tk } := by
 refine zJ (upd_exists (ob' := ob') (nodup_allobjs g.hU s.heap c.env.locals) (zX.mpr ⟨⟨R.sto_ne ha, R.sto_new ha⟩, hg⟩ : (a, ob) ∈ _)) ?_; intro l' u m1 m2
 refine ⟨l', u, ?_⟩
 intro m hv h' tk o F' N' hi
 exact R.backUpd (ob' := ob') hv ha F' (fun p hp hne => (N' p (m2 p hp hne)).1) (N' _ m1).1 hi
end Rel
section
variable {a b : Addr} {xs ys : List Value} {x : Value} {Q : Value -> St Str -> Prop}
theorem Is.list {arr : Array Value} {n : Nat} (h : arr.toList.map er = xs) : Is g (listOf arr n) (.list xs) := ⟨arr, n, rfl, h⟩
theorem Is.tup {arr : Array Value} {n : Nat} (h : arr.toList.map er = xs) : Is g { cls := .type "tuple", data := .seq arr n } (.tup xs) := ⟨arr, n, rfl, h⟩
theorem Rel.list {H : Hid} {s : Shared} (R : Rel g c H S s) (ha : S.σ a = some (.list xs)) : ∃ arr n, s.heap.get? a = some (listOf arr n) /\ s.heap.IsList a arr /\ arr.toList.map er = xs /\ arr.size = xs.length := by
 refine el_EAEEA (R.sto a _ ha) ?_; intro ob h1 arr n rfl_172 h2; subst rfl_172
 exact ⟨arr, n, h1, ⟨_, h1, rfl, n, rfl⟩, h2, by rw [← h2, List.length_map, Array.length_toList]⟩
theorem Rel.tup {H : Hid} {s : Shared} (R : Rel g c H S s) (ha : S.σ a = some (.tup xs)) : ∃ arr n, s.heap.get? a = some { cls := .type "tuple", data := .seq arr n } /\ s.heap.IsTuple a arr /\ arr.toList.map er = xs /\ arr.size = xs.length := by
 refine el_EAEEA (R.sto a _ ha) ?_; intro ob h1 arr n rfl_171 h2; subst rfl_171
 exact ⟨arr, n, h1, ⟨_, h1, rfl, n, rfl⟩, h2, by rw [← h2, List.length_map, Array.length_toList]⟩
theorem map_cons {u : List Value} {x : Value} {l : List Value} (h : u.map er = x :: l) : ∃ p r, u = p :: r /\ er p = x /\ r.map er = l :=
 match u, h with
 | [], h => nomatch h
 | p :: r, h => ⟨p, r, rfl, (List.cons.inj h).1, (List.cons.inj h).2⟩
theorem map0 {u : List Value} (h : u.map er = []) : u = [] := List.map_eq_nil_iff.mp h
theorem z3 {u : List Value} {x : Value} (h : u.map er = [x]) : ∃ p, u = [p] /\ er p = x :=
 zD (map_cons h) fun p r e hp hr => ⟨p, (map0 hr ▸ e : u = [p]), hp⟩
theorem map2 {u : List Value} {x y : Value} (h : u.map er = [x, y]) : ∃ p q, u = [p, q] /\ er p = x /\ er q = y :=
 zD (map_cons h) fun p r e hp hr => zB (z3 hr) fun q e' hq => ⟨p, q, (e' ▸ e : u = [p, q]), hp, hq⟩
theorem map3 {u : List Value} {x y z : Value} (h : u.map er = [x, y, z]) : ∃ p q r, u = [p, q, r] /\ er p = x /\ er q = y /\ er r = z :=
 zD (map_cons h) fun p r e hp hr => zD (map2 hr) fun q r' e' hq hr' => ⟨p, q, r', (e' ▸ e : u = [p, q, r']), hp, hq, hr'⟩
theorem WC_append (ha : S.σ a = some (.list xs)) (hz : xs.length ≤ sizeLine) (h : Q .none ⟨S.m, upd S.σ a (.list (xs ++ [x]))⟩) : WC g c (.builtin "list.append") [.ref a, x] S Q := by
 intro us hu H s R
 o_shape
 refine zD (map2 hu) ?_; intro u v rfl_170 hu1 hv; subst rfl_170
 obtain rfl := zH hu1
 refine zE (R.list ha) ?_; intro arr n h1 h2 h3 h4
 refine zJ R.led ?_; intro m F N' hl
 refine zB (R.updLed h1 ha (listOf (arr.push v) (n + 1))) ?_; intro news' U back
 exact append_K F N' U (fun h' F' N' => ⟨_, back hl F' N' (Is.list (xs := xs ++ [x]) (by rw [Array.toList_push, List.map_append, h3, List.map_cons, List.map_nil, hv])), h⟩) (by exact om37 ‹_› ‹_›)
theorem kl_last_eq : ∀ (l : List Value) (y : Value), kl_last (l ++ [y]) = some (l, y)
 | [], _ => rfl
 | x :: l, y => by
  have ih := kl_last_eq l y
  cases l with
  | nil => rfl
  | cons z l => simp only [List.cons_append] at ih ⊢; unfold kl_last; rw [ih]
theorem WC_len (ha : S.σ a = some (.list xs)) (hz : (xs.length : Int) < 2 ^ 63) (h : Q (.int xs.length 0) S) : WC g c (.builtin "len") [.ref a] S Q := by
 intro us hu H s R
 o_shape
 refine zB (z3 hu) ?_; intro u rfl_166 hu1; subst rfl_166
 obtain rfl := zH hu1
 refine zE (R.list ha) ?_; intro arr n h1 h2 h3 h4
 exact len_list h2 (by rw [h4]; exact hz) ⟨S, R.toks, by rw [h4]; exact h⟩
theorem WC_lenT (ha : S.σ a = some (.tup xs)) (hz : (xs.length : Int) < 2 ^ 63) (h : Q (.int xs.length 0) S) : WC g c (.builtin "len") [.ref a] S Q := by
 intro us hu H s R
 o_shape
 refine zB (z3 hu) ?_; intro u rfl_165 hu1; subst rfl_165
 obtain rfl := zH hu1
 refine zE (R.tup ha) ?_; intro arr n h1 h2 h3 h4
 exact PyProof.Rows.len_tuple h2 (by rw [h4]; exact hz) ⟨S, R.toks, by rw [h4]; exact h⟩
theorem fin {x y : Value} {Q : Value -> St Str -> Prop} (h : Q x S) (e : er y = x) : Q (er y) S := e ▸ h
theorem get_er {arr : Array Value} {i : Nat} {x : Value} (h : (arr.toList.map er)[i]? = some x) : ∃ y, arr[i]? = some y /\ er y = x := by
 rw [List.getElem?_map, Option.map_eq_some_iff] at h
 refine zB h ?_; (try clear h); intro y h1 h2
 exact ⟨y, by simpa using h1, h2⟩
theorem WItem_list {i : Int} (ha : S.σ a = some (.list xs)) (h0 : 0 ≤ i) (hf : i < 2 ^ 63) (hx : xs[i.toNat]? = some x) (h : Q x S) : WItem g c (.ref a) (.int i 0) S Q := by
 intro u v hu hv H s R
 o_shape
 obtain rfl := zH hu
 refine zI (zf hv) ?_; intro t rfl_164; subst rfl_164
 refine zE (R.list ha) ?_; intro arr n h1 h2 h3 h4
 refine zB (get_er (arr := arr) (by rw [h3]; exact hx)) ?_; intro y e1 e2
 exact wpAny_getItem_list h2 h0 hf e1 ⟨S, R, fin h e2⟩
theorem WItem_listNeg {i : Int} (ha : S.σ a = some (.list xs)) (h0 : i < 0) (h1 : -(xs.length : Int) ≤ i) (hf : -(2 ^ 63) ≤ i) (hx : xs[(i + xs.length).toNat]? = some x) (h : Q x S) : WItem g c (.ref a) (.int i 0) S Q := by
 intro u v hu hv H s R
 o_shape
 obtain rfl := zH hu
 refine zI (zf hv) ?_; intro t rfl_163; subst rfl_163
 refine zE (R.list ha) ?_; intro arr n h1 h2 h3 h4
 refine zB (get_er (arr := arr) (by rw [h3]; exact hx)) ?_; intro y e1 e2
 exact wpAny_getItem_list_neg h2 h0 (by rw [h4]; assumption) hf (by rw [h4]; exact e1) ⟨S, R, fin h e2⟩
theorem WTr_list (ha : S.σ a = some (.list xs)) (hz : (xs.length : Int) < 2 ^ 63) {Q : Bool -> St Str -> Prop} (h : Q (!xs.isEmpty) S) : WTr g c (.ref a) S Q := by
 intro u hu H s R
 o_shape
 obtain rfl := zH hu
 refine zE (R.list ha) ?_; intro arr n h1 h2 h3 h4
 refine wpAny_truthy_list h2 (by rw [h4]; exact hz) ⟨S, R.toks, ?_⟩
 have : arr.isEmpty = xs.isEmpty := by rw [← h3]; cases arr with | mk l => cases l <;> rfl
 rw [this]; exact h
end
noncomputable def notStar : Expr -> Bool
 | .Starred .. => false
 | _ => true
theorem zb {e : Expr} (h : notStar e = true) (rest : List Expr) (env : Env) : starEach (e :: rest) env = (false, eval e env) :: starEach rest env := by
 cases e <;> first | rfl | exact Mine.ft h
theorem z2 {pos : Pos} {env : Env} : ∀ {es : List Expr}, es.all notStar = true -> (backTo pos (starEach es env)).any (·.1) = false
 | [], _ => rfl
 | e :: r, h => by
  refine zL (Bool.and_eq_true_iff.mp (by simpa using h : (notStar e && r.all notStar) = true)) ?_; intro h1 h2
  rw [zb h1]
  show (false || (backTo pos (starEach r env)).any (·.1)) = false
  rw [z2 h2]; rfl
theorem zG (h : Heap) : h.get? h.objs.size = none := by
 cases q : h.get? h.objs.size with
 | none => rfl
 | some o => exact absurd (Heap.lt_size q) (Nat.lt_irrefl _)
noncomputable def WEs (g : Gl Str) (c : Ac) (es : List Expr) (S : St Str) (Q : List Value -> St Str -> Prop) : Prop := ∀ pos, WM g c (spliced (backTo pos (starEach es c.env))) S fun vs S' => Q (vs.map er) S'
noncomputable def WCW (g : Gl Str) (c : Ac) (f : Value) (first : List Value) (args : List Expr) (S : St Str) (Q : Value -> St Str -> Prop) : Prop :=
 ∀ pos u us, er u = f -> us.map er = first -> WM g c (callWith pos u us (backTo pos (starEach args c.env)) []) S fun v S' => Q (er v) S'
noncomputable def WGM (g : Gl Str) (c : Ac) (o : Value) (name : Str) (S : St Str) (Q : Value -> List Value -> St Str -> Prop) : Prop :=
 ∀ u pl, er u = o -> WM g c (getMethod u name pl) S fun fx S' => Q (er fx.1) (fx.2.map er) S'
theorem WEs_nil {Q : List Value -> St Str -> Prop} (h : Q [] S) : WEs g c [] S Q := fun _ _ _ R => spliced_none ⟨S, R, h⟩
theorem WEs_cons {e : Expr} {es : List Expr} {Q : List Value -> St Str -> Prop} (hs : notStar e = true) (h : WE g c e S fun v S1 => WEs g c es S1 fun vs S2 => Q (v :: vs) S2) : WEs g c (e :: es) S Q :=
 fun pos H _ R => spliced_more (goK (h H _ R) (fun _ _ _ R1 hJ => goK (hJ pos H _ R1) (fun _ _ S2 R2 hV => ⟨S2, R2, hV⟩))) (zb hs _ _)
noncomputable def Keeps (K : Frag) (f : Value) : Bool := match f with
 | .builtin _ => true
 | .type _ => true
 | .ref a => keepIn K (.ref a)
 | _ => false
theorem keeps_er {K : Frag} {f : Value} (hk : Keeps K f = true) (u : Value) (h : er u = f) : u = f := by
 cases f with
 | builtin i => exact er_builtin h
 | type i => exact er_type h
 | ref i => exact zH h
 | _ => exact Mine.ft hk
theorem keeps_cw {K : Frag} {f : Value} (hk : Keeps K f = true) {M : Model} {A : Around} {s : Shared} {E : Value -> Shared -> Prop} {pos : Pos} {first : List Value} {args : List (Bool × Sem Value)} {Q : Value -> Shared -> Prop}
  (hp : args.any (·.1) = false) (h : wpAny M A (evalArgs f true args []) (fun a s1 => K.In s1.heap /\ wpAny M A (call f (first ++ a.pos) a.kw) Q E s1) E s) : wpAny M A (callWith pos f first args []) Q E s := by
 cases f with
 | builtin i => exact callWith_builtin hp (wpAny_mono h (fun _ _ q => q.2) fun _ _ x => x)
 | type T => exact PyProof.Rows.callWith_type hp (wpAny_mono h (fun _ _ q => q.2) fun _ _ x => x)
 | ref a => exact callWith_of (P := fun h => K.In h) (by rw [hp]; rfl) (keeps_K hk) h
 | _ => exact Mine.ft hk
theorem W_CW0 {f : Value} {first : List Value} {Q : Value -> St Str -> Prop} (hk : Keeps g.K f = true) (h : WC g c f first S Q) : WCW g c f first [] S Q := by
 intro pos u us hu hus H s R
 o_shape
 obtain rfl := keeps_er hk u hu
 exact keeps_cw hk rfl (evalArgs_nil3 ⟨R.in_K, by rw [List.append_nil]; exact h us hus H s R⟩)
theorem W_CW {f : Value} {first : List Value} {e : Expr} {rest : List Expr} {Q : Value -> St Str -> Prop} (hk : Keeps g.K f = true) (hs : (e :: rest).all notStar = true)
  (h : WEs g c (e :: rest) S fun vs S1 => WC g c f (first ++ vs) S1 Q) : WCW g c f first (e :: rest) S Q := by
 intro pos u us hu hus H s R
 o_shape
 obtain rfl := keeps_er hk u hu
 refine zL (Bool.and_eq_true_iff.mp (by simpa using hs : (notStar e && rest.all notStar) = true)) ?_; intro h1 h2
 have hp := z2 (pos := pos) (env := c.env) hs
 have := h pos H s R
 rw [zb h1] at this hp ⊢
 exact keeps_cw hk hp (evalArgs_plain (goK this (fun vs s1 S1 R1 q => ⟨R1.in_K, q (us ++ vs) (by rw [List.map_append, hus]) H _ R1⟩)))
theorem WE_Call {f : Str} {p pos : Pos} {args : List Expr} {Q : Value -> St Str -> Prop} (h : WE g c (.Name f p) S fun fv S1 => WCW g c fv [] args S1 Q) : WE g c (.Call (.Name f p) args [] pos) S Q :=
 fun H _ R => wpAny_Call_NameR (goK (h H _ R) (fun _ _ _ R1 hJ => hJ _ _ [] rfl rfl H _ R1))
theorem WE_Meth {o : Expr} {name : Str} {apos pos : Pos} {args : List Expr} {pl : Env -> Sem Bool} {Q : Value -> St Str -> Prop}
  (he : ∀ env, eval (.Call (.Attribute o name apos) args [] pos) env = (do
   let ov ← eval o env
   standAt apos.atName
   let (f, first) ← holding [ov] (getMethod ov name (pl env))
   callWith pos f first (backTo pos (starEach args env)) []))
  (h : WE g c o S fun ov S1 => WGM g c ov name S1 fun f first S2 => WCW g c f first args S2 Q) : WE g c (.Call (.Attribute o name apos) args [] pos) S Q :=
 fun H _ R => MethodCall_ (pl := pl c.env) (goK (h H _ R) (fun _ _ _ R1 hJ => goK (hJ _ _ rfl H _ R1) (fun _ _ _ R2 hV => hV _ _ _ rfl rfl H _ R2))) (he _)
theorem WE_List {es : List Expr} {pos : Pos} {Q : Value -> St Str -> Prop} (h : WEs g c es S fun vs S1 => vs.length ≤ sizeLine /\ ∀ a, S1.σ a = none -> Q (.ref a) ⟨S1.m, upd S1.σ a (.list vs)⟩) : WE g c (.List es pos) S Q := by
 intro H s R
 o_shape
 refine wpAny_List_spliced (wpAny_mono (h pos H s R) (fun vs s1 ⟨S1, R1, hz, q⟩ => ⟨by simpa using hz, ?_⟩) fun _ _ x => x)
 refine zL (R1.add (tk := s1.toks) (h' := s1.heap.push (listOf vs.toArray 0)) (Heap.ExtBut.push (Heap.ExtBut.refl _ _) _) (zG _) (Heap.get?_push_size _ rfl) (Is.list (by simp : _ = vs.map er))) ?_; intro hn R2
 exact ⟨_, R2, q _ hn⟩
theorem WE_Tuple {es : List Expr} {k : Nat} {pos : Pos} {Q : Value -> St Str -> Prop} (h : WEs g c es S fun vs S1 => vs.length ≤ sizeLine /\ ∀ a, S1.σ a = none -> Q (.ref a) ⟨S1.m, upd S1.σ a (.tup vs)⟩) : WE g c (.Tuple es k pos) S Q := by
 intro H s R
 o_shape
 refine wpAny_Tuple_spliced (wpAny_mono (h pos H s R) (fun vs s1 ⟨S1, R1, hz, q⟩ => ⟨by simpa using hz, ?_⟩) fun _ _ x => x)
 refine zL (R1.add (tk := s1.toks) (h' := s1.heap.push { cls := .type "tuple", data := .seq vs.toArray }) (Heap.ExtBut.push (Heap.ExtBut.refl _ _) _) (zG _) (Heap.get?_push_size _ rfl) (Is.tup (by simp : _ = vs.map er))) ?_; intro hn R2
 exact ⟨_, R2, q _ hn⟩
theorem WE_Sub {o i : Expr} {pos : Pos} {Q : Value -> St Str -> Prop} (h : WE g c o S fun ov S1 => WE g c i S1 fun iv S2 => WV2 g c (subscriptTail o i) ov iv S2 Q) : WE g c (.Subscript o i pos) S Q :=
 fun H _ R => Subscript_ (goK (h H _ R) (fun _ _ _ R1 hJ => goK (hJ H _ R1) (fun _ _ _ R2 hV => hV _ _ rfl rfl H _ R2)))
theorem nsFind_list (es : List DictEntry) (x : Str) : nsFind es.toArray x = (es.find? fun e => e.key.isStr x).map (·.val) := by
 unfold nsFind findBy; simp
theorem strKeys_putL {name : Str} {hsh : Int} {t : Tok} {v : Value} : ∀ {es : List DictEntry}, StrKeys es.toArray -> StrKeys (putL name hsh (.str name t) v es).toArray
 | [], _ => by
  intro e he
  simp only [putL, List.mem_toArray, List.mem_singleton] at he
  subst he; exact ⟨_, _, rfl⟩
 | e :: r, h => by
  have hr : StrKeys r.toArray := fun e' he' => h e' (by simp only [List.mem_toArray] at he' ⊢; exact .tail _ he')
  have he : ∃ n t, e.key = .str n t := h e (by simp)
  unfold putL
  intro e' he'
  split at he'
  ·simp only [List.mem_toArray, List.mem_cons] at he'
   rcases he' with rfl | he'
   ·exact he
   exact hr e' (by simpa using he')
  simp only [List.mem_toArray, List.mem_cons] at he'
  rcases he' with rfl | he'
  ·exact he
  exact strKeys_putL hr e' (by simpa using he')
theorem find_putL {name : Str} {hsh : Int} {t : Tok} {v : Value} (x : Str) : ∀ {es : List DictEntry}, (((putL name hsh (.str name t) v es).find? fun e => e.key.isStr x).map (·.val)) = if x = name then some v else (es.find? fun e => e.key.isStr x).map (·.val)
 | [] => by
  by_cases h : x = name
  ·subst h; simp [putL, Value.isStr]
  have : (name == x) = false := by simpa using fun e => h e.symm
  simp [putL, Value.isStr, h, this]
 | e :: r => by
  unfold putL
  by_cases he : e.key.isStr name = true
  ·rw [if_pos he]
   by_cases h : x = name
   ·subst h; simp [he]
   have : e.key.isStr x = false := by
    cases q : e.key.isStr x with
    | false => rfl
    | true => exact absurd (Value.isStr_inj _ _ _ q he) h
   simp [this, h]
  rw [if_neg he]
  by_cases hx : e.key.isStr x = true
  ·have : x ≠ name := by rintro rfl; exact he hx
   simp [hx, this]
  have := find_putL (name := name) (hsh := hsh) (t := t) (v := v) x (es := r)
  simp only [List.find?_cons, hx] at this ⊢
  exact this
theorem length_putL {name : Str} {hsh : Int} {t : Tok} {v : Value} : ∀ {es : List DictEntry}, (putL name hsh (.str name t) v es).length ≤ es.length + 1 /\ ((es.find? fun e => e.key.isStr name).isSome = true -> (putL name hsh (.str name t) v es).length = es.length)
 | [] => by simp [putL]
 | e :: r => by
  unfold putL
  by_cases he : e.key.isStr name = true
  ·rw [if_pos he]; simp
  rw [if_neg he]
  refine zL (length_putL (name := name) (hsh := hsh) (t := t) (v := v) (es := r)) ?_; intro h1 h2
  refine ⟨by simpa using h1, fun q => ?_⟩
  simp only [List.find?_cons, he] at q
  simpa using h2 q
theorem getL_of {es : List DictEntry} (hs : StrKeys es.toArray) (x : Str) : getL x es = some (nsFind es.toArray x) := by
 rw [nsFind_list]
 unfold getL
 cases q : es.find? fun e => e.key.isStr x with
 | some e => rfl
 | none =>
  have : es.any (·.refKey) = false := by
   rw [List.any_eq_false]
   intro e he
   refine el_EE (hs e (by simpa using he)) ?_; intro n t h
   simp [DictEntry.refKey, h]
  simp [this]
theorem handedIn_er {v : Value} : handedIn (er v) = handedIn v := by cases v <;> rfl
theorem WSub_of {o i : Expr} {ov iv : Value} {T id : String} (hl : typeLookup (.type T) "__getitem__" = pure (some (.builtin id))) (hT : ∀ H s u, Rel g c H S s -> er u = ov -> s.TypeIs u T)
  (hs : ∃ ops : Value -> Value -> List Value, ∀ o' i', subscripted i false o' i' = operate (ops o' i') (getItem o' i')) (h : WItem g c ov iv S Q) : WV2 g c (subscriptTail o i) ov iv S Q := by
 intro u v hu hv H s R
 o_shape
 refine zI hs ?_; (try clear hs); intro ops hs
 exact tail_any (hT H s u R hu) hl (h u v hu hv H s R) (hs _ _)
section
variable {a : Addr} {xs : List Value} {o i : Expr} {iv : Value}
theorem WSub_list (ha : S.σ a = some (.list xs)) (hs : ∃ ops : Value -> Value -> List Value, ∀ o' i', subscripted i false o' i' = operate (ops o' i') (getItem o' i')) (h : WItem g c (.ref a) iv S Q) : WV2 g c (subscriptTail o i) (.ref a) iv S Q :=
 WSub_of PySem.slot_list_getitem.lookup (fun H s u R hu => by
  obtain rfl := zH hu
  refine zE (R.list ha) ?_; intro arr n h1 h2 h3 h4
  exact h2.typeIs) hs h
theorem WSub_str {x : Str} (hs : ∃ ops : Value -> Value -> List Value, ∀ o' i', subscripted i false o' i' = operate (ops o' i') (getItem o' i')) (h : WItem g c (.str x 0) iv S Q) : WV2 g c (subscriptTail o i) (.str x 0) iv S Q :=
 WSub_of PyProof.Rows.slot_str_getitem.lookup (fun H s u R hu => by
  refine zI (zZ hu) ?_; intro t rfl_222; subst rfl_222
  exact typeIs_str s x t) hs h
theorem WItem_str {x : Str} {i : Int} {k : Nat} (hr : (decide (i < -(2 ^ 63 : Int)) || decide (i ≥ 2 ^ 63)) = false) (hc : (seqIndex? i x.length).bind (x.cps[·]?) = some k) (h : Q (.str ⟨#[k]⟩ 0) S) : WItem g c (.str x 0) (.int i 0) S Q := by
 intro u v hu hv H s R
 o_shape
 refine zI (zZ hu) ?_; intro t rfl_221; subst rfl_221
 refine zI (zf hv) ?_; intro t' rfl_220; subst rfl_220
 exact PyProof.Rows.getItem_str hr hc ⟨S, R.toks, h⟩
end
theorem WGM_list {a : Addr} {xs : List Value} {name : Str} {id : String} (slot : Slot "list" name id) (hty : typeOf (.builtin id) = pure (.type "method_descriptor")) (ha : S.σ a = some (.list xs)) {Q : Value -> List Value -> St Str -> Prop}
  (h : Q (.builtin id) [.ref a] S) : WGM g c (.ref a) name S Q := by
 intro u pl hu H s R
 o_shape
 obtain rfl := zH hu
 refine zE (R.list ha) ?_; intro arr n h1 h2 h3 h4
 refine zJ R.led ?_; intro m F N' hl
 exact kl_method N' (zX.mpr ⟨⟨R.sto_ne ha, R.sto_new ha⟩, h1⟩ : (a, listOf arr n) ∈ _) slot hty ⟨S, R, h⟩
theorem Rel.inst {H : Hid} {s : Shared} (R : Rel g c H S s) {a C d : Addr} {m : Str -> Option Value} {k : Nat} (ha : S.σ a = some (.inst C d)) (hd : S.σ d = some (.ns m k)) :
  ∃ es n, InstAt s.heap a ⟨.ref C, some d, .plain, #[]⟩ C (some (dictOf es n)) /\ s.heap.get? d = some (dictOf es n) /\ StrKeys es.toArray /\ (∀ x, (nsFind es.toArray x).map er = m x) /\ es.length ≤ k := by
 refine zB (R.sto a _ ha) ?_; intro ob h1 rfl_219; subst rfl_219
 refine el_EAEEAAA (R.sto d _ hd) ?_; intro ob' h2 es n rfl_218 h3 h4 h5; subst rfl_218
 exact ⟨es, n, ⟨h1, rfl, rfl, h2⟩, h2, h3, h4, h5⟩
theorem er_some {o : Option Value} {v : Value} (h : o.map er = some v) : ∃ u, o = some u /\ er u = v := by
 cases o with
 | none => exact Mine.ns h
 | some u => exact ⟨u, rfl, Option.some.inj h⟩
noncomputable def ownAttr (K : Frag) (C : Addr) (x : Str) : Bool := plainGet K C x && hasDictIn K C && (match findIn K (.ref C) x with | some attr => noGet K attr | none => false)
theorem WGet_own {a C d : Addr} {m : Str -> Option Value} {k : Nat} {x : Str} {v : Value} (hk : ownAttr g.K C x = true) (ha : S.σ a = some (.inst C d)) (hd : S.σ d = some (.ns m k)) (hx : m x = some v) (hv : handedIn v = true) (h : Q v S) : WGet g c (.ref a) x S Q := by
 intro u b hu H s R
 o_shape
 obtain rfl := zH hu
 refine el_EEAAAA (R.inst ha hd) ?_; intro es n I h1 h2 h3 h4
 refine zJ R.led ?_; intro m' F N' hl
 unfold ownAttr at hk
 simp only [Bool.and_eq_true] at hk
 refine zL hk ?_; (try clear hk); intro nn_217 k3; obtain ⟨k1, k2⟩ := nn_217
 split at k3
 ·rename_i attr q
  refine zB (er_some ((h3 x).trans hx)) ?_; intro y hy e
  exact get_value R.in_K I (plainGet_of k1).1 (findObj_own k2 q k3 (by rw [lookIn_dict, getL_of h2, hy])) (by rw [← handedIn_er, e]; exact hv) ⟨S, R.toks, fin h e⟩
 exact Mine.ft k3
noncomputable def setsAttr (K : Frag) (C : Addr) (x : Str) : Bool := findIn K (.ref C) "__setattr__" == some (some (.builtin "object.__setattr__")) && plainOver K C && takerIn K C x == some none && hasDictIn K C
theorem WSet_own {a C d : Addr} {m : Str -> Option Value} {k k' : Nat} {x : Str} {v : Value} {Q : St Str -> Prop} (hk : setsAttr g.K C x = true) (ha : S.σ a = some (.inst C d)) (hd : S.σ d = some (.ns m k)) (hz : k' ≤ 1000) (hkk : k' = k + 1 ∨ (k' = k /\ (m x).isSome = true))
  (h : Q ⟨S.m, upd S.σ d (.ns (setv m x v) k')⟩) : WSet g c (.ref a) x v S Q := by
 intro u w hu hw H s R
 o_shape
 obtain rfl := zH hu
 refine el_EEAAAA (R.inst ha hd) ?_; intro es n I h1 h2 h3 h4
 refine zJ R.led ?_; intro m' F N' hl
 unfold setsAttr at hk
 simp only [Bool.and_eq_true, beq_iff_eq] at hk
 refine zL hk ?_; (try clear hk); intro nn_216 k4; obtain ⟨⟨k1, k2⟩, k3⟩ := nn_216
 refine zB (R.updLed h1 hd (dictOf (putL x (PyData.keyHash g.w.params x) (.str x (s.toks + 1)) w es) (putN x es n))) ?_; intro news' U back
 have len : (putL x (PyData.keyHash g.w.params x) (.str x (s.toks + 1)) w es).length ≤ k' := by
  refine zL (length_putL (name := x) (hsh := PyData.keyHash g.w.params x) (t := s.toks + 1) (v := w) (es := es)) ?_; intro l1 l2
  rcases hkk with rfl | ⟨rfl, q⟩
  ·lia
  rw [l2]; exact h4
  have := h3 x
  rw [nsFind_list] at this
  cases z : es.find? fun e => e.key.isStr x with
  | some e => rfl
  | none => rw [z] at this; rw [← this] at q; exact Mine.ft q
 refine set_dict F R.ok.k N' I rfl k1 k2 k3 k4 (by rw [getL_of h2]; rfl) rfl U (Nat.le_trans len hz) fun h' F' N' => ⟨⟨S.m, upd S.σ d (.ns (setv m x v) k')⟩, back hl F' N' ?_, h⟩
 refine ⟨_, _, rfl, strKeys_putL h2, fun y => ?_, len⟩
 rw [nsFind_list, find_putL]
 unfold setv
 by_cases hy : y = x
 ·rw [if_pos hy, if_pos hy, ← hw]; rfl
 rw [if_neg hy, if_neg hy, ← h3 y, nsFind_list]
noncomputable def bindM : List (Str × Value) -> (Str -> Option Value) -> Str -> Option Value
 | [], m => m
 | (x, v) :: r, m => bindM r (setv m x v)
theorem bindM_ok {kindOf : Str -> Option NameKind} : ∀ (bs : List (Str × Value)) (m mf mc : Str -> Option Value),
  (∀ x v, m x = some v -> (kindOf x = some .local -> ∃ u, mf x = some u /\ er u = v) /\ (kindOf x = some .cell -> ∃ u, mc x = some u /\ er u = v)) ->
  ∀ x v, bindM (bs.map fun p => (p.1, er p.2)) m x = some v -> (kindOf x = some .local -> ∃ u, bindL kindOf bs mf x = some u /\ er u = v) /\ (kindOf x = some .cell -> ∃ u, bindC kindOf bs mc x = some u /\ er u = v)
 | [], m, mf, mc, h, x, v, e => h x v e
 | (y, u) :: bs, m, mf, mc, h, x, v, e => by
  rw [List.map_cons] at e
  unfold bindM at e
  unfold bindL bindC
  refine bindM_ok bs _ _ _ (fun x v e => ?_) x v e
  unfold setv at e
  dsimp only at e
  by_cases hx : x = y
  ·subst hx
   rw [if_pos rfl] at e
   (replace e := Option.some.inj e; subst e)
   refine ⟨fun hk => ⟨u, by rw [if_pos hk]; exact if_pos rfl, rfl⟩, fun hk => ⟨u, ?_, rfl⟩⟩
   rw [if_neg (by rw [hk]; decide)]; exact if_pos rfl
  rw [if_neg hx] at e
  refine zL (h x v e) ?_; intro h1 h2
  constructor
  ·intro hk
   refine zB (h1 hk) ?_; intro w e1 e2
   refine ⟨w, ?_, e2⟩
   by_cases hy : kindOf y = some .local
   ·rw [if_pos hy]; show (if x = y then _ else _) = _; rw [if_neg hx]; exact e1
   rw [if_neg hy]; exact e1
  intro hk
  refine zB (h2 hk) ?_; intro w e1 e2
  refine ⟨w, ?_, e2⟩
  by_cases hy : kindOf y = some .local
  ·rw [if_pos hy]; exact e1
  rw [if_neg hy]; show (if x = y then _ else _) = _; rw [if_neg hx]; exact e1
noncomputable def retV : Flow -> Value
 | .ret v => v
 | _ => .none
structure FnIs (K : Frag) (f : Addr) (body : List Stmt) (scope : Scope) (fd : FuncData) : Prop where
 at_ : ∃ oc od osl, K.lookup f = some ⟨oc, od, .func fd, osl⟩
 cd : codeIn K fd.code fd.qualname = true
 body : fd.body = .stmts body
 scope : fd.scope = scope
 gl : fd.globals = mainGlobals
 clo : fd.closure = []
 bl : fd.builtins = builtinsNs
noncomputable def scopeOk (scope : Scope) : Bool := scope.kind == .function && !scope.isCoroutine && !scope.isGenerator && scope.names.all (fun x => x.2 != .free)
theorem no_free {scope : Scope} (h : scope.names.all (fun x => x.2 != .free) = true) (x : Str) : scope.names.lookup x ≠ some .free := fun e => by
 have := List.all_eq_true.mp h (x, .free) (mem_of_lookup e)
 simp at this
theorem Ac.Deep.less {c : Ac} {n m : Nat} (h : c.Deep n) (hm : m ≤ n) : c.Deep m := by
 unfold Ac.Deep at *; lia
theorem enter {H : Hid} {s : Shared} (R : Rel g c H S s) {n : Nat} (hd : c.Deep (n + 1)) {f : Addr} {scope : Scope} {fd : FuncData} (hsc : scopeOk scope = true) (hfs : fd.scope = scope) (hgl : fd.globals = mainGlobals) (hbl : fd.builtins = builtinsNs)
  {bs : List (Str × Value)} {s1 : Shared}
  (x : InCallC s (callEnvC fd s.heap.objs.size f).locals (bindL (callEnvC fd s.heap.objs.size f).kindOf bs fun _ => none) (callEnvC fd s.heap.objs.size f).cells (bindC (callEnvC fd s.heap.objs.size f).kindOf bs fun _ => none) s1) :
  ∃ H', Rel g ⟨c.A.deeper (callEnvC fd s.heap.objs.size f), callEnvC fd s.heap.objs.size f, fun _ => false⟩ H' ⟨bindM (bs.map fun p => (p.1, er p.2)) fun _ => none, S.σ⟩ s1 /\
   ∀ S' s', Rel g ⟨c.A.deeper (callEnvC fd s.heap.objs.size f), callEnvC fd s.heap.objs.size f, fun _ => false⟩ H' S' s' -> Rel g c H ⟨S.m, S'.σ⟩ s' := by
 refine zK R.role ?_; intro ρ r0 r1 r2 r3 r4
 refine zg x.done ?_; intro hJ tk rfl_227 hk; subst rfl_227
 subst hfs
 simp only [scopeOk, Bool.and_eq_true, beq_iff_eq, Bool.not_eq_true'] at hsc
 refine zL hsc ?_; (try clear hsc); intro nn_226 k4; obtain ⟨⟨k1, k2⟩, k3⟩ := nn_226
 refine zB R.loc ?_; intro m hm hv
 have hlt : ∀ b o, s.heap.get? b = some o -> b < s.heap.objs.size := fun b o e => Heap.lt_size e
 have cellLt : ∀ y a, (callEnvC fd s.heap.objs.size f).cells.lookup y = some a -> s.heap.objs.size < a := fun y a e => x.above y a (mem_of_lookup e)
 refine ⟨⟨fun b => if ρ b = 1 ∨ ρ b = 2 then s.heap.get? b else H.objs b, H.gens⟩, ?_, ?_⟩
 ·refine { ok := R.ok, ac := ?_, above := ?_, os := R.os, bare := R.bare, gen := R.gen, keep := fun b o e => hk b o (R.keep b o e), hid := ?_, loc := ?_, cel := ?_, inj := ?_, fre := ?_, sto := ?_, role := ?_ }
  ·refine { kind := k1, gl := hgl, bl := hbl, hd := R.ac.hd, deep := ?_, cells := fun y hy => ?_, frees := fun y hy => absurd hy (no_free k4 y) }
   ·unfold Ac.Deep at hd ⊢
    simp only [Around.deeper]
    exact om02 ‹_›
   exact Option.isSome_iff_exists.mp (cellsFrom_some _ _ _ (.inl hy))
  ·exact Nat.le_trans R.above (Nat.le_of_lt hm.lt)
  ·intro b o e
   dsimp only at e
   split at e
   ·exact hk b o e
   exact hk b o (R.hid b o e)
  ·exact ⟨_, x.toInCall.ns, fun y v e hy => (bindM_ok (kindOf := (callEnvC fd s.heap.objs.size f).kindOf) bs _ (fun _ => none) (fun _ => none) (fun _ _ e => by exact Mine.ns e) y v e).1 hy⟩
  ·intro y a ha hy
   refine ⟨_, x.cell y a ha, fun v e => ?_⟩
   refine zB ((bindM_ok (kindOf := (callEnvC fd s.heap.objs.size f).kindOf) bs _ (fun _ => none) (fun _ => none) (fun _ _ e => by cases e) y v e).2 hy.1) ?_; intro u e1 e2
   rw [e1]; exact congrArg some e2
  ·intro y z a h1 h2 _ _
   exact name_of_addr x.apart (mem_of_lookup h1) (mem_of_lookup h2)
  ·intro y a h1 h2
   exact Mine.ft h2
  ·intro a o e
   refine zB (R.sto a o e) ?_; intro ob h1 h2
   exact ⟨ob, hk _ _ h1, h2⟩
  refine ⟨fun b => if b = s.heap.objs.size then 1 else if s.heap.objs.size ≤ b then 2 else if ρ b = 0 then 0 else if ρ b = 4 then 4 else 3, fun b o e => ?_, if_pos rfl, fun y a h1 h2 => ?_, fun b o e => ?_, fun b o e => ?_⟩
  ·have := hlt b o (R.keep b o e)
   dsimp only
   rw [if_neg (Nat.ne_of_lt this), if_neg (Nat.not_le.mpr this), if_pos (r0 b o e)]
  ·have := cellLt y a h1
   dsimp only
   rw [if_neg (Nat.ne_of_gt this), if_pos (Nat.le_of_lt this)]
  ·have hz : b < s.heap.objs.size /\ ρ b ≠ 0 /\ ρ b ≠ 4 := by
    dsimp only at e
    split at e
    ·rename_i q
     refine ⟨hlt b o e, ?_, ?_⟩ <;> rcases q with q | q <;> rw [q] <;> decide
    refine ⟨hlt b o (R.hid b o e), ?_, ?_⟩ <;> rw [r3 b o e] <;> decide
   dsimp only
   rw [if_neg (Nat.ne_of_lt hz.1), if_neg (Nat.not_le.mpr hz.1), if_neg hz.2.1, if_neg hz.2.2]
  refine zB (R.sto b o e) ?_; intro ob h1 _
  have := hlt _ _ h1
  dsimp only
  rw [if_neg (Nat.ne_of_lt this), if_neg (Nat.not_le.mpr this), if_neg (by rw [r4 b o e]; decide), if_pos (r4 b o e)]
 intro S' s' R'
 refine zK R'.role ?_; intro ρ' q0 q1 q2 q3 q4
 have hid' : ∀ b o, (ρ b = 1 ∨ ρ b = 2) -> s.heap.get? b = some o -> s'.heap.get? b = some o := fun b o hb e => R'.hid b o (by dsimp only; rw [if_pos hb]; exact e)
 refine zN hm ?_; (try clear hm); intro oL es ep hL hLd hLk hLf
 refine { ok := R.ok, ac := R.ac, above := R.above, os := R'.os, bare := R'.bare, gen := R'.gen, keep := R'.keep, hid := ?_, loc := ?_, cel := ?_, inj := R.inj, fre := R.fre, sto := R'.sto, role := ?_ }
 ·intro b o e
  refine R'.hid b o ?_
  dsimp only
  rw [if_neg (by rw [r3 b o e]; decide)]; exact e
 ·exact ⟨m, ⟨oL, es, ep, hid' _ _ (.inl r1) hL, hLd, hLk, hLf⟩, hv⟩
 ·intro y a h1 h2
  refine zB (R.cel y a h1 h2) ?_; intro u nn_225 hu; obtain ⟨oc, hc, hcd⟩ := nn_225
  exact ⟨u, ⟨oc, hid' _ _ (.inr (r2 y a h1 h2)) hc, hcd⟩, hu⟩
 refine ⟨fun b => if (ρ b = 1 ∨ ρ b = 2) /\ (s.heap.get? b).isSome = true then ρ b else ρ' b, fun b o e => ?_, ?_, fun y a h1 h2 => ?_, fun b o e => ?_, fun b o e => ?_⟩
 ·dsimp only
  rw [if_neg (by rw [r0 b o e]; rintro ⟨q | q, _⟩ <;> cases q)]; exact q0 b o e
 ·dsimp only
  rw [if_pos ⟨.inl r1, by rw [hL]; rfl⟩]; exact r1
 ·(refine zB (R.cel y a h1 h2) ?_; intro u nn_224 hu; obtain ⟨oc, hc, hcd⟩ := nn_224)
  have := r2 y a h1 h2
  dsimp only
  rw [if_pos ⟨.inr this, by rw [hc]; rfl⟩]; exact this
 ·dsimp only
  rw [if_neg (by rw [r3 b o e]; rintro ⟨q | q, _⟩ <;> cases q)]
  refine q3 b o ?_
  dsimp only
  rw [if_neg (by rw [r3 b o e]; decide)]; exact e
 dsimp only
 rw [if_neg ?_]
 ·exact q4 b o e
 intro q_
 refine zL q_ ?_; clear q_; intro hb hs
 refine zI (Option.isSome_iff_exists.mp hs) ?_; intro o' ho'
 have := q3 b o' (by dsimp only; rw [if_pos hb]; exact ho')
 rw [q4 b o e] at this; cases this
theorem WC_def {f : Addr} {as : List Value} {B : List (Str × Value)} {body : List Stmt} {scope : Scope} {fd : FuncData} {n : Nat} (hd : c.Deep (n + 1)) (F : FnIs g.K f body scope fd) (hsc : scopeOk scope = true)
  (hbind : ∀ us, us.map er = as -> ∃ bs, bindArgs fd ⟨us, []⟩ = pure bs /\ bs.map (fun p => (p.1, er p.2)) = B)
  (hkind : (B.all fun y => scope.names.lookup y.1 == some .local || scope.names.lookup y.1 == some .cell) = true)
  (h : ∀ c' : Ac, c'.env.scope = scope -> c'.ext = (fun _ => false) -> c'.Deep n -> WXs g c' body ⟨bindM B fun _ => none, S.σ⟩ fun fl S' => Q (retV fl) ⟨S.m, S'.σ⟩) : WC g c (.ref f) as S Q := by
 intro us hus H s R
 o_shape
 refine zB (hbind us hus) ?_; intro bs hb rfl_223; subst rfl_223
 refine el_EEE F.at_ ?_; intro oc od osl ho
 obtain ⟨k1, k2, k3⟩ : scope.kind = .function /\ scope.isCoroutine = false /\ scope.isGenerator = false := by
  simp only [scopeOk, Bool.and_eq_true, beq_iff_eq, Bool.not_eq_true'] at hsc
  exact ⟨hsc.1.1.1, hsc.1.1.2, hsc.1.2⟩
 have hfs := F.scope
 refine wpAny_call (codeAny_call_cells R.room (R.in_K _ _ ho) rfl R.nolimit (codeRec_of R.in_K F.cd) F.body hb F.clo (fun y hy => ?_) (fun s1 x => ?_) (by rw [hfs]; exact k2) (by rw [hfs]; exact k3) (by rw [hfs]; exact k1))
 ·rw [hfs]
  have := List.all_eq_true.mp hkind (y.1, er y.2) (List.mem_map.mpr ⟨y, hy, rfl⟩)
  rcases Bool.or_eq_true_iff.mp this with q | q
  ·exact .inl (by simpa using q)
  have q' : scope.names.lookup y.1 = some .cell := by simpa using q
  exact .inr ⟨q', cellsFrom_some _ _ _ (.inl q')⟩
 refine zB (enter R hd hsc hfs F.gl F.bl x) ?_; intro H' R' back
 refine goK (h ⟨c.A.deeper (callEnvC fd s.heap.objs.size f), callEnvC fd s.heap.objs.size f, fun _ => false⟩ hfs rfl ?_ H' s1 R') (fun fl s' S' R2 q => ?_)
 ·unfold Ac.Deep at hd ⊢
  simp only [Around.deeper]
  exact om01 ‹_›
 refine ⟨⟨S.m, S'.σ⟩, back S' s' R2, ?_⟩
 cases fl <;> exact q
noncomputable def Hid.put (H : Hid) (a : Addr) (ob : Obj) : Hid := ⟨fun b => if b = a then some ob else H.objs b, H.gens⟩
noncomputable def Hid.cut (H : Hid) (a : Addr) : Hid := ⟨fun b => if b = a then none else H.objs b, H.gens⟩
theorem Hid.put_self (H : Hid) (a : Addr) (ob : Obj) : (H.put a ob).objs a = some ob := if_pos rfl
theorem Hid.put_put (H : Hid) (a : Addr) (ob ob' : Obj) : (H.put a ob).put a ob' = H.put a ob' := by
 unfold Hid.put
 congr 1
 funext b
 dsimp only
 split <;> rfl
theorem Hid.put_same (H : Hid) {a : Addr} {ob : Obj} (h : H.objs a = some ob) : H.put a ob = H := by
 cases H with
 | mk o gs =>
  unfold Hid.put
  congr 1
  funext b
  dsimp only
  split
  ·rename_i q; subst q; exact h.symm
  rfl
theorem Hid.put_cut (H : Hid) (a : Addr) (ob : Obj) (h : H.objs a = none) : (H.put a ob).cut a = H := by
 cases H with
 | mk o gs =>
  unfold Hid.put Hid.cut
  congr 1
  funext b
  dsimp only
  split
  ·rename_i q; subst q; exact h.symm
  rfl
theorem Rel.free_hid {H : Hid} {s : Shared} (R : Rel g c H S s) {a : Addr} (h : s.heap.get? a = none) : H.objs a = none := by
 cases q : H.objs a with
 | none => rfl
 | some o => have := R.hid a o q; rw [h] at this; exact Mine.ns this
theorem Rel.lose {H : Hid} {s : Shared} (R : Rel g c H S s) {a : Addr} {ob : Obj} (ha : H.objs a = some ob) (hc : ∀ u, ob.data = .cell u -> False) {h' : Heap} {tk : Tok} (hk : Heap.ExtBut a s.heap h') : Rel g c (H.cut a) S { s with heap := h', toks := tk } := by
 refine zK R.role ?_; intro ρ r0 r1 r2 r3 r4
 have ra := r3 _ _ ha
 refine { ok := R.ok, ac := R.ac, above := R.above, os := R.os, bare := R.bare, gen := R.gen, inj := R.inj, keep := ?_, hid := ?_, loc := ?_, cel := ?_, fre := ?_, sto := ?_, role := ⟨ρ, r0, r1, r2, fun b o e => ?_, r4⟩ }
 ·exact fun b o e => hk b o (Rel.ne (r0 b o e) ra) (R.keep b o e)
 ·intro b o e
  unfold Hid.cut at e
  dsimp only at e
  split at e
  ·exact Mine.ns e
  rename_i hb; exact hk _ _ hb (R.hid b o e)
 ·(refine zB R.loc ?_; intro m hm hv)
  exact ⟨m, hm.extBut hk (Rel.ne r1 ra), hv⟩
 ·intro y b h1 h2
  refine zB (R.cel y b h1 h2) ?_; intro u nn_228 hu; obtain ⟨oc, hc, hd⟩ := nn_228
  exact ⟨u, ⟨oc, hk _ _ (Rel.ne (r2 y b h1 h2) ra) hc, hd⟩, hu⟩
 ·intro y b h1 h2 w e
  refine zD (R.fre y b h1 h2 w e) ?_; intro ob1 u h3 h4 h5
  refine ⟨ob1, u, ?_, h4, h5⟩
  show (if b = a then none else H.objs b) = _
  rw [if_neg (by rintro rfl; rw [ha] at h3; (replace h3 := Option.some.inj h3; subst h3); exact hc _ h4)]; exact h3
 ·intro b o e
  refine zB (R.sto b o e) ?_; intro ob h1 h2
  exact ⟨ob, hk _ _ (Rel.ne (r4 b o e) ra) h1, h2⟩
 unfold Hid.cut at e
 dsimp only at e
 split at e
 ·exact Mine.ns e
 exact r3 b o e
structure ItSpec (g : Gl Str) (xs : List Value) (Ok : St Str -> Prop) where
 St_ : Nat -> Obj -> Prop
 noCell : ∀ i ob u, St_ i ob -> ob.data = .cell u -> False
 next : ∀ (c : Ac) (H : Hid) (S : St Str) (s : Shared) (it : Addr) (i : Nat) (ob : Obj) (x : Value), H.objs it = some ob -> St_ i ob -> Rel g c H S s -> Ok S -> xs[i]? = some x ->
  wpAny (model g.prog g.w) c.A (pyNext (.ref it)) (fun r s' => ∃ u ob', r = some u /\ er u = x /\ St_ (i + 1) ob' /\ Rel g c (H.put it ob') S s') (fun _ _ => False) s
 done : ∀ (c : Ac) (H : Hid) (S : St Str) (s : Shared) (it : Addr) (i : Nat) (ob : Obj), H.objs it = some ob -> St_ i ob -> Rel g c H S s -> Ok S -> xs[i]? = none ->
  wpAny (model g.prog g.w) c.A (pyNext (.ref it)) (fun r s' => r = none /\ Rel g c (H.cut it) S s') (fun _ _ => False) s
 lets : ∀ (c : Ac) (H : Hid) (S : St Str) (s : Shared) (it : Addr) (i : Nat) (ob : Obj) (t : Expr) (v : Value), H.objs it = some ob -> St_ i ob -> Rel g c H S s ->
  wpAny (model g.prog g.w) c.A (letOwnedTupleGo t (.ref it) v) (fun _ s' => ∃ ob', St_ i ob' /\ Rel g c (H.put it ob') S s') (fun _ _ => False) s
 again : ∀ (c : Ac) (H : Hid) (S : St Str) (s : Shared) (it : Addr) (i : Nat) (ob : Obj) (P : Value -> Shared -> Prop) (E : Value -> Shared -> Prop), H.objs it = some ob -> St_ i ob -> Rel g c H S s -> P (.ref it) s ->
  wpAny (model g.prog g.w) c.A (pyIter (.ref it)) P E s
noncomputable def Iterable (g : Gl Str) (c : Ac) (v : Value) (xs : List Value) (Ok : St Str -> Prop) (S : St Str) : Prop :=
 ∀ H s u, er u = v -> Rel g c H S s -> wpAny (model g.prog g.w) c.A (pyIter u) (fun it s' => ∃ (a : Addr) (ob : Obj) (sp : ItSpec g xs Ok), it = .ref a /\ H.objs a = none /\ sp.St_ 0 ob /\ Rel g c (H.put a ob) S s') (fun _ _ => False) s
noncomputable def plainIter (o : Obj) : Bool := match o.cls with
 | .type n => !(["enumerate", "zip", "dict_itemiterator", "dict_reverseitemiterator", "odict_iterator", "itertools.zip_longest", "itertools.pairwise"].contains n)
 | _ => true
theorem zy {M : Model} {A : Around} {E : Value -> Shared -> Prop} {s : Shared} {it : Addr} {ob : Obj} {t : Expr} {v : Value} {P : Unit -> Shared -> Prop} (hg : s.heap.get? it = some ob) (hp : plainIter ob = true) (h : P () s) :
  wpAny M A (letOwnedTupleGo t (.ref it) v) P E s := by
 unfold letOwnedTupleGo
 have body : wpAny M A (match (Value.ref it, v) with
  | (.ref r, .ref a) => do
   let o ← load r
   match o.cls, o.data with
   | .type n, .fields vs =>
    if ["enumerate", "zip", "dict_itemiterator", "dict_reverseitemiterator", "odict_iterator", "itertools.zip_longest", "itertools.pairwise"].contains n && vs[0]? == some (rawInt a) then
     rule "for.unpacks-the-owned-tuple"
     updateField r 0 .none
   | _, _ => pure ()
  | _ => pure ()) P E s := by
  cases v with
  | ref a =>
   refine wpAny_bind (wpAny_load hg ?_)
   unfold plainIter at hp
   cases q : ob.cls with
   | type n =>
    rw [q] at hp
    dsimp only at hp ⊢
    cases ob.data <;> try exact wpAny_pure h
    dsimp only
    rw [if_neg (by rw [Bool.not_eq_true'] at hp; rw [hp]; simp)]
    exact wpAny_pure h
   | _ => exact wpAny_pure h
  | _ => exact wpAny_pure h
 cases t <;> first | exact body | exact wpAny_pure h
section
variable {a : Addr} {xs : List Value}
theorem nthMap {arr : Array Value} {i : Nat} {x : Value} (h : (arr.toList.map er)[i]? = some x) : ∃ y, arr[i]? = some y /\ er y = x := get_er h
theorem nthNone {arr : Array Value} {i : Nat} (h : (arr.toList.map er)[i]? = none) : arr[i]? = none := by
 rw [List.getElem?_map, Option.map_eq_none_iff] at h
 simpa using h
noncomputable def itList (g : Gl Str) (a : Addr) (xs : List Value) : ItSpec g xs (fun S => S.σ a = some (.list xs)) where
 St_ i ob := ob.cls = .type "list_iterator" /\ ob.data = .fields #[.ref a, .int i 0]
 noCell i ob u h e := by rw [h.2] at e; exact (nomatch e)
 next c H S s it i ob x hH hS R ok hx := by
  refine zE (R.list ok) ?_; intro arr n h1 h2 h3 h4
  refine zB (nthMap (arr := arr) (by rw [h3]; exact hx)) ?_; intro u e1 e2
  refine wpAny_pyNext_list_item ⟨ob, R.hid _ _ hH, hS.1, hS.2⟩ h2 e1 fun h' hit hs => ?_
  refine zJ hit ?_; (try clear hit); intro ob' g1 g2 g3
  exact ⟨u, ob', rfl, e2, ⟨g2, g3⟩, R.turn (tk := s.toks) hH hs.extBut g1 fun u e => by rw [hS.2] at e; exact (nomatch e)⟩
 done c H S s it i ob hH hS R ok hx := by
  refine zE (R.list ok) ?_; intro arr n h1 h2 h3 h4
  exact wpAny_pyNext_list_end R.ac.hd ⟨ob, R.hid _ _ hH, hS.1, hS.2⟩ h2 (nthNone (by rw [h3]; exact hx)) fun h' hs => ⟨rfl, R.lose (tk := s.toks) hH (fun u e => by rw [hS.2] at e; exact (nomatch e)) hs⟩
 lets c H S s it i ob t v hH hS R := zy (R.hid _ _ hH) (by unfold plainIter; rw [hS.1]; rfl) ⟨ob, hS, by rw [H.put_same hH]; exact R⟩
 again c H S s it i ob P E hH hS R h := wpAny_pyIter_listiter ⟨ob, R.hid _ _ hH, hS.1, hS.2⟩ h
theorem zU (ha : S.σ a = some (.list xs)) : Iterable g c (.ref a) xs (fun S => S.σ a = some (.list xs)) S := by
 intro H s u hu R
 obtain rfl := zH hu
 refine zE (R.list ha) ?_; intro arr n h1 h2 h3 h4
 exact wpAny_pyIter_list h2 ⟨_, _, itList g a xs, rfl, R.free_hid (zG _), ⟨rfl, rfl⟩, R.hide (tk := s.toks) (Heap.ExtBut.push (Heap.ExtBut.refl _ _) _) (zG _) (Heap.get?_push_size _ rfl)⟩
noncomputable def itTup (g : Gl Str) (a : Addr) (xs : List Value) : ItSpec g xs (fun S => S.σ a = some (.tup xs)) where
 St_ i ob := ob.cls = .type "tuple_iterator" /\ ob.data = .fields #[.ref a, .int i 0]
 noCell i ob u h e := by rw [h.2] at e; exact (nomatch e)
 next c H S s it i ob x hH hS R ok hx := by
  refine zE (R.tup ok) ?_; intro arr n h1 h2 h3 h4
  refine zB (nthMap (arr := arr) (by rw [h3]; exact hx)) ?_; intro u e1 e2
  refine wpAny_pyNext_tuple_item ⟨ob, R.hid _ _ hH, hS.1, hS.2⟩ h2 e1 fun h' hit hs => ?_
  refine zJ hit ?_; (try clear hit); intro ob' g1 g2 g3
  exact ⟨u, ob', rfl, e2, ⟨g2, g3⟩, R.turn (tk := s.toks) hH hs.extBut g1 fun u e => by rw [hS.2] at e; exact (nomatch e)⟩
 done c H S s it i ob hH hS R ok hx := by
  refine zE (R.tup ok) ?_; intro arr n h1 h2 h3 h4
  exact wpAny_pyNext_tuple_end R.ac.hd ⟨ob, R.hid _ _ hH, hS.1, hS.2⟩ h2 (nthNone (by rw [h3]; exact hx)) fun h' hs => ⟨rfl, R.lose (tk := s.toks) hH (fun u e => by rw [hS.2] at e; exact (nomatch e)) hs⟩
 lets c H S s it i ob t v hH hS R := zy (R.hid _ _ hH) (by unfold plainIter; rw [hS.1]; rfl) ⟨ob, hS, by rw [H.put_same hH]; exact R⟩
 again c H S s it i ob P E hH hS R h := wpAny_pyIter_tupleiter ⟨ob, R.hid _ _ hH, hS.1, hS.2⟩ h
theorem iter_tup (ha : S.σ a = some (.tup xs)) : Iterable g c (.ref a) xs (fun S => S.σ a = some (.tup xs)) S := by
 intro H s u hu R
 obtain rfl := zH hu
 refine zE (R.tup ha) ?_; intro arr n h1 h2 h3 h4
 exact wpAny_pyIter_tuple h2 ⟨_, _, itTup g a xs, rfl, R.free_hid (zG _), ⟨rfl, rfl⟩, R.hide (tk := s.toks) (Heap.ExtBut.push (Heap.ExtBut.refl _ _) _) (zG _) (Heap.get?_push_size _ rfl)⟩
end
noncomputable abbrev ForQ (Inv : Nat -> St Str -> Prop) (i : Nat) (Q : Flow -> St Str -> Prop) (fl : Flow) (S4 : St Str) : Prop := match fl with | .next | .cont => Inv (i + 1) S4 | .brk => Q .next S4 | .ret v => Q (.ret v) S4
noncomputable abbrev WhileQ (I : Nat -> St Str -> Prop) (n : Nat) (Q : Flow -> St Str -> Prop) (fl : Flow) (S2 : St Str) : Prop := match fl with | .next | .cont => ∃ m, m < n /\ I m S2 | .brk => Q .next S2 | .ret v => Q (.ret v) S2
inductive ForPost (g : Gl Str) (c : Ac) (target : Expr) (body : List Stmt) (orelse : List Stmt) (Q : Flow -> St Str -> Prop) (v : Value) (S1 : St Str) : Prop
 | mk (xs : List Value) (Ok : St Str -> Prop) (h_1 : Iterable g c v xs Ok S1) (Inv : Nat -> St Str -> Prop) (h_2 : Inv 0 S1) (h_3 : (∀ i S2, Inv i S2 -> Ok S2)) (h_4 : (∀ i x S2, xs[i]? = some x -> Inv i S2 -> WAsg g c target x S2 fun S3 => WXs g c body S3 (ForQ Inv i Q))) (h_5 : ∀ S2, Inv xs.length S2 -> WXs g c orelse S2 Q) : ForPost g c target body orelse Q v S1
theorem WX_For {target iter : Expr} {body orelse : List Stmt} {pos : Pos} {Q : Flow -> St Str -> Prop} (hs : ∀ env x, foldedSetIterable iter env x = pure x)
  (h : WE g c iter S (ForPost g c target body orelse Q)) : WX g c (.For target iter body orelse pos) S Q := by
 intro H s R
 o_shape
 refine wpAny_For (goK (h H s R) (fun u s1 S1 R1 q_ => ?_)) (fun x => hs _ x)
 obtain ⟨xs, Ok, hit, Inv, h0, hok, turn, fin⟩ := q_
 refine wpAny_mono (hit H s1 u rfl R1) (fun it s2 q_ => ?_) fun _ _ x => x.elim
 refine zN q_ ?_; clear q_; intro a ob sp e hfree hst R2
 subst e
 let II : Nat -> Shared -> Prop := fun k s' => ∃ i ob S', k + i = xs.length /\ sp.St_ i ob /\ Rel g c (H.put a ob) S' s' /\ Inv i S'
 refine codeAny_forLoop_any II (fun k s' q_ => ?_) xs.length ⟨0, ob, S1, by exact Nat.sub_zero _, hst, R2, h0⟩
 refine zN q_ ?_; clear q_; intro i ob S' hk hst R' hI
 have nocell : ∀ ob i, sp.St_ i ob -> ∀ u, ob.data = .cell u -> False := fun ob i h u e => sp.noCell i ob u h e
 have back : ∀ ob i S' s', sp.St_ i ob -> Rel g c (H.put a ob) S' s' -> Rel g c H S' s' := fun ob i S' s' hs R => by
  have := R.lose (tk := s'.toks) (H.put_self a ob) (nocell ob i hs) (Heap.ExtBut.refl a s'.heap)
  rwa [H.put_cut a ob hfree] at this
 cases hx : xs[i]? with
 | none =>
  refine wpAny_mono (sp.done c _ S' s' a i ob (H.put_self a ob) hst R' (hok i S' hI) hx) (fun r s3 q_ => ?_) fun _ _ x => x.elim
  refine zL q_ ?_; clear q_; intro e R3
  subst e
  rw [H.put_cut a ob hfree] at R3
  have : i = xs.length := by
   have := List.getElem?_eq_none_iff.mp hx; exact om05 ‹_› ‹_›
  subst this
  exact wpAny_mono (fin S' hI H s3 R3) (fun f s4 q => q) fun _ _ x => x.elim
 | some x =>
  refine wpAny_mono (sp.next c _ S' s' a i ob x (H.put_self a ob) hst R' (hok i S' hI) hx) (fun r s3 q_ => ?_) fun _ _ x => x.elim
  refine zE q_ ?_; clear q_; intro u ob' e hu hst' R3
  subst e
  rw [H.put_put] at R3
  refine wpAny_mono (sp.lets c _ S' s3 a (i + 1) ob' target u (H.put_self a ob') hst' R3) (fun _ s4 q_ => ?_) fun _ _ x => x.elim
  refine zB q_ ?_; clear q_; intro ob2 hst2 R4
  rw [H.put_put] at R4
  refine goK (turn i x S' hx hI u hu _ s4 R4) (fun _ sa S5 R5 q => ?_)
  refine goK (q _ sa R5) (fun f s6 S6 R6 qd => ?_)
  have hlt : i < xs.length := (List.getElem?_eq_some_iff.mp hx).1
  cases f with
  | next => exact ⟨k - 1, by exact om06 ‹_› ‹_›, i + 1, ob2, S6, by exact om03 ‹_› ‹_›, hst2, R6, qd⟩
  | cont => exact ⟨k - 1, by exact om06 ‹_› ‹_›, i + 1, ob2, S6, by exact om03 ‹_› ‹_›, hst2, R6, qd⟩
  | brk => exact ⟨S6, back ob2 _ S6 s6 hst2 R6, qd⟩
  | ret v => exact ⟨S6, back ob2 _ S6 s6 hst2 R6, qd⟩
theorem WX_While {test : Expr} {body orelse : List Stmt} {pos : Pos} {Q : Flow -> St Str -> Prop} (I : Nat -> St Str -> Prop) (n : Nat) (h0 : I n S)
  (turn : ∀ n S, I n S -> WT g c test S fun b S1 => if b = true then WXs g c body S1 (WhileQ I n Q) else WXs g c orelse S1 Q) : WX g c (.While test body orelse pos) S Q := by
 intro H s R
 o_shape
 let II : Nat -> Shared -> Prop := fun k s' => ∃ S', Rel g c H S' s' /\ I k S'
 refine wpAny_While (codeAny_whileLoop II (fun k s' q_ => ?_) n ⟨S, R, h0⟩)
 refine zB q_ ?_; clear q_; intro S' R' hI
 refine goK (turn k S' hI H s' R') (fun b s1 S1 R1 q => ?_)
 cases b with
 | false =>
  rw [if_neg Bool.false_ne_true] at q ⊢
  exact wpAny_mono (q H s1 R1) (fun f s2 q => q) fun _ _ x => x.elim
 | true =>
  rw [if_pos rfl] at q ⊢
  refine goK (q H s1 R1) (fun f s2 S2 R2 qc => ?_)
  cases f with
  | next => (refine zB qc ?_; (try clear qc); intro m hm hI); exact ⟨m, hm, S2, R2, hI⟩
  | cont => (refine zB qc ?_; (try clear qc); intro m hm hI); exact ⟨m, hm, S2, R2, hI⟩
  | brk => exact ⟨S2, R2, qc⟩
  | ret v => exact ⟨S2, R2, qc⟩
noncomputable def relabelS (scope outer : Scope) : Scope :=
 { scope with names := scope.names.map fun (n, k) => if (k == .free && outer.kind == .function && outer.names.lookup n == some .cell) then (n, .cell) else (n, k) }
theorem relabelS_lookup (scope outer : Scope) (x : Str) : (relabelS scope outer).names.lookup x = match scope.names.lookup x with
  | some .free => if (outer.kind == .function && outer.names.lookup x == some .cell) = true then some .cell else some .free
  | r => r := by
 unfold relabelS
 dsimp only
 induction scope.names with
 | nil => rfl
 | cons p r ih =>
  obtain ⟨n, k⟩ := p
  rw [List.map_cons]
  cases hx : x == n with
  | true =>
   have : x = n := beq_iff_eq.mp hx
   subst this
   cases k <;> simp [List.lookup_cons]
   split <;> simp_all
  | false =>
   have : (if (k == NameKind.free && outer.kind == ScopeKind.function && outer.names.lookup n == some NameKind.cell) = true then (n, NameKind.cell) else (n, k)).1 = n := by split <;> rfl
   rw [List.lookup_cons, List.lookup_cons, this, hx]
   exact ih
noncomputable def extOf (scope : Scope) : Str -> Bool := fun x => scope.names.lookup x == some .free
noncomputable def compM (scope : Scope) (m : Str -> Option Value) : Str -> Option Value := fun x => if (scope.names.lookup x == some .free) = true then m x else none
noncomputable def compOk (scope outer : Scope) : Bool := scope.kind == .function && decide ((scope.names.map (·.1)).Nodup) && scope.names.all fun x => x.2 != .free || (outer.names.lookup x.1 == some .cell || outer.names.lookup x.1 == some .free)
noncomputable def closL (cells : List (Str × Addr)) : List (Str × NameKind) -> List (Str × Addr) -> List (Str × Addr)
 | [], acc => acc
 | (x, k) :: r, acc => if k == .free then closL cells r ((x, (cells.lookup x).getD 0) :: acc) else closL cells r acc
theorem closureFor_eq {scope : Scope} {env : Env} (h : ∀ x ∈ scope.names, x.2 = .free -> (env.cells.lookup x.1).isSome = true) : closureFor scope env = pure (closL env.cells scope.names []) := by
 unfold closureFor
 have key : ∀ (names : List (Str × NameKind)) (acc : List (Str × Addr)), (∀ x ∈ names, x.2 = .free -> (env.cells.lookup x.1).isSome = true) ->
   (forIn names acc fun (x : Str × NameKind) r => (if (x.2 == NameKind.free) = true then do
     let a ← cellOf env x.1
     pure (ForInStep.yield ((x.1, a) :: r))
    else pure (ForInStep.yield r) : Sem (ForInStep (List (Str × Addr))))) = pure (closL env.cells names acc) := by
  intro names
  induction names with
  | nil => intro acc _; rfl
  | cons p r ih =>
   intro acc hp
   obtain ⟨n, k⟩ := p
   rw [List.forIn_cons]
   unfold closL
   by_cases hk : (k == NameKind.free) = true
   ·(refine zI (Option.isSome_iff_exists.mp (hp (n, k) (.head _) (beq_iff_eq.mp hk))) ?_; intro a ha)
    rw [if_pos hk, if_pos hk]
    have e : cellOf env n = pure a := by unfold cellOf; rw [ha]
    dsimp only
    rw [e]
    show (forIn r ((n, a) :: acc) _ : Sem _) = _
    rw [ih _ fun x hx => hp x (.tail _ hx), ha]; rfl
   rw [if_neg hk, if_neg hk]
   show (forIn r acc _ : Sem _) = _
   exact ih acc fun x hx => hp x (.tail _ hx)
 have := key scope.names [] h
 exact (congrArg (fun t : Sem (List (Str × Addr)) => t >>= fun cs => pure cs) this)
theorem closL_lookup {cells : List (Str × Addr)} {x : Str} {a : Addr} : ∀ (names : List (Str × NameKind)) (acc : List (Str × Addr)), (∀ y ∈ names, y.2 = .free -> (cells.lookup y.1).isSome = true) -> (∀ b, acc.lookup x = some b -> cells.lookup x = some b) ->
  (closL cells names acc).lookup x = some a -> cells.lookup x = some a
 | [], acc, _, h, e => h a e
 | (n, k) :: r, acc, hn, h, e => by
  unfold closL at e
  split at e
  ·rename_i hk
   refine closL_lookup r _ (fun y hy => hn y (.tail _ hy)) (fun b hb => ?_) e
   rw [List.lookup_cons] at hb
   cases hx : x == n with
   | true =>
    rw [hx] at hb
    obtain rfl := beq_iff_eq.mp hx
    refine zI (Option.isSome_iff_exists.mp (hn (x, k) (.head _) (beq_iff_eq.mp hk))) ?_; intro c hc
    rw [hc] at hb ⊢; exact hb
   | false => rw [hx] at hb; exact h b hb
  exact closL_lookup r _ (fun y hy => hn y (.tail _ hy)) h e
theorem closL_some {cells : List (Str × Addr)} {x : Str} : ∀ (names : List (Str × NameKind)) (acc : List (Str × Addr)), ((x, NameKind.free) ∈ names ∨ (acc.lookup x).isSome = true) -> ((closL cells names acc).lookup x).isSome = true
 | [], acc, h => h.elim (fun q => nomatch q) id
 | (n, k) :: r, acc, h => by
  unfold closL
  split
  ·rename_i hk
   refine closL_some r _ ?_
   cases hx : x == n with
   | true => exact .inr (by rw [List.lookup_cons, hx]; rfl)
   | false =>
    refine h.imp (fun q => ?_) fun q => by rw [List.lookup_cons, hx]; exact q
    rcases List.mem_cons.mp q with q | q
    ·cases q; simp at hx
    exact q
  rename_i hk
  refine closL_some r _ (h.imp (fun q => ?_) id)
  rcases List.mem_cons.mp q with q | q
  ·cases q; exact absurd rfl hk
  exact q
theorem zu : ∀ (names : List (Str × NameKind)) (n : Nat) (acc : List (Str × Addr)), cellsFrom n names acc = cellsFrom n names [] ++ acc
 | [], _, acc => rfl
 | (x, k) :: r, n, acc => by
  unfold cellsFrom
  split
  ·rw [zu r (n + 1) ((x, n) :: acc), zu r (n + 1) [(x, n)], List.append_assoc]; rfl
  exact zu r n acc
theorem cellsFrom_only {x : Str} : ∀ (names : List (Str × NameKind)) (n : Nat) (acc : List (Str × Addr)), ((cellsFrom n names acc).lookup x).isSome = true -> (x, NameKind.cell) ∈ names ∨ (acc.lookup x).isSome = true
 | [], _, acc, h => .inr h
 | (y, k) :: r, n, acc, h => by
  unfold cellsFrom at h
  split at h
  ·rename_i hk
   rcases cellsFrom_only r _ _ h with q | q
   ·exact .inl (.tail _ q)
   rw [List.lookup_cons] at q
   cases hx : x == y with
   | true => obtain rfl := beq_iff_eq.mp hx; obtain rfl := beq_iff_eq.mp hk; exact .inl (.head _)
   | false => rw [hx] at q; exact .inr q
  rcases cellsFrom_only r _ _ h with q | q
  ·exact .inl (.tail _ q)
  exact .inr q
theorem lookup_append {α : Type} (x : Str) : ∀ (l r : List (Str × α)), (l ++ r).lookup x = match l.lookup x with | some a => some a | none => r.lookup x
 | [], r => rfl
 | (y, a) :: l, r => by
  rw [List.cons_append, List.lookup_cons, List.lookup_cons]
  cases x == y with
  | true => rfl
  | false => exact lookup_append x l r
theorem mem_unique {x : Str} {k k' : NameKind} : ∀ {names : List (Str × NameKind)}, (names.map (·.1)).Nodup -> (x, k) ∈ names -> (x, k') ∈ names -> k = k'
 | [], _, h, _ => nomatch h
 | p :: r, nd, h, h' => by
  refine zL (List.nodup_cons.mp nd) ?_; intro h1 h2
  rcases List.mem_cons.mp h with q | q <;> rcases List.mem_cons.mp h' with q' | q'
  ·rw [← q] at q'; cases q'; rfl
  ·exact absurd (List.mem_map.mpr ⟨_, q', by rw [← q]⟩) h1
  ·exact absurd (List.mem_map.mpr ⟨_, q, by rw [← q']⟩) h1
  exact mem_unique h2 q q'
noncomputable def compEnv (scope : Scope) (env : Env) (C : Addr) : Env :=
 { scope := relabel scope env, locals := C, globals := env.globals, cells := cellsFrom (C + 1) scope.names (closL env.cells scope.names []), qual := env.qual, func := none, code := env.code, frame := env.frame, builtins := env.builtins }
noncomputable def compAc (scope : Scope) (c : Ac) (C : Addr) : Ac := ⟨c.A, compEnv scope c.env C, extOf scope⟩
theorem enterComp {H : Hid} {s : Shared} (R : Rel g c H S s) {scope : Scope} (hsc : compOk scope c.env.scope = true) :
  closureFor scope c.env = pure (closL c.env.cells scope.names []) /\
  ∃ (H' : Hid) (own : Addr -> Prop), (∀ b, own b -> ∃ o, s.heap.get? b = some o /\ H'.objs b = some o) /\ (∀ b, ¬ own b -> H'.objs b = H.objs b) /\ H'.gens = H.gens /\ (∀ b o, H.objs b = some o -> ¬ own b) /\
   Rel g (compAc scope c s.heap.objs.size) H' ⟨compM scope S.m, S.σ⟩ { s with heap := pushCells (s.heap.push { cls := .type "dict", data := .dict #[] }) scope.names } /\
   (∀ Ht H'' S' s' h', Rel g (compAc scope c s.heap.objs.size) H'' S' s' -> (∀ b, own b -> ∃ o, s.heap.get? b = some o /\ H''.objs b = some o) -> (∀ b o, Ht.objs b = some o -> H''.objs b = some o) -> (∀ b o, Ht.objs b = some o -> ¬ own b) ->
    (∀ b o u, H.objs b = some o -> o.data = .cell u -> Ht.objs b = some o) -> (∀ p ∈ Ht.gens, p ∈ H''.gens) ->
    Heap.SameBut s.heap.objs.size s'.heap h' -> Rel g c Ht ⟨S.m, S'.σ⟩ { s' with heap := h' }) /\
   ∀ (Ht : Hid) H'' S' s' oC, Rel g (compAc scope c s.heap.objs.size) H'' S' s' -> (∀ b, own b -> ∃ o, s.heap.get? b = some o /\ H''.objs b = some o) -> (∀ b o, Ht.objs b = some o -> H''.objs b = some o) -> (∀ b o, Ht.objs b = some o -> ¬ own b) ->
    (∀ b o u, H.objs b = some o -> o.data = .cell u -> Ht.objs b = some o) -> (∀ p ∈ Ht.gens, p ∈ H''.gens) ->
    s'.heap.get? s.heap.objs.size = some oC -> Rel g c (Ht.put s.heap.objs.size oC) ⟨S.m, S'.σ⟩ s' := by
 simp only [compOk, Bool.and_eq_true, beq_iff_eq, decide_eq_true_eq] at hsc
 refine zL hsc ?_; (try clear hsc); intro nn_235 k3; obtain ⟨k1, k2⟩ := nn_235
 have hfree : ∀ x, (x, NameKind.free) ∈ scope.names -> c.env.kindOf x = some .cell ∨ c.env.kindOf x = some .free := fun x hx => by
  have := List.all_eq_true.mp k3 (x, .free) hx
  simpa [Env.kindOf] using this
 have hcells : ∀ x ∈ scope.names, x.2 = .free -> (c.env.cells.lookup x.1).isSome = true := fun x hx he => by
  obtain ⟨x, k⟩ := x
  subst he
  rcases hfree x hx with q | q
  ·(refine zI (R.ac.cells x q) ?_; intro a ha); rw [ha]; rfl
  (refine el_AE (R.ac.frees x q) ?_; intro _ a ha); rw [ha]; rfl
 refine ⟨closureFor_eq hcells, ?_⟩
 refine zK R.role ?_; intro ρ r0 r1 r2 r3 r4
 refine zB R.loc ?_; intro m hm hv
 refine zN hm ?_; (try clear hm); intro oL es ep hL hLd hLk hLf
 have hlt : ∀ b o, s.heap.get? b = some o -> b < s.heap.objs.size := fun b o e => Heap.lt_size e
 have hk : ∀ b o, s.heap.get? b = some o -> (pushCells (s.heap.push { cls := .type "dict", data := .dict #[] }) scope.names).get? b = some o := fun b o e => pushCells_keeps _ _ b o (Heap.get?_push_of_some _ e)
 have okc := cellsFrom_ok scope.names (s.heap.push { cls := .type "dict", data := .dict #[] }) (s.heap.objs.size + 1) [] ⟨fun _ _ hm => (nomatch hm), List.Pairwise.nil⟩ (by rw [Heap.size_push]; exact Nat.le_refl _)
 rw [Heap.size_push] at okc
 have kind : ∀ x, (compEnv scope c.env s.heap.objs.size).kindOf x = match scope.names.lookup x with
  | some .free => if (c.env.scope.kind == .function && c.env.scope.names.lookup x == some .cell) = true then some .cell else some .free
  | r => r := fun x => relabelS_lookup scope c.env.scope x
 have look : ∀ x, (compEnv scope c.env s.heap.objs.size).cells.lookup x = match (cellsFrom (s.heap.objs.size + 1) scope.names []).lookup x with | some a => some a | none => (closL c.env.cells scope.names []).lookup x := fun x => by
  show (cellsFrom _ _ _).lookup x = _
  rw [zu, lookup_append]
  cases (cellsFrom (s.heap.objs.size + 1) scope.names []).lookup x <;> rfl
 have own_lookup : ∀ x, (compAc scope c s.heap.objs.size).Own x -> scope.names.lookup x = some .cell := fun x ⟨h1, h2⟩ => by
  have h1 : (compEnv scope c.env s.heap.objs.size).kindOf x = some .cell := h1
  rw [kind] at h1
  have h2 : (scope.names.lookup x == some .free) = false := h2
  split at h1
  ·rename_i q; rw [q] at h2; exact Mine.tf h2
  exact h1
 have own_cells : ∀ x a, (compEnv scope c.env s.heap.objs.size).cells.lookup x = some a -> (compAc scope c s.heap.objs.size).Own x -> (x, a) ∈ cellsFrom (s.heap.objs.size + 1) scope.names [] := fun x a h1 h2 => by
  rw [look] at h1
  have h3 := cellsFrom_some (x := x) scope.names (s.heap.objs.size + 1) [] (.inl (own_lookup x h2))
  split at h1
  ·rename_i b hb; (replace h1 := Option.some.inj h1; subst h1); exact mem_of_lookup hb
  rename_i hb; rw [hb] at h3; exact Mine.ft h3
 refine ⟨⟨fun b => if (ρ b = 1 ∨ ρ b = 2) /\ (s.heap.get? b).isSome = true then s.heap.get? b else H.objs b, H.gens⟩, fun b => (ρ b = 1 ∨ ρ b = 2) /\ (s.heap.get? b).isSome = true, ?_, ?_, rfl, ?_, ?_, ?_, ?_⟩
 ·intro b q_
  refine zL q_ ?_; clear q_; intro h1 h2
  refine zI (Option.isSome_iff_exists.mp h2) ?_; intro o ho
  exact ⟨o, ho, by dsimp only; rw [if_pos ⟨h1, h2⟩]; exact ho⟩
 ·intro b hb
  exact if_neg hb
 ·intro b o e q_
  refine zL q_ ?_; clear q_; intro h1 _
  rw [r3 b o e] at h1
  rcases h1 with q | q <;> cases q
 ·refine { ok := R.ok, ac := ?_, above := ?_, os := R.os, bare := R.bare, gen := R.gen, keep := fun b o e => hk b o (R.keep b o e), hid := ?_, loc := ?_, cel := ?_, inj := ?_, fre := ?_, sto := ?_, role := ?_ }
  ·refine { kind := k1, gl := R.ac.gl, bl := R.ac.bl, hd := R.ac.hd, deep := R.ac.deep, cells := fun y hy => ?_, frees := fun y hy => ?_ }
   ·have hy : (compEnv scope c.env s.heap.objs.size).kindOf y = some .cell := hy
    show ∃ a, (compEnv scope c.env s.heap.objs.size).cells.lookup y = some a
    rw [kind] at hy
    rw [look]
    split
    ·rename_i a _; exact ⟨a, rfl⟩
    rename_i hn
    split at hy
    ·rename_i q
     exact Option.isSome_iff_exists.mp (closL_some _ _ (.inl (mem_of_lookup q)))
    have h3 := cellsFrom_some (x := y) scope.names (s.heap.objs.size + 1) [] (.inl hy)
    rw [hn] at h3; exact Mine.ft h3
   have hy : (compEnv scope c.env s.heap.objs.size).kindOf y = some .free := hy
   rw [kind] at hy
   split at hy
   ·rename_i q
    refine ⟨by show (scope.names.lookup y == some .free) = true; rw [q]; rfl, ?_⟩
    show ∃ a, (compEnv scope c.env s.heap.objs.size).cells.lookup y = some a
    rw [look]
    split
    ·rename_i a _; exact ⟨a, rfl⟩
    exact Option.isSome_iff_exists.mp (closL_some _ _ (.inl (mem_of_lookup q)))
   rename_i hne; exact absurd hy hne
  ·exact Nat.le_trans R.above (Nat.le_of_lt (hlt _ _ hL))
  ·intro b o e
   dsimp only at e
   split at e
   ·exact hk b o e
   exact hk b o (R.hid b o e)
  ·exact ⟨fun _ => none, (Heap.Ns.new s.heap (.type "dict")).keeps (pushCells_keeps _ _), fun y v e hy => by
    have hy : (compEnv scope c.env s.heap.objs.size).kindOf y = some .local := hy
    rw [kind] at hy
    have e : compM scope S.m y = some v := e
    unfold compM at e
    split at e
    ·rename_i q
     rw [beq_iff_eq.mp q] at hy
     split at hy <;> (try split at hy) <;> first | exact (nomatch hy) | (rename_i hne; exact absurd rfl hne)
    ·exact Mine.ns e⟩
  ·intro y a ha hy
   refine ⟨none, (okc.empty y a (own_cells y a ha hy)).1, fun v e => ?_⟩
   have e : compM scope S.m y = some v := e
   unfold compM at e
   rw [own_lookup y hy] at e
   exact Mine.ns e
  ·intro y z a h1 h2 h3 h4
   exact name_of_addr okc.apart (own_cells y a h1 h3) (own_cells z a h2 h4)
  ·intro y a h1 h2 v e
   have q : scope.names.lookup y = some .free := beq_iff_eq.mp h2
   have h1 : (compEnv scope c.env s.heap.objs.size).cells.lookup y = some a := h1
   rw [look] at h1
   have hnone : (cellsFrom (s.heap.objs.size + 1) scope.names []).lookup y = none := by
    cases z : (cellsFrom (s.heap.objs.size + 1) scope.names []).lookup y with
    | none => rfl
    | some b =>
     rcases cellsFrom_only (x := y) scope.names (s.heap.objs.size + 1) [] (by rw [z]; rfl) with w | w
     ·have := mem_unique k2 w (mem_of_lookup q); exact (nomatch this)
     exact Mine.ft w
   rw [hnone] at h1
   have h1 : c.env.cells.lookup y = some a := closL_lookup _ _ hcells (fun b hb => by exact Mine.ns hb) h1
   have e : S.m y = some v := by
    have e : compM scope S.m y = some v := e
    unfold compM at e
    rw [q] at e
    exact e
   cases hx : c.ext y with
   | true =>
    refine zD (R.fre y a h1 hx v e) ?_; intro ob u e1 e2 e3
    refine ⟨ob, u, ?_, e2, e3⟩
    dsimp only
    rw [if_neg (by rw [r3 a ob e1]; rintro ⟨w | w, _⟩ <;> cases w)]; exact e1
   | false =>
    have hcell : c.env.kindOf y = some .cell := by
     rcases hfree y (mem_of_lookup q) with w | w
     ·exact w
     have := (R.ac.frees y w).1; rw [hx] at this; exact Mine.ft this
    refine zB (R.cel y a h1 ⟨hcell, hx⟩) ?_; intro u nn_234 hu; obtain ⟨ob, hob, hd⟩ := nn_234
    have := hu v e
    cases u with
    | none => exact Mine.ns this
    | some u =>
     refine ⟨ob, u, ?_, hd, Option.some.inj this⟩
     dsimp only
     rw [if_pos ⟨.inr (r2 y a h1 ⟨hcell, hx⟩), by rw [hob]; rfl⟩]; exact hob
  ·intro a o e
   refine zB (R.sto a o e) ?_; intro ob h1 h2
   exact ⟨ob, hk _ _ h1, h2⟩
  refine ⟨fun b => if b = s.heap.objs.size then 1 else if s.heap.objs.size ≤ b then 2 else if ρ b = 0 then 0 else if ρ b = 4 then 4 else 3, fun b o e => ?_, if_pos rfl, fun y a h1 h2 => ?_, fun b o e => ?_, fun b o e => ?_⟩
  ·have := hlt b o (R.keep b o e)
   dsimp only
   rw [if_neg (Nat.ne_of_lt this), if_neg (Nat.not_le.mpr this), if_pos (r0 b o e)]
  ·have : s.heap.objs.size + 1 ≤ a := (okc.empty y a (own_cells y a h1 h2)).2
   dsimp only
   rw [if_neg (Nat.ne_of_gt this), if_pos (Nat.le_of_lt this)]
  ·have hz : b < s.heap.objs.size /\ ρ b ≠ 0 /\ ρ b ≠ 4 := by
    dsimp only at e
    split at e
    ·rename_i q
     refine ⟨hlt b o e, ?_, ?_⟩ <;> rcases q.1 with q | q <;> rw [q] <;> decide
    refine ⟨hlt b o (R.hid b o e), ?_, ?_⟩ <;> rw [r3 b o e] <;> decide
   dsimp only
   rw [if_neg (Nat.ne_of_lt hz.1), if_neg (Nat.not_le.mpr hz.1), if_neg hz.2.1, if_neg hz.2.2]
  refine zB (R.sto b o e) ?_; intro ob h1 _
  have := hlt _ _ h1
  dsimp only
  rw [if_neg (Nat.ne_of_lt this), if_neg (Nat.not_le.mpr this), if_neg (by rw [r4 b o e]; decide), if_pos (r4 b o e)]
 ·intro Ht H'' S' s' h' R' hown hH hNo hCell hG hsame
  refine zK R'.role ?_; intro ρ' q0 q1 q2 q3 q4
  have q1 : ρ' s.heap.objs.size = 1 := q1
  have st : ∀ b o, ρ' b ≠ 1 -> s'.heap.get? b = some o -> h'.get? b = some o := fun b o hb e => (hsame.2 b (by rintro rfl; exact hb q1)).trans e
  have hid' : ∀ b o, H''.objs b = some o -> h'.get? b = some o := fun b o e => st b o (by rw [q3 b o e]; decide) (R'.hid b o e)
  have own' : ∀ b o, (ρ b = 1 ∨ ρ b = 2) -> s.heap.get? b = some o -> h'.get? b = some o := fun b o hb e => by
   refine zB (hown b ⟨hb, by rw [e]; rfl⟩) ?_; intro o' e1 e2
   rw [e] at e1; (replace e1 := Option.some.inj e1; subst e1); exact hid' b o e2
  refine { ok := R.ok, ac := R.ac, above := R.above, os := R'.os, bare := R'.bare, gen := fun p hp => R'.gen p (hG p hp), keep := fun b o e => st b o (by rw [q0 b o e]; decide) (R'.keep b o e), hid := fun b o e => hid' b o (hH b o e), loc := ?_, cel := ?_, inj := R.inj, fre := fun y a h1 h2 v e => (let ⟨ob, u, e1, e2, e3⟩ := R.fre y a h1 h2 v e; ⟨ob, u, hCell a ob _ e1 e2, e2, e3⟩), sto := ?_, role := ?_ }
  ·exact ⟨m, ⟨oL, es, ep, own' _ _ (.inl r1) hL, hLd, hLk, hLf⟩, hv⟩
  ·intro y a h1 h2
   refine zB (R.cel y a h1 h2) ?_; intro u nn_233 hu; obtain ⟨oc, hc, hcd⟩ := nn_233
   exact ⟨u, ⟨oc, own' _ _ (.inr (r2 y a h1 h2)) hc, hcd⟩, hu⟩
  ·intro b o e
   refine zB (R'.sto b o e) ?_; intro ob h1 h2
   exact ⟨ob, st _ _ (by rw [q4 b o e]; decide) h1, h2⟩
  refine ⟨fun b => if (ρ b = 1 ∨ ρ b = 2) /\ (s.heap.get? b).isSome = true then ρ b else ρ' b, fun b o e => ?_, ?_, fun y a h1 h2 => ?_, fun b o e => ?_, fun b o e => ?_⟩
  ·dsimp only
   rw [if_neg (by rw [r0 b o e]; rintro ⟨q | q, _⟩ <;> cases q)]; exact q0 b o e
  ·dsimp only
   rw [if_pos ⟨.inl r1, by rw [hL]; rfl⟩]; exact r1
  ·(refine zB (R.cel y a h1 h2) ?_; intro u nn_232 hu; obtain ⟨oc, hc, hcd⟩ := nn_232)
   have := r2 y a h1 h2
   dsimp only
   rw [if_pos ⟨.inr this, by rw [hc]; rfl⟩]; exact this
  ·dsimp only
   rw [if_neg (hNo b o e)]
   exact q3 b o (hH b o e)
  dsimp only
  rw [if_neg ?_]
  ·exact q4 b o e
  intro q_
  refine zL q_ ?_; clear q_; intro hb hs
  refine zB (hown b ⟨hb, hs⟩) ?_; intro o' ho' h2
  have := q3 b o' h2
  rw [q4 b o e] at this; cases this
 intro Ht H'' S' s' oC R' hown hH hNo hCell hG hC
 refine zK R'.role ?_; intro ρ' q0 q1 q2 q3 q4
 have q1 : ρ' s.heap.objs.size = 1 := q1
 have st : ∀ b o, ρ' b ≠ 1 -> s'.heap.get? b = some o -> s'.heap.get? b = some o := fun b o hb e => e
 have hid' : ∀ b o, H''.objs b = some o -> s'.heap.get? b = some o := fun b o e => st b o (by rw [q3 b o e]; decide) (R'.hid b o e)
 have own' : ∀ b o, (ρ b = 1 ∨ ρ b = 2) -> s.heap.get? b = some o -> s'.heap.get? b = some o := fun b o hb e => by
  refine zB (hown b ⟨hb, by rw [e]; rfl⟩) ?_; intro o' e1 e2
  rw [e] at e1; (replace e1 := Option.some.inj e1; subst e1); exact hid' b o e2
 refine { ok := R.ok, ac := R.ac, above := R.above, os := R'.os, bare := R'.bare, gen := fun p hp => R'.gen p (hG p hp), keep := fun b o e => st b o (by rw [q0 b o e]; decide) (R'.keep b o e), hid := ?_, loc := ?_, cel := ?_, inj := R.inj, fre := fun y a h1 h2 v e => (let ⟨ob, u, e1, e2, e3⟩ := R.fre y a h1 h2 v e; ⟨ob, u, (if_neg (Nat.ne_of_lt (hlt a ob (R.hid a ob e1)))).trans (hCell a ob _ e1 e2), e2, e3⟩), sto := ?_, role := ?_ }
 ·intro b o e
  have e : (if b = s.heap.objs.size then some oC else Ht.objs b) = some o := e
  by_cases q : b = s.heap.objs.size
  ·rw [if_pos q] at e; (replace e := Option.some.inj e; subst e); rw [q]; exact hC
  rw [if_neg q] at e; exact hid' b o (hH b o e)
 ·exact ⟨m, ⟨oL, es, ep, own' _ _ (.inl r1) hL, hLd, hLk, hLf⟩, hv⟩
 ·intro y a h1 h2
  refine zB (R.cel y a h1 h2) ?_; intro u nn_231 hu; obtain ⟨oc, hc, hcd⟩ := nn_231
  exact ⟨u, ⟨oc, own' _ _ (.inr (r2 y a h1 h2)) hc, hcd⟩, hu⟩
 ·intro b o e
  refine zB (R'.sto b o e) ?_; intro ob h1 h2
  exact ⟨ob, st _ _ (by rw [q4 b o e]; decide) h1, h2⟩
 refine ⟨fun b => if b = s.heap.objs.size then 3 else if (ρ b = 1 ∨ ρ b = 2) /\ (s.heap.get? b).isSome = true then ρ b else ρ' b, fun b o e => ?_, ?_, fun y a h1 h2 => ?_, fun b o e => ?_, fun b o e => ?_⟩
 ·dsimp only
  rw [if_neg (Nat.ne_of_lt (hlt b o (R.keep b o e))), if_neg (by rw [r0 b o e]; rintro ⟨q | q, _⟩ <;> cases q)]; exact q0 b o e
 ·dsimp only
  rw [if_neg (Nat.ne_of_lt (hlt _ _ hL)), if_pos ⟨.inl r1, by rw [hL]; rfl⟩]; exact r1
 ·(refine zB (R.cel y a h1 h2) ?_; intro u nn_230 hu; obtain ⟨oc, hc, hcd⟩ := nn_230)
  have := r2 y a h1 h2
  dsimp only
  rw [if_neg (Nat.ne_of_lt (hlt _ _ hc)), if_pos ⟨.inr this, by rw [hc]; rfl⟩]; exact this
 ·dsimp only
  have e : (if b = s.heap.objs.size then some oC else Ht.objs b) = some o := e
  by_cases q : b = s.heap.objs.size
  ·rw [if_pos q]
  rw [if_neg q] at e ⊢
  rw [if_neg (hNo b o e)]
  exact q3 b o (hH b o e)
 dsimp only
 rw [if_neg (by rintro rfl; rw [q4 _ o e] at q1; cases q1), if_neg ?_]
 ·exact q4 b o e
 intro q_
 refine zL q_ ?_; clear q_; intro hb hs
 refine zB (hown b ⟨hb, hs⟩) ?_; intro o' ho' h2
 have := q3 b o' h2
 rw [q4 b o e] at this; cases this
theorem Rel.reveal {H : Hid} {s : Shared} (R : Rel g c H S s) {a : Addr} {ob : Obj} {o : AO Str} (ha : H.objs a = some ob) (hc : ∀ u, ob.data = .cell u -> False) (hi : Is g ob o) : S.σ a = none /\ Rel g c (H.cut a) ⟨S.m, upd S.σ a o⟩ s := by
 refine zK R.role ?_; intro ρ r0 r1 r2 r3 r4
 have ra := r3 a ob ha
 have none : S.σ a = none := by
  cases q : S.σ a with
  | none => rfl
  | some o' => have := r4 a o' q; rw [ra] at this; cases this
 refine ⟨none, { ok := R.ok, ac := R.ac, above := R.above, os := R.os, bare := R.bare, gen := R.gen, inj := R.inj, keep := R.keep, hid := ?_, loc := R.loc, cel := R.cel, fre := ?_, sto := ?_, role := ?_ }⟩
 ·intro b o' e
  unfold Hid.cut at e
  dsimp only at e
  split at e
  ·exact Mine.ns e
  exact R.hid b o' e
 ·intro y b h1 h2 w e
  refine zD (R.fre y b h1 h2 w e) ?_; intro ob1 u h3 h4 h5
  refine ⟨ob1, u, ?_, h4, h5⟩
  show (if b = a then _ else H.objs b) = _
  rw [if_neg (by rintro rfl; rw [ha] at h3; (replace h3 := Option.some.inj h3; subst h3); exact hc _ h4)]; exact h3
 ·intro b o' e
  have e : upd S.σ a o b = some o' := e
  unfold upd at e
  by_cases hb : b = a
  ·rw [if_pos hb] at e; (replace e := Option.some.inj e; subst e); subst hb; exact ⟨ob, R.hid _ _ ha, hi⟩
  rw [if_neg hb] at e; exact R.sto b o' e
 refine ⟨fun b => if b = a then 4 else ρ b, fun b o' e => ?_, ?_, fun y b h1 h2 => ?_, fun b o' e => ?_, fun b o' e => ?_⟩
 ·dsimp only
  rw [if_neg (Rel.ne (r0 b o' e) ra)]; exact r0 b o' e
 ·dsimp only
  rw [if_neg (Rel.ne r1 ra)]; exact r1
 ·dsimp only
  rw [if_neg (Rel.ne (r2 y b h1 h2) ra)]; exact r2 y b h1 h2
 ·unfold Hid.cut at e
  dsimp only at e ⊢
  split at e
  ·exact Mine.ns e
  rename_i hb; rw [if_neg hb]; exact r3 b o' e
 dsimp only
 by_cases hb : b = a
 ·rw [if_pos hb]
 rw [if_neg hb]
 refine r4 b o' ?_
 have e : upd S.σ a o b = some o' := e
 unfold upd at e
 rwa [if_neg hb] at e
theorem Rel.updHid {H : Hid} {s : Shared} (R : Rel g c H S s) {a : Addr} {ob : Obj} (ha : H.objs a = some ob) (hc : ∀ u, ob.data = .cell u -> False) (ob' : Obj) : ∃ news', Upd a ob ob' (allobjs g.hU s.heap c.env.locals) news' /\
  ∀ {m : Str -> Option Value}, (∀ x v, S.m x = some v -> c.env.kindOf x = some .local -> ∃ u, m x = some u /\ er u = v) ->
   ∀ {h' : Heap} {tk : Tok}, Fr g.hU c.env.locals h' m -> News g.hU c.env.locals h' news' -> Rel g c (H.put a ob') S { s with heap := h', toks := tk } := by
 refine zK R.role ?_; intro ρ r0 r1 r2 r3 r4
 have ra := r3 a ob ha
 have h0 : g.hU.get? a = none := by
  cases z : g.hU.get? a with
  | none => rfl
  | some o' => have := r0 a o' z; rw [ra] at this; cases this
 refine zJ (upd_exists (ob' := ob') (nodup_allobjs g.hU s.heap c.env.locals) (zX.mpr ⟨⟨Rel.ne ra r1, h0⟩, R.hid a ob ha⟩ : (a, ob) ∈ _)) ?_; intro l' u m1 m2
 refine ⟨l', u, ?_⟩
 intro m hv h' tk F N'
 have k : ∀ b o, b ≠ c.env.locals -> b ≠ a -> s.heap.get? b = some o -> h'.get? b = some o := fun b o hb hb' e => by
  cases z : g.hU.get? b with
  | none => exact (N' _ (m2 (b, o) (zX.mpr ⟨⟨hb, z⟩, e⟩) hb')).1
  | some o' => rw [F.keep b o' z, ← e, R.keep b o' z]
 refine { ok := R.ok, ac := R.ac, above := R.above, os := R.os, bare := R.bare, gen := R.gen, inj := R.inj, keep := ?_, hid := ?_, loc := ⟨m, F.ns, hv⟩, cel := ?_, fre := ?_, sto := ?_, role := ⟨ρ, r0, r1, r2, fun b o e => ?_, r4⟩ }
 ·exact fun b o e => k b o (Rel.ne (r0 b o e) r1) (Rel.ne (r0 b o e) ra) (R.keep b o e)
 ·intro b o e
  have e : (if b = a then some ob' else H.objs b) = some o := e
  by_cases hb : b = a
  ·rw [if_pos hb] at e; (replace e := Option.some.inj e; subst e); subst hb; exact (N' _ m1).1
  rw [if_neg hb] at e; exact k b o (Rel.ne (r3 b o e) r1) hb (R.hid b o e)
 ·intro x b h1 h2
  refine zB (R.cel x b h1 h2) ?_; intro u nn_229 hu; obtain ⟨oc, hc, hd⟩ := nn_229
  exact ⟨u, ⟨oc, k _ _ (Rel.ne (r2 x b h1 h2) r1) (Rel.ne (r2 x b h1 h2) ra) hc, hd⟩, hu⟩
 ·intro y b h1 h2 w e
  refine zD (R.fre y b h1 h2 w e) ?_; intro ob1 u h3 h4 h5
  refine ⟨ob1, u, ?_, h4, h5⟩
  show (if b = a then _ else H.objs b) = _
  rw [if_neg (by rintro rfl; rw [ha] at h3; (replace h3 := Option.some.inj h3; subst h3); exact hc _ h4)]; exact h3
 ·intro b o e
  refine zB (R.sto b o e) ?_; intro ob h1 h2
  exact ⟨ob, k _ _ (Rel.ne (r4 b o e) r1) (Rel.ne (r4 b o e) ra) h1, h2⟩
 have e : (if b = a then some ob' else H.objs b) = some o := e
 by_cases hb : b = a
 ·rw [hb]; exact ra
 rw [if_neg hb] at e; exact r3 b o e
noncomputable def WIfs (g : Gl Str) (c : Ac) (ifs : List Expr) (S : St Str) (Q : Bool -> St Str -> Prop) : Prop :=
 WM g c (forIn ifs true fun t r => if r = true then do let ok ← isTrue t c.env (eval t c.env); pure (ForInStep.yield ok) else pure (ForInStep.yield r)) S Q
theorem WIfs_nil {Q : Bool -> St Str -> Prop} (h : Q true S) : WIfs g c [] S Q := fun _ _ R => wpAny_pure ⟨S, R, h⟩
theorem WIfs_one {t : Expr} {Q : Bool -> St Str -> Prop} (h : WT g c t S Q) : WIfs g c [t] S Q := by
 intro H s R
 o_shape
 rw [List.forIn_cons]
 refine wpAny_bind (wpAny_mono (Q := fun r s' => ∃ b, r = ForInStep.yield b /\ ∃ S', Rel g c H S' s' /\ Q b S') ?_ (fun r s' q_ => ?_) fun _ _ x => x)
 ·rw [if_pos rfl]
  exact wpAny_bind (wpAny_mono (h H s R) (fun b s' q => wpAny_pure ⟨b, rfl, q⟩) fun _ _ x => x)
 refine zB q_ ?_; clear q_; intro b e q
 subst e
 exact wpAny_pure q
noncomputable def turnOf (e : Expr) (d : Nat) (target : Expr) (p : Pos) (ifs : List Expr) (emit : Sem Unit) (it acc : Value) (env : Env) : Sem Fin := do
 standAt p
 match ← pyNext it with
 | none => pure (.done .next)
 | some v =>
  letOwnedTupleGo target it v
  assign target env v
  let mut ok := true
  for c in ifs do
   if ok then ok ← isTrue c env (eval c env)
  if ok then
   emit
  again (.compLoop e d it acc env)
theorem codeAny_compLoop_em {prog : Program} {w : World} {A : Around} {R : Result -> Shared -> Prop} {s : Shared} {elt target : Expr} {gens : List Comprehension} {d : Nat} {p : Pos} {ifs : List Expr} {scope : Scope} {pos : Pos} {it acc : Value} {env : Env} {emit : Sem Unit}
  (hem : compTurn (.ListComp elt gens scope pos) d it acc env = turnOf (.ListComp elt gens scope pos) d target p ifs emit it acc env) (I : Nat -> Shared -> Prop)
  (turn : ∀ n s, I n s -> wpAny (model prog w) A (pyNext it) (fun r s1 => match r with
   | none => R (.ok .next) s1
   | some v => wpAny (model prog w) A (assign target env v) (fun _ s2 =>
     wpAny (model prog w) A (forIn ifs true fun c r => if r = true then do let ok ← isTrue c env (eval c env); pure (ForInStep.yield ok) else pure (ForInStep.yield r)) (fun ok s3 =>
      if ok = true then wpAny (model prog w) A emit (fun _ sa => ∃ m, m < n /\ I m sa) (fun _ _ => False) s3
      else ∃ m, m < n /\ I m s3) (fun _ _ => False) s2) (fun _ _ => False) s1) (fun _ _ => False) s)
  (n : Nat) (h : I n s) (ht : ∀ v, letOwnedTupleGo target it v = pure () := by intro _; rfl) :
  codeAny (model prog w) A (.compLoop (.ListComp elt gens scope pos) d it acc env) R s := by
 refine codeAny_loop rfl I (fun n s hI => ?_) n h
 show wpAny _ A ((compTurn (.ListComp elt gens scope pos) d it acc env).onRaise (fun x => do noteFrame x env; theTreesLotGoes x)) _ _ s
 refine wpAny_noted ?_
 rw [hem]
 unfold turnOf
 refine wpAny_bind (wpAny_standAt (wpAny_bind (wpAny_mono (turn n s hI) (fun r s1 hJ => ?_) fun _ _ h' => h'.elim)))
 cases r with
 | none => exact wpAny_pure hJ
 | some v =>
  refine wpAny_bind (wpAny_of_eq (ht v) ?_)
  refine wpAny_bind (wpAny_mono hJ (fun _ s2 hV => wpAny_bind (wpAny_mono hV (fun ok s3 hW => ?_) fun _ _ h' => h'.elim)) fun _ _ h' => h'.elim)
  cases ok with
  | false => exact wpAny_pure ⟨rfl, hW⟩
  | true => exact wpAny_bind (wpAny_mono hW (fun _ s4 h₄ => wpAny_pure ⟨rfl, h₄⟩) fun _ _ h' => h'.elim)
noncomputable def WEmit (g : Gl Str) (c : Ac) (emit : Env -> Value -> Sem Unit) (S : St Str) (acc : List Value) (Q : List Value -> St Str -> Prop) : Prop :=
 ∀ H s D arr n, Rel g c H S s -> H.objs D = some (listOf arr n) -> arr.toList.map er = acc -> wpAny (model g.prog g.w) c.A (emit c.env (.ref D)) (fun _ s' => ∃ S' arr' n', Rel g c (H.put D (listOf arr' n')) S' s' /\ Q (arr'.toList.map er) S') (fun _ _ => False) s
theorem comp_core2 {elt iter : Expr} {rest : List Comprehension} {emit : Env -> Value -> Sem Unit} {x : Str} {px : Pos} {ifs : List Expr} {scope : Scope} {pos : Pos} {Q : Value -> St Str -> Prop} (hs : ∀ env x, foldedSetIterable iter env x = pure x) (hem : ∀ it acc env, compTurn (.ListComp elt (⟨.Name x px, iter, ifs, 0⟩ :: rest) scope pos) 0 it acc env = turnOf (.ListComp elt (⟨.Name x px, iter, ifs, 0⟩ :: rest) scope pos) 0 (.Name x px) iter.pos ifs (emit env acc) it acc env) (hsc : compOk scope c.env.scope = true)
  (h : WE g c iter S fun v S1 => ∃ xs Ok, Iterable g c v xs Ok S1 /\ ∃ Inv : Nat -> List Value -> St Str -> Prop, Inv 0 [] ⟨compM scope S1.m, S1.σ⟩ /\ (∀ i acc S2, Inv i acc S2 -> Ok S2) /\ xs.length ≤ sizeLine /\
   (∀ c' : Ac, c'.env.scope = relabelS scope c.env.scope -> c'.ext = extOf scope -> (∀ n, c.Deep n -> c'.Deep n) -> ∀ i y acc S2, xs[i]? = some y -> Inv i acc S2 ->
    WAsg g c' (.Name x px) y S2 fun S3 => WIfs g c' ifs S3 fun b S4 => if b = true then WEmit g c' emit S4 acc (Inv (i + 1)) else Inv (i + 1) acc S4) /\
   ∀ acc S2, Inv xs.length acc S2 -> ∀ a, S2.σ a = none -> Q (.ref a) ⟨S1.m, upd S2.σ a (.list acc)⟩) {H : Hid} {s : Shared} (R : Rel g c H S s) {use : Option (Value -> Sem Unit)} {QQ : Value -> Shared -> Prop}
  (hpost : ∀ (D C : Addr) (oC : Obj) (S' : St Str) (s' : Shared), H.objs C = none -> (∀ u, oC.data = .cell u -> False) -> (∀ h' : Heap, h'.get? C = some oC -> ∃ m, h'.Ns C m) -> Rel g c (H.put C oC) S' s' -> Q (.ref D) S' ->
   compPost (model g.prog g.w) c.A (fun _ _ => False) use QQ (.ref D) C (.ok .next) s') :
  wpAny (model g.prog g.w) c.A (comprehension (.ListComp elt (⟨.Name x px, iter, ifs, 0⟩ :: rest) scope pos) scope c.env (firstIterPos (⟨.Name x px, iter, ifs, 0⟩ :: rest) pos) (newList []) (firstAsync (⟨.Name x px, iter, ifs, 0⟩ :: rest)) (firstIter (⟨.Name x px, iter, ifs, 0⟩ :: rest) c.env) use) QQ (fun _ _ => False) s := by
 have hkind : scope.kind = .function := by
  simp only [compOk, Bool.and_eq_true, beq_iff_eq] at hsc
  exact hsc.1.1
 have hnodup : (scope.names.map (·.1)).Nodup := by
  simp only [compOk, Bool.and_eq_true, beq_iff_eq, decide_eq_true_eq] at hsc
  exact hsc.1.2
 have hclos := (enterComp R hsc).1
 refine wpAny_comprehension_free rfl (fun x => hs _ x) hclos hkind (fun y hy hl => ?_) ?_
 ·obtain ⟨n, k⟩ := y
  subst hl
  cases z : scope.names.lookup n with
  | none =>
   exfalso
   have : ∀ l : List (Str × NameKind), (n, NameKind.local) ∈ l -> l.lookup n ≠ none := by
    intro l
    induction l with
    | nil => intro q; cases q
    | cons p r ih =>
     intro q e
     rw [List.lookup_cons] at e
     cases hb : n == p.1 with
     | true => rw [hb] at e; exact Mine.sn e
     | false =>
      rw [hb] at e
      rcases List.mem_cons.mp q with q | q
      ·rw [← q] at hb; simp at hb
      exact ih q e
   exact this _ hy z
  | some k => rw [mem_unique hnodup (mem_of_lookup z) hy]
 refine goK (h H s R) (fun u s1 S1 R1 q_ => ?_)
 refine el_EEAEAAAA q_ ?_; clear q_; intro xs Ok hit Inv h0 hok hsz turn fin
 refine wpAny_mono (hit H s1 u rfl R1) (fun it s2 q_ => ?_) fun _ _ x => x.elim
 refine zN q_ ?_; clear q_; intro a ob sp e hfree hst R2
 subst e
 refine wpAny_newList ?_ (by simp [sizeLine])
 have R3 : Rel g c ((H.put a ob).put s2.heap.objs.size (listOf #[] 0)) S1 { s2 with heap := s2.heap.push (listOf #[] 0) } := R2.hide (tk := s2.toks) (ob := listOf #[] 0) (h' := s2.heap.push (listOf #[] 0)) (Heap.ExtBut.push (Heap.ExtBut.refl _ _) _) (zG _) (Heap.get?_push_size _ rfl)
 have hDfree : (H.put a ob).objs s2.heap.objs.size = none := R2.free_hid (zG _)
 generalize hD : s2.heap.objs.size = D at R3 hDfree ⊢
 have hDa : D ≠ a := fun e => by rw [e, H.put_self] at hDfree; exact Mine.sn hDfree
 have hDH : H.objs D = none := by
  have := hDfree
  unfold Hid.put at this
  dsimp only at this
  rwa [if_neg hDa] at this
 generalize hs3 : ({ s2 with heap := s2.heap.push (listOf #[] 0) } : Shared) = s3 at *
 refine el_AEEAAAAAA (enterComp R3 hsc) ?_; intro _ H0 own o1 o2 o3 o4 R4 back back2
 have o2 : ∀ b, ¬ own b -> H0.objs b = ((H.put a ob).put D (listOf #[] 0)).objs b := o2
 have hX : ∀ b o, ((H.put a ob).put D (listOf #[] 0)).objs b = some o -> ¬ own b := o4
 have xD : ((H.put a ob).put D (listOf #[] 0)).objs D = some (listOf #[] 0) := Hid.put_self _ _ _
 have xa : ((H.put a ob).put D (listOf #[] 0)).objs a = some ob := by
  show (if a = D then _ else (H.put a ob).objs a) = _
  rw [if_neg (Ne.symm hDa), Hid.put_self]
 have xo : ∀ b, b ≠ a -> b ≠ D -> ((H.put a ob).put D (listOf #[] 0)).objs b = H.objs b := fun b h1 h2 => by
  show (if b = D then _ else if b = a then _ else H.objs b) = _
  rw [if_neg h2, if_neg h1]
 have nD := hX _ _ xD
 have na := hX _ _ xa
 simp only [newFunctionEnv, Option.isSome_some, if_true]
 refine wpAny_bind (wpAny_alloc ?_)
 refine wpAny_bind (wpAny_layCells _ (fun name kind cells => by cases hkc : kind == NameKind.cell <;> simp [hkc]) _ _ _ _ ?_)
 rw [show ({ s3 with heap := s3.heap.push { cls := .type "dict", data := .dict #[] } } : Shared).heap.objs.size = s3.heap.objs.size + 1 from Heap.size_push ..]
 refine wpAny_bind (wpAny_pure (wpAny_pure ?_))
 generalize hc' : compAc scope c s3.heap.objs.size = c' at R4 back back2
 have cA : c'.A = c.A := by rw [← hc']; rfl
 have cE : c'.env = compEnv scope c.env s3.heap.objs.size := by rw [← hc']; rfl
 have cx : c'.ext = extOf scope := by rw [← hc']; rfl
 have loop : ∀ it', it' = Value.ref a -> ∀ s', s' = ({ s3 with heap := pushCells (s3.heap.push { cls := .type "dict", data := .dict #[] }) scope.names } : Shared) ->
   codeAny (model g.prog g.w) c'.A (.compLoop (.ListComp elt (⟨.Name x px, iter, ifs, 0⟩ :: rest) scope pos) 0 it' (.ref D) c'.env)
    (compPost (model g.prog g.w) c.A (fun _ _ => False) use QQ (.ref D) s3.heap.objs.size) s' := by
  rintro it' rfl s' rfl
  let II : Nat -> Shared -> Prop := fun k s' => ∃ i acc ob arr n H' S', k + i = xs.length + 1 /\ i ≤ xs.length /\ H'.objs a = some ob /\ sp.St_ i ob /\ H'.objs D = some (listOf arr n) /\ (∀ b, b ≠ a -> b ≠ D -> H'.objs b = H0.objs b) /\ H'.gens = H0.gens /\
   Rel g c' H' S' s' /\ arr.toList.map er = acc /\ Inv i acc S'
  refine codeAny_compLoop_em (hem _ _ _) II ?_ (xs.length + 1)
   ⟨0, [], ob, #[], 0, H0, _, rfl, Nat.zero_le _, by rw [o2 _ na]; exact xa, hst, by rw [o2 _ nD]; exact xD, fun _ _ _ => rfl, rfl, R4, rfl, h0⟩
  intro k s' q_
  refine el_EEEEEEEAAAAAAAAA q_ ?_; clear q_; intro i acc ob arr n H' S' hki hil ha hi hDo hHb hHg R' hacc hinv
  have hOk := hok i acc S' hinv
  cases hx : xs[i]? with
  | none =>
   refine wpAny_mono (sp.done c' H' S' s' a i ob ha hi R' hOk hx) (fun r sa q_ => ?_) fun _ _ q => q.elim
   refine zL q_ ?_; clear q_; intro e R5
   subst e
   have hle : xs.length ≤ i := List.getElem?_eq_none_iff.mp hx
   have hi' : i = xs.length := by exact Nat.le_antisymm ‹_› ‹_›
   subst hi'
   refine zB R5.loc ?_; intro m hm _
   rw [cE] at hm
   refine zN hm ?_; (try clear hm); intro oC es ep hC hCd hCk hCf
   have hC : sa.heap.get? s3.heap.objs.size = some oC := hC
   have hCH : H.objs s3.heap.objs.size = none := by
    have z := R3.free_hid (zG s3.heap)
    by_cases q1 : s3.heap.objs.size = D
    ·rw [q1]; exact hDH
    have z : (if s3.heap.objs.size = D then _ else if s3.heap.objs.size = a then _ else H.objs s3.heap.objs.size) = none := z
    rw [if_neg q1] at z
    by_cases q2 : s3.heap.objs.size = a
    ·rw [if_pos q2] at z; exact Mine.sn z
    rwa [if_neg q2] at z
   have hCD : D ≠ s3.heap.objs.size := fun e => by
    have z := R3.free_hid (zG s3.heap)
    rw [← e, xD] at z; exact Mine.sn z
   have R6 := back2 (H.put D (listOf arr n)) (H'.cut a) S' sa oC R5 (fun b hb => ?_) (fun b o e => ?_) (fun b o e => ?_) (fun b o u e hu => ?_) (fun p hp => ?_) hC
   ·(refine zL (R6.reveal (a := D) (ob := listOf arr n) (o := .list acc) ((if_neg hCD).trans (Hid.put_self _ _ _)) (fun u e => by cases e) (Is.list hacc)) ?_; intro hn R7)
    have hcut : ((H.put D (listOf arr n)).put s3.heap.objs.size oC).cut D = H.put s3.heap.objs.size oC := by
     unfold Hid.put Hid.cut
     congr 1
     funext b
     dsimp only
     by_cases q1 : b = D
     ·rw [if_pos q1, q1, if_neg hCD, hDH]
     rw [if_neg q1]
     by_cases q2 : b = s3.heap.objs.size
     ·rw [if_pos q2, if_pos q2]
     rw [if_neg q2, if_neg q2, if_neg q1]
    rw [hcut] at R7
    exact hpost D s3.heap.objs.size oC _ sa hCH (fun u e => by rw [hCd] at e; exact (nomatch e)) (fun h' e => ⟨m, oC, es, ep, e, hCd, hCk, hCf⟩) R7 (fin acc S' hinv D hn)
   ·(refine zB (o1 b hb) ?_; intro o h1 h2)
    have hba : b ≠ a := by rintro rfl; exact na hb
    have hbD : b ≠ D := by rintro rfl; exact nD hb
    refine ⟨o, h1, ?_⟩
    show (if b = a then none else H'.objs b) = _
    rw [if_neg hba, hHb b hba hbD]; exact h2
   ·show (if b = a then none else H'.objs b) = _
    have e : (if b = D then some (listOf arr n) else H.objs b) = some o := e
    by_cases hbD : b = D
    ·rw [if_pos hbD] at e
     rw [if_neg (by rw [hbD]; exact hDa), hbD, hDo]; exact e
    rw [if_neg hbD] at e
    have hba : b ≠ a := by rintro rfl; rw [hfree] at e; exact Mine.ns e
    have q : ((H.put a ob).put D (listOf #[] 0)).objs b = some o := by
     show (if b = D then _ else if b = a then _ else H.objs b) = _
     rw [if_neg hbD, if_neg hba]; exact e
    have hno : ¬ own b := by
     refine hX b o ?_
     rw [xo b hba hbD]; exact e
    rw [if_neg hba, hHb b hba hbD, o2 b hno, xo b hba hbD]; exact e
   ·have e : (if b = D then some (listOf arr n) else H.objs b) = some o := e
    by_cases hbD : b = D
    ·rw [hbD]; exact nD
    rw [if_neg hbD] at e
    have hba : b ≠ a := by rintro rfl; rw [hfree] at e; exact Mine.ns e
    exact hX b o (by rw [xo b hba hbD]; exact e)
   ·show (if b = D then some (listOf arr n) else H.objs b) = some o
    have e : (if b = D then some (listOf #[] 0) else (H.put a _).objs b) = some o := e
    by_cases hbD : b = D
    ·rw [if_pos hbD] at e; (replace e := Option.some.inj e; subst e); exact (nomatch hu)
    rw [if_neg hbD] at e ⊢
    have e : (if b = a then some _ else H.objs b) = some o := e
    by_cases hba : b = a
    ·rw [if_pos hba] at e; (replace e := Option.some.inj e; subst e); exact (sp.noCell _ _ _ hst hu).elim
    rw [if_neg hba] at e; exact e
   show p ∈ H'.gens
   rw [hHg, o3]; exact hp
  | some y =>
   have hlt : i < xs.length := (List.getElem?_eq_some_iff.mp hx).1
   refine wpAny_mono (sp.next c' H' S' s' a i ob y ha hi R' hOk hx) (fun r sa q_ => ?_) fun _ _ q => q.elim
   refine zE q_ ?_; clear q_; intro u ob' e hu hi' R5
   subst e
   have hc := turn c' (by rw [cE]; rfl) cx (fun n hn => by unfold Ac.Deep at hn ⊢; rw [cA]; exact hn) i y acc S' hx hinv
   dsimp only
   refine goK (hc u hu _ sa R5) (fun _ s6 S6 R6 h₆ => ?_)
   have keepD : (H'.put a ob').objs D = some (listOf arr n) := by
    show (if D = a then _ else H'.objs D) = _
    rw [if_neg hDa]; exact hDo
   have rest : ∀ b, b ≠ a -> b ≠ D -> (H'.put a ob').objs b = H0.objs b := fun b h1 h2 => by
    show (if b = a then _ else H'.objs b) = _
    rw [if_neg h1]; exact hHb b h1 h2
   refine goK (h₆ _ s6 R6) (fun ok s7 S7 R7 hY => ?_)
   cases ok with
   | false =>
    rw [if_neg (by simp)] at hY ⊢
    exact ⟨k - 1, om06 hki (Nat.lt_succ_of_lt hlt), i + 1, acc, ob', arr, n, _, S7, om03 hki (Nat.lt_succ_of_lt hlt), hlt, Hid.put_self _ _ _, hi', keepD, rest, hHg, R7, hacc, hY⟩
   | true =>
    rw [if_pos rfl] at hY ⊢
    refine wpAny_mono (hY _ s7 D arr n R7 keepD hacc) (fun _ s8 q_ => ?_) fun _ _ q => q.elim
    refine el_EEEA q_ ?_; clear q_; intro S8 arr' n' R8 h₈
    refine ⟨k - 1, om06 hki (Nat.lt_succ_of_lt hlt), i + 1, arr'.toList.map er, ob', arr', n', (H'.put a ob').put D (listOf arr' n'), S8, om03 hki (Nat.lt_succ_of_lt hlt), hlt, ?_, hi', Hid.put_self _ _ _, fun b h1 h2 => ?_, hHg, R8, rfl, h₈⟩
    ·show (if a = D then _ else (H'.put a ob').objs a) = _
     rw [if_neg (Ne.symm hDa)]; exact Hid.put_self _ _ _
    show (if b = D then _ else (H'.put a ob').objs b) = _
    rw [if_neg h2]; exact rest b h1 h2
 have hEnv : ({ { scope := scope, locals := s3.heap.objs.size, globals := c.env.globals, cells := cellsFrom (s3.heap.objs.size + 1) scope.names (closL c.env.cells scope.names []), qual := c.env.qual, func := none, code := c.env.code, frame := c.env.frame, builtins := c.env.builtins : Env } with scope := relabel scope c.env } : Env) = c'.env := by rw [cE]; rfl
 rw [hEnv, ← cA]
 refine codeAny_compStart_list ?_ ?_
 ·rw [cA]; have := loop _ rfl _ rfl; rw [cA] at this; exact this
 refine sp.again c' H0 _ _ a 0 ob _ _ (by rw [o2 _ na]; exact xa) hst R4 ?_
 have := loop _ rfl _ rfl
 rw [cA] at this ⊢; exact this
noncomputable def emit1 (elt : Expr) (env : Env) (acc : Value) : Sem Unit := do
 let _ ← call (.builtin "list.append") [acc, ← eval elt env]
theorem compTurn_one {elt iter t1 : Expr} {f1 : List Expr} {scope : Scope} {pos : Pos} (it acc : Value) (env : Env) : compTurn (.ListComp elt [⟨t1, iter, f1, 0⟩] scope pos) 0 it acc env = turnOf (.ListComp elt [⟨t1, iter, f1, 0⟩] scope pos) 0 t1 iter.pos f1 (emit1 elt env acc) it acc env := rfl
theorem WEmit_one {elt : Expr} {acc : List Value} {Q : List Value -> St Str -> Prop} (h : WE g c elt S fun z S5 => Q (acc ++ [z]) S5) (hz : acc.length ≤ sizeLine) : WEmit g c (emit1 elt) S acc Q := by
 intro H s D arr n R hD hacc
 have hacc_sz : arr.size ≤ sizeLine := by
  rw [← Array.length_toList, ← List.length_map (f := er), hacc]; exact hz
 refine wpAny_bind (goK (h H s R) (fun z s8 S8 R8 h₈ => ?_))
 refine zJ R8.led ?_; intro m F N' hl
 refine zB (R8.updHid hD (fun u e => by cases e) (listOf (arr.push z) (n + 1))) ?_; intro news' U back'
 refine wpAny_bind (append_K F N' U (fun h' F' N'' => wpAny_pure ?_) hacc_sz)
 exact ⟨S8, arr.push z, n + 1, back' hl F' N'', by rw [Array.toList_push, List.map_append, hacc]; exact h₈⟩
theorem comp_core {elt iter : Expr} {x : Str} {px : Pos} {ifs : List Expr} {scope : Scope} {pos : Pos} {Q : Value -> St Str -> Prop} (hs : ∀ env x, foldedSetIterable iter env x = pure x) (hsc : compOk scope c.env.scope = true)
  (h : WE g c iter S fun v S1 => ∃ xs Ok, Iterable g c v xs Ok S1 /\ ∃ Inv : Nat -> List Value -> St Str -> Prop, Inv 0 [] ⟨compM scope S1.m, S1.σ⟩ /\ (∀ i acc S2, Inv i acc S2 -> Ok S2 /\ acc.length ≤ i) /\ xs.length ≤ sizeLine /\
   (∀ c' : Ac, c'.env.scope = relabelS scope c.env.scope -> c'.ext = extOf scope -> (∀ n, c.Deep n -> c'.Deep n) -> ∀ i y acc S2, xs[i]? = some y -> Inv i acc S2 ->
    WAsg g c' (.Name x px) y S2 fun S3 => WIfs g c' ifs S3 fun b S4 => if b = true then WE g c' elt S4 (fun z S5 => Inv (i + 1) (acc ++ [z]) S5) else Inv (i + 1) acc S4) /\
   ∀ acc S2, Inv xs.length acc S2 -> ∀ a, S2.σ a = none -> Q (.ref a) ⟨S1.m, upd S2.σ a (.list acc)⟩) {H : Hid} {s : Shared} (R : Rel g c H S s) {use : Option (Value -> Sem Unit)} {QQ : Value -> Shared -> Prop}
  (hpost : ∀ (D C : Addr) (oC : Obj) (S' : St Str) (s' : Shared), H.objs C = none -> (∀ u, oC.data = .cell u -> False) -> (∀ h' : Heap, h'.get? C = some oC -> ∃ m, h'.Ns C m) -> Rel g c (H.put C oC) S' s' -> Q (.ref D) S' ->
   compPost (model g.prog g.w) c.A (fun _ _ => False) use QQ (.ref D) C (.ok .next) s') :
  wpAny (model g.prog g.w) c.A (comprehension (.ListComp elt [⟨.Name x px, iter, ifs, 0⟩] scope pos) scope c.env (firstIterPos [⟨.Name x px, iter, ifs, 0⟩] pos) (newList []) (firstAsync [⟨.Name x px, iter, ifs, 0⟩]) (firstIter [⟨.Name x px, iter, ifs, 0⟩] c.env) use) QQ (fun _ _ => False) s :=
 comp_core2 (emit := emit1 elt) hs compTurn_one hsc (WE.mono h fun v S1 ⟨xs, Ok, hit, Inv, h0, hok, hz, turn, fin⟩ => ⟨xs, Ok, hit, Inv, h0, fun i acc S2 q => (hok i acc S2 q).1, hz, fun c' h1 h2 h3 i y acc S2 hy hi u hu => WM.mono (turn c' h1 h2 h3 i y acc S2 hy hi u hu) fun _ S3 q => WM.mono q fun b S4 q => by
  cases b with
  | true =>
   rw [if_pos rfl] at q ⊢
   exact WEmit_one q (Nat.le_trans (hok i acc S2 hi).2 (Nat.le_trans (Nat.le_of_lt (List.getElem?_eq_some_iff.mp hy).1) hz))
  | false =>
   rw [if_neg Bool.false_ne_true] at q ⊢
   exact q, fin⟩) R hpost
theorem WE_ListComp {elt iter : Expr} {x : Str} {px : Pos} {ifs : List Expr} {scope : Scope} {pos : Pos} {Q : Value -> St Str -> Prop} (hs : ∀ env x, foldedSetIterable iter env x = pure x) (hsc : compOk scope c.env.scope = true)
  (h : WE g c iter S fun v S1 => ∃ xs Ok, Iterable g c v xs Ok S1 /\ ∃ Inv : Nat -> List Value -> St Str -> Prop, Inv 0 [] ⟨compM scope S1.m, S1.σ⟩ /\ (∀ i acc S2, Inv i acc S2 -> Ok S2 /\ acc.length ≤ i) /\ xs.length ≤ sizeLine /\
   (∀ c' : Ac, c'.env.scope = relabelS scope c.env.scope -> c'.ext = extOf scope -> (∀ n, c.Deep n -> c'.Deep n) -> ∀ i y acc S2, xs[i]? = some y -> Inv i acc S2 ->
    WAsg g c' (.Name x px) y S2 fun S3 => WIfs g c' ifs S3 fun b S4 => if b = true then WE g c' elt S4 (fun z S5 => Inv (i + 1) (acc ++ [z]) S5) else Inv (i + 1) acc S4) /\
   ∀ acc S2, Inv xs.length acc S2 -> ∀ a, S2.σ a = none -> Q (.ref a) ⟨S1.m, upd S2.σ a (.list acc)⟩) : WE g c (.ListComp elt [⟨.Name x px, iter, ifs, 0⟩] scope pos) S Q := by
 intro H s R
 o_shape
 rw [eval_ListComp]
 refine comp_core hs hsc h R fun D C oC S' s' h0 hnc hNs R' q => ?_
 refine zI (hNs s'.heap (R'.hid C oC (Hid.put_self _ _ _))) ?_; intro m hm
 refine ⟨m, hm, fun h' hs' => ?_⟩
 have R'' := R'.lose (tk := s'.toks) (Hid.put_self _ _ _) hnc hs'.extBut
 rw [Hid.put_cut _ _ _ h0] at R''
 exact ⟨S', R'', q⟩
theorem WX_AssignComp {elt iter : Expr} {x : Str} {px : Pos} {ifs : List Expr} {scope : Scope} {pos : Pos} {Q : Value -> St Str -> Prop} (hs : ∀ env x, foldedSetIterable iter env x = pure x) (hsc : compOk scope c.env.scope = true)
  {y : Str} {py spos : Pos} {Q' : Flow -> St Str -> Prop} (hy : isOwn c.env.scope y = true) (hey : c.ext y = false) (hsw : swapsWith (.ListComp elt [⟨.Name x px, iter, ifs, 0⟩] scope pos) (some (.Name y py)) spos.line c.env = pure true) (hQ : ∀ v S', Q v S' -> Q' .next ⟨setv S'.m y v, S'.σ⟩)
  (h : WE g c iter S fun v S1 => ∃ xs Ok, Iterable g c v xs Ok S1 /\ ∃ Inv : Nat -> List Value -> St Str -> Prop, Inv 0 [] ⟨compM scope S1.m, S1.σ⟩ /\ (∀ i acc S2, Inv i acc S2 -> Ok S2 /\ acc.length ≤ i) /\ xs.length ≤ sizeLine /\
   (∀ c' : Ac, c'.env.scope = relabelS scope c.env.scope -> c'.ext = extOf scope -> (∀ n, c.Deep n -> c'.Deep n) -> ∀ i y acc S2, xs[i]? = some y -> Inv i acc S2 ->
    WAsg g c' (.Name x px) y S2 fun S3 => WIfs g c' ifs S3 fun b S4 => if b = true then WE g c' elt S4 (fun z S5 => Inv (i + 1) (acc ++ [z]) S5) else Inv (i + 1) acc S4) /\
   ∀ acc S2, Inv xs.length acc S2 -> ∀ a, S2.σ a = none -> Q (.ref a) ⟨S1.m, upd S2.σ a (.list acc)⟩) : WX g c (.Assign [.Name y py] (.ListComp elt [⟨.Name x px, iter, ifs, 0⟩] scope pos) spos) S Q' := by
 intro H s R
 o_shape
 rw [exec_Assign_Name_used _ _ _ _ hsw]
 refine wpAny_bind (wpAny_standAt (wpAny_bind ?_))
 refine wpAny_bind (goK (comp_core (QQ := fun _ s' => ∃ S', Rel g c H S' s' /\ Q' .next S') hs hsc h R fun D C oC S' s' h0 hnc hNs R' q => ?_) (fun _ s' S' R' q => wpAny_pure (wpAny_pure ⟨S', R', q⟩)))
 refine goK (ze (p := py) (Q := fun S1 => S1 = ⟨setv S'.m y (.ref D), S'.σ⟩) (W_Store hy hey rfl) (.ref D) rfl _ s' R') (fun _ s'' S1 R1 e => ?_)
 subst e
 refine zI (hNs s''.heap (R1.hid C oC (Hid.put_self _ _ _))) ?_; intro m hm
 refine ⟨m, hm, fun h' hs' => ?_⟩
 have R'' := R1.lose (tk := s''.toks) (Hid.put_self _ _ _) hnc hs'.extBut
 rw [Hid.put_cut _ _ _ h0] at R''
 exact ⟨_, R'', hQ _ _ q⟩
noncomputable def rngO (a b c : Int) : AO Str := .raw fun ob => ∃ t u v, ob = { cls := .type "range", data := .fields #[.int a t, .int b u, .int c v] }
noncomputable def rngN (a b c : Int) : Nat := (Builtin.Range.rangeSize a b c).toNat
noncomputable def rngL (a b c : Int) : List Value := (List.range (rngN a b c)).map fun (k : Nat) => .int (a + (k : Int) * c) 0
theorem rngL_get {a b c : Int} {i : Nat} {x : Value} : (rngL a b c)[i]? = some x ↔ i < rngN a b c /\ x = .int (a + (i : Int) * c) 0 := by
 unfold rngL
 rw [List.getElem?_map, Option.map_eq_some_iff]
 constructor
 ·intro q_
  refine zB q_ ?_; clear q_; intro k h rfl_251; subst rfl_251
  by_cases q : i < rngN a b c
  ·rw [List.getElem?_range q] at h
   (replace h := Option.some.inj h; subst h)
   exact ⟨q, rfl⟩
  rw [List.getElem?_eq_none (by simpa using q)] at h; exact Mine.ns h
 intro q_
 refine zL q_ ?_; clear q_; intro h rfl_250; subst rfl_250
 exact ⟨i, List.getElem?_range h, rfl⟩
theorem rngL_len {a b c : Int} : (rngL a b c).length = rngN a b c := by simp [rngL]
theorem rngN_one (n : Int) : rngN 0 n 1 = n.toNat := by
 unfold rngN
 rw [rangeSize_one]
 split <;> lia
theorem rngN_two (a b : Int) : rngN a b 1 = (b - a).toNat := by
 unfold rngN
 rw [rangeSize_one]
 split <;> lia
theorem Rel.raw {H : Hid} {s : Shared} {P : Obj -> Prop} (R : Rel g c H S s) {a : Addr} (ha : S.σ a = some (.raw P)) : ∃ ob, s.heap.get? a = some ob /\ P ob := by
 refine zB (R.sto a _ ha) ?_; intro ob h1 h2
 exact ⟨ob, h1, h2⟩
theorem zw {n : Int} (h : ∀ a, S.σ a = none -> Q (.ref a) ⟨S.m, upd S.σ a (rngO 0 n 1)⟩) : WC g c (.type "range") [.int n 0] S Q := by
 intro us hu H s R
 o_shape
 refine zB (z3 hu) ?_; intro u rfl_249 hu1; subst rfl_249
 refine zI (zf hu1) ?_; intro t rfl_248; subst rfl_248
 refine call_range_1 ?_
 refine zL (R.add (tk := s.toks + 1 + 1) (h' := s.heap.push { cls := .type "range", data := .fields #[.int 0 s.toks, .int n t, .int 1 (s.toks + 1)] }) (o := rngO 0 n 1) (Heap.ExtBut.push (Heap.ExtBut.refl _ _) _) (zG _) (Heap.get?_push_size _ rfl) ⟨_, _, _, rfl⟩) ?_; intro hn R2
 exact ⟨_, R2, h _ hn⟩
theorem WC_range3 {a b k : Int} (hk : k ≠ 0) (hp : Builtin.divisionGoesByPylong (b - a) k = false) (h : ∀ r, S.σ r = none -> Q (.ref r) ⟨S.m, upd S.σ r (rngO a b k)⟩) : WC g c (.type "range") [.int a 0, .int b 0, .int k 0] S Q := by
 intro us hu H s R
 o_shape
 refine zN (map3 hu) ?_; intro u v w rfl_244 hu1 hu2 hu3; subst rfl_244
 refine zI (zf hu1) ?_; intro t rfl_243; subst rfl_243
 refine zI (zf hu2) ?_; intro t' rfl_242; subst rfl_242
 refine zI (zf hu3) ?_; intro t'' rfl_241; subst rfl_241
 refine call_range_3 hk ?_ (.inl hp)
 refine zL (R.add (tk := s.toks) (h' := s.heap.push { cls := .type "range", data := .fields #[.int a t, .int b t', .int k t''] }) (o := rngO a b k) (Heap.ExtBut.push (Heap.ExtBut.refl _ _) _) (zG _) (Heap.get?_push_size _ rfl) ⟨_, _, _, rfl⟩) ?_; intro hn R2
 exact ⟨_, R2, h _ hn⟩
noncomputable def itRange (g : Gl Str) (a b k : Int) : ItSpec g (rngL a b k) (fun _ => True) where
 St_ i ob := i ≤ rngN a b k /\ ob = { cls := .type "range_iterator", data := .fields #[rawInt (a + (i : Int) * k), rawInt ((rngN a b k : Int) - (i : Int)), rawInt k] }
 noCell i ob u h e := by rw [h.2] at e; exact (nomatch e)
 next c H S s it i ob x hH hS R ok hx := by
  refine zL (rngL_get.mp hx) ?_; intro hlt rfl_240; subst rfl_240
  refine zL hS ?_; (try clear hS); intro hi rfl_239; subst rfl_239
  refine wpAny_pyNext_range_item (R.hid _ _ hH) (by lia) fun h' hit hs => ?_
  refine ⟨_, _, rfl, rfl, ⟨hlt, rfl⟩, R.turn (tk := s.toks + 1) hH hs.extBut ?_ fun u e => by exact (nomatch e)⟩
  rw [show (a + ((i + 1 : Nat) : Int) * k) = a + (i : Int) * k + k by rw [Int.natCast_add, Int.add_mul, Int.add_assoc]; simp, show ((rngN a b k : Int) - ((i + 1 : Nat) : Int)) = (rngN a b k : Int) - (i : Int) - 1 by lia]
  exact hit
 done c H S s it i ob hH hS R ok hx := by
  refine zL hS ?_; (try clear hS); intro hi rfl_238; subst rfl_238
  have : rngN a b k ≤ i := by
   have := List.getElem?_eq_none_iff.mp hx
   rwa [rngL_len] at this
  exact wpAny_pyNext_range_end R.ac.hd (R.hid _ _ hH) (by lia) fun h' hs => ⟨rfl, R.lose (tk := s.toks) hH (fun u e => by exact (nomatch e)) hs⟩
 lets c H S s it i ob t v hH hS R := zy (R.hid _ _ hH) (by rw [hS.2]; rfl) ⟨ob, hS, by rw [H.put_same hH]; exact R⟩
 again c H S s it i ob P E hH hS R h := by
  refine zL hS ?_; (try clear hS); intro hi rfl_237; subst rfl_237
  exact wpAny_pyIter_rangeiter (R.hid _ _ hH) h
theorem iter_range {a : Addr} {x y z : Int} (ha : S.σ a = some (rngO x y z)) (hs : Builtin.Range.small x y z = true) (hz : 0 ≤ Builtin.Range.rangeSize x y z) : Iterable g c (.ref a) (rngL x y z) (fun _ => True) S := by
 intro H s u hu R
 obtain rfl := zH hu
 refine el_EAEEE (R.raw ha) ?_; intro ob h1 t u v rfl_236; subst rfl_236
 refine wpAny_pyIter_range h1 hs ⟨_, _, itRange g x y z, rfl, R.free_hid (zG _), ⟨Nat.zero_le _, rfl⟩, ?_⟩
 refine R.hide (tk := s.toks) (Heap.ExtBut.push (Heap.ExtBut.refl _ _) _) (zG _) ?_
 rw [show ((rngN x y z : Nat) : Int) - ((0 : Nat) : Int) = Builtin.Range.rangeSize x y z by unfold rngN; exact Int.toNat_of_nonneg ‹_›, show x + ((0 : Nat) : Int) * z = x by simp]
 exact Heap.get?_push_size _ rfl
theorem fits_long {i : Int} (h1 : -(2 ^ 63) ≤ i) (h2 : i < 2 ^ 63) : Builtin.Range.rangeFitsLong i = true := by
 unfold Builtin.Range.rangeFitsLong
 rw [Bool.and_eq_true, decide_eq_true_eq, decide_eq_true_eq]
 exact ⟨h1, h2⟩
theorem small_nat {a b : Int} (h1 : -(2 ^ 62) ≤ a) (h2 : a < 2 ^ 62) (h3 : -(2 ^ 62) ≤ b) (h4 : b < 2 ^ 62) : Builtin.Range.small a b 1 = true := by
 have q : Builtin.Range.rangeFitsLong (Builtin.Range.rangeSize a b 1) = true := by
  rw [rangeSize_one]
  split <;> exact fits_long (by lia) (by lia)
 unfold Builtin.Range.small
 rw [fits_long (i := a) (by lia) (by lia), fits_long (i := b) (by lia) (by lia), fits_long (i := 1) (by exact om28 _) (by exact Int.natCast_nonneg _), q, if_pos (by decide), fits_long (i := b + (1 - 1)) (by lia) (by lia)]
 simp
theorem size_one_nonneg (a b : Int) : 0 ≤ Builtin.Range.rangeSize a b 1 := by
 rw [rangeSize_one]; split <;> lia
theorem WBin_floordiv {i j : Int} (hj : j ≠ 0) (hs : j.natAbs < 1073741824) (h : Q (.int (i.fdiv j) 0) S) : WBin g c .FloorDiv (.int i 0) (.int j 0) S Q := WBin_of (fun _ _ _ _ _ h => floordiv_int hj h (.inl (PyProof.noPylong_small hs))) h
section
open MeetsSeq
open AutoSeq1 (wpAny_loadPart')
noncomputable def WAll (g : Gl Str) (c : Ac) (op : BoolOp) (es : List Expr) (S : St Str) (Q : Bool -> St Str -> Prop) : Prop := WM g c (allTrue op es c.env) S Q
theorem WT_BoolOp {op : BoolOp} {es : List Expr} {pos : Pos} {Q : Bool -> St Str -> Prop} (h : WAll g c op es S Q) : WT g c (.BoolOp op es pos) S Q :=
 fun H s R => wpAny_isTrue_BoolOp (h H s R)
theorem WAll_and_nil {Q : Bool -> St Str -> Prop} (h : Q true S) : WAll g c .And [] S Q := fun _ _ R => wpAny_allTrue_And_nil ⟨S, R, h⟩
theorem WAll_and {x : Expr} {es : List Expr} {Q : Bool -> St Str -> Prop} (h : WT g c x S fun b S1 => if b = true then WAll g c .And es S1 Q else Q false S1) : WAll g c .And (x :: es) S Q := by
 intro H s R
 o_shape
 refine wpAny_allTrue_And_cons (goK (h H s R) (fun b s1 S1 R1 q => ?_))
 cases b with
 | true => exact q H s1 R1
 | false => exact ⟨S1, R1, q⟩
theorem WE_Or2 {x y : Expr} {pos : Pos} (h : WE g c x S fun v S1 => WTr g c v S1 fun t S2 => if t = true then Q v S2 else WE g c y S2 Q) : WE g c (.BoolOp .Or [x, y] pos) S Q := by
 intro H s R
 o_shape
 refine PyProof.Rows.BoolOp_or (goK (h H s R) (fun v s1 S1 R1 q => goK (q v rfl H s1 R1) (fun t s2 S2 R2 qc => ?_)))
 cases t with
 | true => exact ⟨S2, R2, qc⟩
 | false => exact BoolOp_one (qc H s2 R2)
theorem WTr_none {Q : Bool -> St Str -> Prop} (h : Q false S) : WTr g c .none S Q := by
 intro u hu H s R
 o_shape
 obtain rfl := er_none hu
 exact truthy_none ⟨S, R, h⟩
theorem beq_er_none (u : Value) : (u == .none) = (er u == .none) := by cases u <;> rfl
theorem WCmp_isNone {v : Value} (h : Q (.bool (v == .none)) S) : WCmp g c .Is v .none S Q := by
 intro u w hu hw H s R
 o_shape
 obtain rfl := er_none hw
 exact is_none_gen ⟨S, R, by rw [beq_er_none, hu]; exact h⟩
theorem WCmp_isNotNone {v : Value} (h : Q (.bool (!(v == .none))) S) : WCmp g c .IsNot v .none S Q := by
 intro u w hu hw H s R
 o_shape
 obtain rfl := er_none hw
 exact isNot_none ⟨S, R, by rw [beq_er_none, hu]; exact h⟩
theorem WCmp_isBool {x y : Bool} (h : Q (.bool (x == y)) S) : WCmp g c .Is (.bool x) (.bool y) S Q := by
 intro u w hu hw H s R
 o_shape
 obtain rfl := er_bool hu
 obtain rfl := er_bool hw
 exact is_bool ⟨S, R, h⟩
theorem WCmp_isNotBool {x y : Bool} (h : Q (.bool (!(x == y))) S) : WCmp g c .IsNot (.bool x) (.bool y) S Q := by
 intro u w hu hw H s R
 o_shape
 obtain rfl := er_bool hu
 obtain rfl := er_bool hw
 exact wpAny_isNot_plain rfl ⟨S, R, by
  rw [show (Value.bool x == Value.bool y) = (x == y) by cases x <;> cases y <;> rfl]; exact h⟩
noncomputable def EqW (g : Gl Str) (S : St Str) (k : Nat) (x y : Value) (b : Bool) : Prop :=
 ∀ (c : Ac) (H : Hid) (s : Shared), Rel g c H S s -> ∀ u v, er u = x -> er v = y -> ∀ A' : Around, A'.units + k < cLine -> SeqAt.EqAt A' s u v b
theorem EqW.str (i j : Str) : EqW g S 0 (.str i 0) (.str j 0) (i == j) := by
 intro c H s R u v hu hv A' hA
 refine zI (zZ hu) ?_; intro t rfl_90; subst rfl_90
 refine zI (zZ hv) ?_; intro t' rfl_89; subst rfl_89
 exact SeqAt.EqAt.str_str _ _ _ _
theorem arr_get {arr : Array Value} {j : Nat} (h1 : j < arr.size) (h : arr.toList.map er = xs) : xs[j]? = some (er arr[j]) := by
 rw [← h, List.getElem?_map]
 simp [h1]
theorem EqW.tuples {k : Nat} {e : Nat -> Bool} (ha : S.σ a = some (.tup xs)) (hb : S.σ b = some (.tup ys)) (hne : a ≠ b)
  (h : ∀ j x y, xs[j]? = some x -> ys[j]? = some y -> EqW g S k x y (e j)) : EqW g S (k + 1) (.ref a) (.ref b) ((List.range (min xs.length ys.length)).all e && xs.length == ys.length) := by
 intro c H s R u v hu hv A' hA
 obtain rfl := zH hu
 obtain rfl := zH hv
 refine zE (R.tup ha) ?_; intro arr n h1 h2 h3 h4
 refine zE (R.tup hb) ?_; intro arr' n' h1' h2' h3' h4'
 rw [← h4, ← h4']
 exact .of_refs hne (.tuples h2 h2' (by omega) fun j q1 q2 => h j _ _ (arr_get q1 h3) (arr_get q2 h3') c H s R _ _ rfl rfl _ (by show A'.units + 1 + k < _; omega))
theorem WCmp_eqL {e : Nat -> Bool} {k : Nat} (ha : S.σ a = some (.list xs)) (hb : S.σ b = some (.list ys)) (hl : xs.length = ys.length) (hk : k ≤ 50)
  (h : ∀ j x y, xs[j]? = some x -> ys[j]? = some y -> EqW g S k x y (e j)) (hq : Q (.bool ((List.range xs.length).all e)) S) : WCmp g c .Eq (.ref a) (.ref b) S Q := by
 intro u v hu hv H s R
 o_shape
 obtain rfl := zH hu
 obtain rfl := zH hv
 refine zE (R.list ha) ?_; intro arr n h1 h2 h3 h4
 refine zE (R.list hb) ?_; intro arr' n' h1' h2' h3' h4'
 have hu := R.ac.deep.2
 refine SeqAt.RcAt.lists h2 h2' (by rw [h4, h4', hl]) (by exact om10 ‹_›) (fun j q1 q2 => h j _ _ (arr_get q1 h3) (arr_get q2 h3') c H s R _ _ rfl rfl _ (by show c.A.units + 1 + k < _; lia)) _ _ _ _ ⟨S, R, ?_⟩
 rw [h4]; exact hq
theorem WCmp_neL {e : Nat -> Bool} {k : Nat} (ha : S.σ a = some (.list xs)) (hb : S.σ b = some (.list ys)) (hl : xs.length = ys.length) (hk : k ≤ 50)
  (h : ∀ j x y, xs[j]? = some x -> ys[j]? = some y -> EqW g S k x y (e j)) (hq : Q (.bool (!(List.range xs.length).all e)) S) : WCmp g c .NotEq (.ref a) (.ref b) S Q := by
 intro u v hu hv H s R
 o_shape
 obtain rfl := zH hu
 obtain rfl := zH hv
 refine zE (R.list ha) ?_; intro arr n h1 h2 h3 h4
 refine zE (R.list hb) ?_; intro arr' n' h1' h2' h3' h4'
 have hu := R.ac.deep.2
 refine SeqAt.RcNeAt.lists h2 h2' (by rw [h4, h4', hl]) (by exact om10 ‹_›) (fun j q1 q2 => h j _ _ (arr_get q1 h3) (arr_get q2 h3') c H s R _ _ rfl rfl _ (by show c.A.units + 1 + k < _; omega)) _ _ _ _ ⟨S, R, ?_⟩
 rw [h4]; exact hq
theorem WCmp_eqL_len (ha : S.σ a = some (.list xs)) (hb : S.σ b = some (.list ys)) (hl : xs.length ≠ ys.length) (hq : Q (.bool false) S) : WCmp g c .Eq (.ref a) (.ref b) S Q := by
 intro u v hu hv H s R
 o_shape
 obtain rfl := zH hu
 obtain rfl := zH hv
 refine zE (R.list ha) ?_; intro arr n h1 h2 h3 h4
 refine zE (R.list hb) ?_; intro arr' n' h1' h2' h3' h4'
 exact SeqAt.RcAt.lists_lengths h2 h2' (by rw [bne_iff_ne, h4, h4']; exact hl) (by have := R.ac.deep.2; exact om10 ‹_›) _ _ _ _ ⟨S, R, hq⟩
end
theorem WM.drop {α : Type} {t : Sem α} {Q : α -> St Str -> Prop} (h : WM g c t S fun v S' => ∃ S'', Le S'' S' /\ Q v S'') : WM g c t S Q :=
 fun H s R => wpAny_mono (h H s R) (fun v s' ⟨S', R', S'', l, q⟩ => ⟨S'', R'.le l.m l.s, q⟩) fun _ _ x => x
theorem WV2.drop {t : Value -> Value -> Sem Value} {x y : Value} (h : WV2 g c t x y S fun v S' => ∃ S'', Le S'' S' /\ Q v S'') : WV2 g c t x y S Q :=
 fun u v hu hv => WM.drop (h u v hu hv)
noncomputable def At (g : Gl Str) (S : St Str) (a : Addr) (o : AO Str) : Prop := S.σ a = some o ∨ ∃ ob, g.hU.get? a = some ob /\ Is g ob o
theorem Rel.at {H : Hid} {s : Shared} {o : AO Str} (R : Rel g c H S s) (h : At g S a o) : ∃ ob, s.heap.get? a = some ob /\ Is g ob o := by
 rcases h with h | ⟨ob, h1, h2⟩
 ·exact R.sto a o h
 exact ⟨ob, R.keep a ob h1, h2⟩
theorem Rel.listAt {H : Hid} {s : Shared} (R : Rel g c H S s) (h : At g S a (.list xs)) : ∃ arr n, s.heap.get? a = some (listOf arr n) /\ s.heap.IsList a arr /\ arr.toList.map er = xs /\ arr.size = xs.length := by
 refine el_EAEEA (R.at h) ?_; intro ob h1 arr n rfl_111 h3; subst rfl_111
 exact ⟨arr, n, h1, ⟨_, h1, rfl, n, rfl⟩, h3, by rw [← h3]; simp⟩
theorem Rel.tupAt {H : Hid} {s : Shared} (R : Rel g c H S s) (h : At g S a (.tup xs)) : ∃ arr n, s.heap.get? a = some { cls := .type "tuple", data := .seq arr n } /\ s.heap.IsTuple a arr /\ arr.toList.map er = xs /\ arr.size = xs.length := by
 refine el_EAEEA (R.at h) ?_; intro ob h1 arr n rfl_110 h3; subst rfl_110
 exact ⟨arr, n, h1, ⟨_, h1, rfl, n, rfl⟩, h3, by rw [← h3]; simp⟩
noncomputable def pickL (xs : List Value) (lo hi : Option Int) : List Value :=
 (xs.drop (lo.elim 0 (clipAt xs.length))).take (hi.elim xs.length (clipAt xs.length) - lo.elim 0 (clipAt xs.length))
noncomputable def sliceO (lo hi : Option Int) : AO Str := .raw fun ob => ∃ l u : Option (Int × Tok), l.map (·.1) = lo /\ u.map (·.1) = hi /\ ob = { cls := .type "slice", data := .fields #[partValue l, partValue u, .none] }
noncomputable def WPart (g : Gl Str) (c : Ac) (e : Option Expr) (S : St Str) (Q : Option Int -> St Str -> Prop) : Prop :=
 WM g c (evalPart e c.env) S fun v S' => ∃ l : Option (Int × Tok), v = partValue l /\ Q (l.map (·.1)) S'
theorem WPart_none {Q : Option Int -> St Str -> Prop} (h : Q none S) : WPart g c none S Q := fun _ _ R => wpAny_pure ⟨S, R, none, rfl, h⟩
theorem zn {e : Expr} {Q : Option Int -> St Str -> Prop} (h : WE g c e S fun v S' => ∃ i, v = .int i 0 /\ Q (some i) S') : WPart g c (some e) S Q := by
 intro H s R
 o_shape
 refine goK (h H s R) (fun v s1 S1 R1 q_ => ?_)
 refine zB q_ ?_; clear q_; intro i e q
 refine zI (zf e) ?_; intro t rfl_109; subst rfl_109
 exact ⟨S1, R1, some (i, t), rfl, q⟩
theorem WE_Slice {lower upper : Option Expr} {p : Pos} (h : WPart g c lower S fun lo S1 => WPart g c upper S1 fun hi S2 => ∀ D, S2.σ D = none -> Q (.ref D) ⟨S2.m, upd S2.σ D (sliceO lo hi)⟩) : WE g c (.Slice lower upper none p) S Q := by
 intro H s R
 o_shape
 refine wpAny_Slice (wpAny_mono (h H s R) (fun vl s1 ⟨S1, R1, l, ec, qe⟩ => goK (qe H s1 R1) (fun vu s2 S2 R2 q_ => ?_)) fun _ _ x => x)
 refine zB q_ ?_; clear q_; intro u ed qc
 rw [evalPart_none]
 refine wpAny_pure ?_
 refine zL (R2.add (tk := s2.toks) (h' := s2.heap.push { cls := .type "slice", data := .fields #[vl, vu, .none] }) (o := sliceO (l.map (·.1)) (u.map (·.1))) (Heap.ExtBut.push (Heap.ExtBut.refl _ _) _) (zG _) (Heap.get?_push_size _ rfl) ⟨l, u, rfl, rfl, by rw [ec, ed]⟩) ?_; intro hn R3
 exact ⟨_, R3, qc _ hn⟩
theorem IsPart_of (l : Option (Int × Tok)) : IsPart (partValue l) (l.map (·.1)) := by
 cases l with
 | none => exact .none
 | some p => exact .int p.1 p.2
theorem WItem_sliceL {r : Addr} {lo hi : Option Int} (ha : At g S a (.list xs)) (hr : S.σ r = some (sliceO lo hi)) (hz : xs.length ≤ sizeLine) (h : ∀ D, S.σ D = none -> Q (.ref D) ⟨S.m, upd S.σ D (.list (pickL xs lo hi))⟩) : WItem g c (.ref a) (.ref r) S Q := by
 intro u v hu hv H s R
 o_shape
 obtain rfl := zH hu
 obtain rfl := zH hv
 refine zE (R.listAt ha) ?_; intro arr n h1 h2 h3 h4
 refine el_EAEEAA (R.raw hr) ?_; intro ob k1 l w e1 e2 rfl_108; subst rfl_108
 refine wpAny_getItem_list_slice h2 ⟨_, k1, rfl, rfl⟩ (IsPart_of l) (IsPart_of w) .none (by simp) ?_ (by exact om37 ‹_› ‹_›)
 obtain ⟨hn, R3⟩ := R.add (tk := s.toks) (h' := s.heap.push { cls := .type "list", data := .seq (slicePick arr (l.map (·.1)) (w.map (·.1)) none) }) (o := .list (pickL xs lo hi)) (Heap.ExtBut.push (Heap.ExtBut.refl _ _) _) (zG _) (Heap.get?_push_size _ rfl) (Is.list (by
  rw [slicePick_plain, e1, e2, h4, ← h3]
  unfold pickL
  simp [List.map_take, List.map_drop]))
 exact ⟨_, R3, h _ hn⟩
theorem WSub_listAt {o i : Expr} {iv : Value} (ha : At g S a (.list xs)) (hs : ∃ ops : Value -> Value -> List Value, ∀ o' i', subscripted i false o' i' = operate (ops o' i') (getItem o' i')) (h : WItem g c (.ref a) iv S Q) : WV2 g c (subscriptTail o i) (.ref a) iv S Q :=
 WSub_of PySem.slot_list_getitem.lookup (fun H s u R hu => by
  obtain rfl := zH hu
  refine zE (R.listAt ha) ?_; intro arr n h1 h2 h3 h4
  exact h2.typeIs) hs h
theorem At.le {o : AO Str} (h : At g S a o) (hl : ∀ b o, S.σ b = some o -> S'.σ b = some o) : At g S' a o := h.elim (fun h => .inl (hl _ _ h)) .inr
theorem zC {σ : Addr -> Option (AO Str)} {D : Addr} {o : AO Str} (h : σ D = none) : ∀ b o', σ b = some o' -> upd σ D o b = some o' := fun b o' e => by
 unfold upd
 rw [if_neg (by rintro rfl; rw [h] at e; exact Mine.ns e)]; exact e
theorem WE_SliceL {value : Expr} {lower upper : Option Expr} {p pos : Pos}
  (h : WE g c value S fun v S1 => ∃ a, v = .ref a /\ WPart g c lower S1 fun lo S2 => WPart g c upper S2 fun hi S3 => ∃ xs, At g S3 a (.list xs) /\ xs.length ≤ sizeLine /\ ∀ D, S3.σ D = none -> Q (.ref D) ⟨S3.m, upd S3.σ D (.list (pickL xs lo hi))⟩) :
  WE g c (.Subscript value (.Slice lower upper none p) pos) S Q := by
 refine WE_Sub (WE.mono h fun v S1 q_ => ?_)
 refine zB q_ ?_; clear q_; intro a e q
 subst e
 refine WE_Slice (WM.mono q fun vl S2 ⟨l, e, qc⟩ => ⟨l, e, WM.mono qc fun vu S3 ⟨u, e', xs, hat, hz, qf⟩ => ⟨u, e', fun r hr => ?_⟩⟩)
 have hl := zC (o := (sliceO (l.map (·.1)) (u.map (·.1)) : AO Str)) hr
 refine WSub_listAt (hat.le hl) ⟨fun o i => [i, o], fun _ _ => rfl⟩ (WV2.drop (WItem_sliceL (hat.le hl) (if_pos rfl) hz fun D hD => ?_))
 have hD' : S3.σ D = none := by
  cases z : S3.σ D with
  | none => rfl
  | some o => have := hl D o z; exact absurd (this.symm.trans hD) (by simp)
 refine ⟨⟨S3.m, upd S3.σ D (.list (pickL xs (l.map (·.1)) (u.map (·.1))))⟩, ⟨fun _ _ e => e, fun b o e => ?_⟩, qf D hD'⟩
 have e : upd S3.σ D _ b = some o := e
 show upd (upd S3.σ r _) D _ b = some o
 unfold upd at e ⊢
 by_cases hb : b = D
 ·rw [if_pos hb] at e ⊢; exact e
 rw [if_neg hb] at e ⊢; exact hl b o e
theorem z7 (ha : At g S a (.list xs)) (hz : (xs.length : Int) < 2 ^ 63) (h : Q (.int xs.length 0) S) : WC g c (.builtin "len") [.ref a] S Q := by
 intro us hu H s R
 o_shape
 refine zB (z3 hu) ?_; intro u rfl_101 hu1; subst rfl_101
 obtain rfl := zH hu1
 refine zE (R.listAt ha) ?_; intro arr n h1 h2 h3 h4
 exact len_list h2 (by rw [h4]; exact hz) ⟨S, R.toks, by rw [h4]; exact h⟩
theorem WC_lens {x : Str} (hz : (x.length : Int) < 2 ^ 63) (h : Q (.int x.length 0) S) : WC g c (.builtin "len") [.str x 0] S Q := by
 intro us hu H s R
 o_shape
 refine zB (z3 hu) ?_; intro u rfl_100 hu1; subst rfl_100
 refine zI (zZ hu1) ?_; intro t rfl_99; subst rfl_99
 exact PyProof.Rows.len_str (by lia) ⟨S, R.toks, h⟩
theorem WBin_addL (ha : S.σ a = some (.list xs)) (hb : S.σ b = some (.list ys)) (hz : xs.length + ys.length ≤ sizeLine) (h : ∀ D, S.σ D = none -> Q (.ref D) ⟨S.m, upd S.σ D (.list (xs ++ ys))⟩) : WBin g c .Add (.ref a) (.ref b) S Q := by
 intro u v hu hv H s R
 o_shape
 obtain rfl := zH hu
 obtain rfl := zH hv
 refine zE (R.list ha) ?_; intro arr n h1 h2 h3 h4
 refine zE (R.list hb) ?_; intro arr' n' h1' h2' h3' h4'
 refine zJ R.led ?_; intro m F N' hl
 refine add_arrays F N' h2 h2' (fun h' F' N'' => ?_) (by lia)
 refine zL (R.backNew (tk := s.toks) (o := .list (xs ++ ys)) hl F' N'' (zG _) (Is.list (by rw [← h3, ← h3', ← List.map_append]))) ?_; intro hn R3
 exact ⟨_, R3, h _ hn⟩
inductive AreStr : List Value -> List Str -> Prop
 | nil : AreStr [] []
 | cons (x : Str) {vs : List Value} {ss : List Str} (h : AreStr vs ss) : AreStr (.str x 0 :: vs) (x :: ss)
theorem AreStr.to {vs : List Value} {ss : List Str} : ∀ {us : List Value}, us.map er = vs -> AreStr vs ss -> StrsAre us ss
 | [], h, h' => by subst h; cases h'; exact .nil
 | u :: us, h, h' => by
  cases h' with
  | nil => exact (nomatch h)
  | cons x h' =>
   simp only [List.map_cons, List.cons.injEq] at h
   refine zI (zZ h.1) ?_; intro t rfl_98; subst rfl_98
   exact .cons x t (AreStr.to h.2 h')
theorem WC_join {x : Str} {ss : List Str} (ha : S.σ a = some (.list xs)) (hs : AreStr xs ss) (hz : (ss.map (·.length)).sum + ss.length * x.length ≤ 16777216) (h : Q (.str (Txt.join x ss) 0) S) : WC g c (.builtin "str.join") [.str x 0, .ref a] S Q := by
 intro us hu H s R
 o_shape
 refine zD (map2 hu) ?_; intro u v rfl_97 hu1 hu2; subst rfl_97
 refine zI (zZ hu1) ?_; intro t rfl_96; subst rfl_96
 obtain rfl := zH hu2
 refine zE (R.list ha) ?_; intro arr n h1 h2 h3 h4
 exact join_list h2 (hs.to h3) hz fun t' k => ⟨S, R.toks, h⟩
theorem WC_tuple (ha : S.σ a = some (.list xs)) (hz : xs.length ≤ 16384) (h : ∀ D, S.σ D = none -> Q (.ref D) ⟨S.m, upd S.σ D (.tup xs)⟩) : WC g c (.type "tuple") [.ref a] S Q := by
 intro us hu H s R
 o_shape
 refine zB (z3 hu) ?_; intro u rfl_95 hu1; subst rfl_95
 obtain rfl := zH hu1
 refine zE (R.list ha) ?_; intro arr n h1 h2 h3 h4
 refine call_tuple_list h2 (fun h' hk => ?_) (by rw [sizeLine_eq]; lia)
 have R' : Rel g c H S { s with heap := h' } := R.grow (tk := s.toks) hk
 refine zL (R'.add (tk := s.toks) (h' := h'.push { cls := .type "tuple", data := .seq arr }) (o := .tup xs) (Heap.ExtBut.push (Heap.ExtBut.refl _ _) _) (zG _) (Heap.get?_push_size _ rfl) (Is.tup h3)) ?_; intro hn R3
 exact ⟨_, R3, h _ hn⟩
inductive AreInt : List Value -> List Int -> Prop
 | nil : AreInt [] []
 | cons (x : Int) {vs : List Value} {ss : List Int} (h : AreInt vs ss) : AreInt (.int x 0 :: vs) (x :: ss)
theorem AreInt.to {vs : List Value} {ss : List Int} : ∀ {us : List Value}, us.map er = vs -> AreInt vs ss -> IntsAre us ss
 | [], h, h' => by subst h; cases h'; exact .nil
 | u :: us, h, h' => by
  cases h' with
  | nil => exact (nomatch h)
  | cons x h' =>
   simp only [List.map_cons, List.cons.injEq] at h
   refine zI (zf h.1) ?_; intro t rfl_94; subst rfl_94
   exact .cons x t (AreInt.to h.2 h')
theorem WC_sum {ns : List Int} (ha : S.σ a = some (.list xs)) (hs : AreInt xs ns) (h : Q (.int ns.sum 0) S) : WC g c (.builtin "sum") [.ref a] S Q := by
 intro us hu H s R
 o_shape
 refine zB (z3 hu) ?_; intro u rfl_93 hu1; subst rfl_93
 obtain rfl := zH hu1
 refine zE (R.list ha) ?_; intro arr n h1 h2 h3 h4
 refine zJ R.led ?_; intro m F N' hl
 exact LSm.sum_ints (vs := arr.toList) F N' R.ac.hd h2 (hs.to h3) fun h' tk t' F' N'' => ⟨S, R.back hl F' N'', h⟩
theorem WC.drop {f : Value} {as : List Value} (h : WC g c f as S fun v S' => ∃ S'', Le S'' S' /\ Q v S'') : WC g c f as S Q := fun us hu => WM.drop (h us hu)
theorem zt {m : Str -> Option Value} {x : Str} {v : Value} : setv m x v x = some v := if_pos rfl
theorem zO {m : Str -> Option Value} {x y : Str} {v w : Value} (hn : y ≠ x) (h : m y = some w) : setv m x v y = some w := (if_neg hn).trans h
theorem zA {σ : Addr -> Option (AO Str)} {x : Addr} {o : AO Str} : upd σ x o x = some o := if_pos rfl
theorem upd_other {σ : Addr -> Option (AO Str)} {x y : Addr} {o o' : AO Str} (hn : y ≠ x) (h : σ y = some o') : upd σ x o y = some o' := (if_neg hn).trans h
theorem m_self {m : Str -> Option Value} {σ : Addr -> Option (AO Str)} {x : Str} {v : Value} : (⟨setv m x v, σ⟩ : St Str).m x = some v := if_pos rfl
theorem m_other {m : Str -> Option Value} {σ : Addr -> Option (AO Str)} {x y : Str} {v w : Value} (hn : y ≠ x) (h : m y = some w) : (⟨setv m x v, σ⟩ : St Str).m y = some w := (if_neg hn).trans h
theorem s_self {m : Str -> Option Value} {σ : Addr -> Option (AO Str)} {x : Addr} {o : AO Str} : (⟨m, upd σ x o⟩ : St Str).σ x = some o := if_pos rfl
theorem s_new {m : Str -> Option Value} {σ : Addr -> Option (AO Str)} {x y : Addr} {o o' : AO Str} (hn : σ x = none) (h : σ y = some o') : (⟨m, upd σ x o⟩ : St Str).σ y = some o' := zC hn y o' h
theorem z6 {sc : Scope} {x : Str} {pos : Pos} {v : Value} (hs : c.env.scope = sc) (hk : isVar sc x = true) (hv : S.m x = some v) (h : Q v S) : WE g c (.Name x pos) S Q := WE_Name (by rw [hs]; exact hk) hv h
theorem WE_BuiltS {sc : Scope} {K : Frag} {x : Str} {pos : Pos} {v : Value} (hs : c.env.scope = sc) (hK : g.K = K) (hb : bootBuiltins x = some v) (hk : isGlob sc x = true) (hv : nsIn K mainGlobals x = some none) (hx : x ≠ "__name__") (h : Q (er v) S) : WE g c (.Name x pos) S Q :=
 WE_Built (by rw [hs]; exact hk) (by rw [hK]; exact hv) hb hx h
theorem WE_GlobS {sc : Scope} {K : Frag} {x : Str} {pos : Pos} {v : Value} (hs : c.env.scope = sc) (hK : g.K = K) (hk : isGlob sc x = true) (hv : nsIn K mainGlobals x = some (some v)) (h : Q (er v) S) : WE g c (.Name x pos) S Q :=
 WE_Glob (by rw [hs]; exact hk) (by rw [hK]; exact hv) h
theorem W_CWS {K : Frag} {f : Value} {first : List Value} {e : Expr} {rest : List Expr} (hK : g.K = K) (hk : Keeps K f = true) (hs : (e :: rest).all notStar = true)
  (h : WEs g c (e :: rest) S fun vs S1 => WC g c f (first ++ vs) S1 Q) : WCW g c f first (e :: rest) S Q := W_CW (by rw [hK]; exact hk) hs h
theorem zo {sc : Scope} {x : Str} {v : Value} {Q : St Str -> Prop} (hs : c.env.scope = sc) (hx : c.ext = fun _ => false) (hk : isOwn sc x = true) (h : Q ⟨setv S.m x v, S.σ⟩) : WStore g c x v S Q := W_Store (by rw [hs]; exact hk) (by rw [hx]) h
noncomputable def iL (ns : List Int) : List Value := ns.map fun i => .int i 0
theorem zj (ns : List Int) : (iL ns).length = ns.length := List.length_map ..
theorem iL_get {ns : List Int} {i : Nat} {k : Int} (h : ns[i]? = some k) : (iL ns)[i]? = some (.int k 0) := by
 unfold iL; rw [List.getElem?_map, h]; rfl
inductive ForRPost (g : Gl Str) (c : Ac) (x : Str) (body : List Stmt) (orelse : List Stmt) (Q : Flow -> St Str -> Prop) (v : Value) (S1 : St Str) : Prop
 | mk (r : Addr) (lo : Int) (hi : Int) (h_1 : v = .ref r) (h_2 : S1.σ r = some (rngO lo hi 1)) (h_3 : -(2 ^ 62) ≤ lo) (h_4 : lo < 2 ^ 62) (h_5 : -(2 ^ 62) ≤ hi) (h_6 : hi < 2 ^ 62) (Inv : Nat -> St Str -> Prop) (h_7 : Inv 0 S1) (h_8 : (∀ (i : Nat) S2, (i : Int) < hi - lo -> Inv i S2 -> WStore g c x (.int (lo + i) 0) S2 fun S3 => WXs g c body S3 (ForQ Inv i Q))) (h_9 : ∀ S2, Inv (hi - lo).toNat S2 -> WXs g c orelse S2 Q) : ForRPost g c x body orelse Q v S1
theorem WX_ForR {x : Str} {px : Pos} {iter : Expr} {body orelse : List Stmt} {pos : Pos} {Q : Flow -> St Str -> Prop} (hs : ∀ env x, foldedSetIterable iter env x = pure x)
  (h : WE g c iter S (ForRPost g c x body orelse Q)) : WX g c (.For (.Name x px) iter body orelse pos) S Q := by
 refine WX_For hs (WE.mono h fun v S1 q_ => ?_)
 obtain ⟨r, lo, hi, e, hr, b1, b2, b3, b4, Inv, h0, turn, fin⟩ := q_
 subst e
 refine ⟨_, _, iter_range hr (small_nat b1 b2 b3 b4) (size_one_nonneg _ _), Inv, h0, fun _ _ _ => trivial, fun i y S2 hy hI => ?_, fun S2 hI => ?_⟩
 ·(refine zL (rngL_get.mp hy) ?_; intro h1 rfl_112; subst rfl_112)
  rw [rngN_two] at h1
  rw [Int.mul_one]
  exact ze (turn i S2 (by exact om08 ‹_›) hI)
 rw [rngL_len, rngN_two] at hI
 exact fin S2 hI
theorem zW {o i : Expr} {k : Int} {x : Value} (ha : S.σ a = some (.list xs)) (h0 : 0 ≤ k) (hf : k < 2 ^ 63) (hx : xs[k.toNat]? = some x) (h : Q x S)
  (hs : ∃ ops : Value -> Value -> List Value, ∀ o' i', subscripted i false o' i' = operate (ops o' i') (getItem o' i') := by exact ⟨fun o i => [o, i], fun _ _ => rfl⟩) : WV2 g c (subscriptTail o i) (.ref a) (.int k 0) S Q :=
 WSub_list ha hs (WItem_list ha h0 hf hx h)
theorem WSub_iL {o i : Expr} {ns : List Int} {k j : Int} (ha : S.σ a = some (.list (iL ns))) (h0 : 0 ≤ k) (hf : k < 2 ^ 63) (hx : ns[k.toNat]? = some j) (h : Q (.int j 0) S)
  (hs : ∃ ops : Value -> Value -> List Value, ∀ o' i', subscripted i false o' i' = operate (ops o' i') (getItem o' i') := by exact ⟨fun o i => [o, i], fun _ _ => rfl⟩) : WV2 g c (subscriptTail o i) (.ref a) (.int k 0) S Q :=
 zW ha h0 hf (iL_get hx) h hs
theorem WSub_neg {o i : Expr} {k : Int} {x : Value} (ha : S.σ a = some (.list xs)) (h0 : k < 0) (h1 : -(xs.length : Int) ≤ k) (hf : -(2 ^ 63) ≤ k) (hx : xs[(k + xs.length).toNat]? = some x) (h : Q x S)
  (hs : ∃ ops : Value -> Value -> List Value, ∀ o' i', subscripted i false o' i' = operate (ops o' i') (getItem o' i') := by exact ⟨fun o i => [o, i], fun _ _ => rfl⟩) : WV2 g c (subscriptTail o i) (.ref a) (.int k 0) S Q :=
 WSub_list ha hs (WItem_listNeg ha h0 h1 hf hx h)
theorem WX_AssignS {sc : Scope} {x : Str} {p pos : Pos} {e : Expr} {Q : Flow -> St Str -> Prop} (hs : c.env.scope = sc) (hx : c.ext = fun _ => false) (hk : isOwn sc x = true) (hsw : ∀ env, swapsWith e (some (.Name x p)) pos.line env = pure false)
  (h : WE g c e S fun v S1 => Q .next ⟨setv S1.m x v, S1.σ⟩) : WX g c (.Assign [.Name x p] e pos) S Q :=
 WX_AssignName hsw (WE.mono h fun v S1 q => zo hs hx hk q)
theorem WX_AugS {sc : Scope} {x : Str} {p pos : Pos} {op : Operator} {e : Expr} {v : Value} {Q : Flow -> St Str -> Prop} (hs : c.env.scope = sc) (hx : c.ext = fun _ => false) (hk : isVar sc x = true) (ho : isOwn sc x = true) (hv : S.m x = some v)
  (h : WE g c e S fun b S2 => WIn g c op v b S2 fun r S3 => Q .next ⟨setv S3.m x r, S3.σ⟩) : WX g c (.AugAssign (.Name x p) op e pos) S Q :=
 WX_AugName (by rw [hs]; exact hk) hv (WE.mono h fun b S2 q => fun u w hu hw => WM.mono (q u w hu hw) fun r S3 qf => zo hs hx ho qf)
theorem WIn_adds {x y : Str} (hsz : x.length + y.length ≤ sizeLine) (h : Q (.str (x ++ y) 0) S) : WIn g c .Add (.str x 0) (.str y 0) S Q := by
 intro u v hu hv H s R
 o_shape
 refine zI (zZ hu) ?_; intro t rfl_114; subst rfl_114
 refine zI (zZ hv) ?_; intro t' rfl_113; subst rfl_113
 exact PyProof.Rows.iadd_str (fun _ _ => ⟨S, R.toks, h⟩) hsz
noncomputable def chr1 (k : Nat) : Str := ⟨#[k]⟩
noncomputable def chAt (x : Str) (i : Int) : Nat := x.cps.getD i.toNat 0
theorem zh (k : Nat) : (chr1 k).length = 1 := rfl
theorem zM (x y : Str) : (x ++ y).length = x.length + y.length := by
 show (x.cps ++ y.cps).size = _
 rw [Array.size_append]; rfl
theorem WItem_strAt {x : Str} {i : Int} (h0 : 0 ≤ i) (h1 : i < x.length) (hz : x.length < 2 ^ 62) (h : Q (.str (chr1 (chAt x i)) 0) S) : WItem g c (.str x 0) (.int i 0) S Q := by
 refine WItem_str (k := chAt x i) ?_ ?_ h
 ·have q : (x.length : Int) < 4611686018427387904 := by exact om15 ‹_›
  rw [Bool.or_eq_false_iff]
  exact ⟨decide_eq_false (by lia), decide_eq_false (by lia)⟩
 have e : seqIndex? i x.length = some i.toNat := by
  have h2 : ¬ i < 0 := by lia
  show (if (decide (0 ≤ (if i < 0 then i + (x.length : Int) else i)) && decide ((if i < 0 then i + (x.length : Int) else i) < (x.length : Int))) = true then some (if i < 0 then i + (x.length : Int) else i).toNat else none) = _
  rw [if_neg h2, if_pos (by rw [Bool.and_eq_true]; exact ⟨decide_eq_true h0, decide_eq_true h1⟩)]
 rw [e]
 show x.cps[i.toNat]? = some (x.cps.getD i.toNat 0)
 have hlt : i.toNat < x.cps.size := by
  have : (x.cps.size : Int) = x.length := rfl
  exact om07 ‹_› ‹_›
 rw [Array.getElem?_eq_getElem hlt, Array.getD, dif_pos hlt]
 rfl
theorem zV {o i : Expr} {x : Str} {k : Int} (h0 : 0 ≤ k) (h1 : k < x.length) (hz : x.length < 2 ^ 62) (h : Q (.str (chr1 (chAt x k)) 0) S)
  (hs : ∃ ops : Value -> Value -> List Value, ∀ o' i', subscripted i false o' i' = operate (ops o' i') (getItem o' i') := by exact ⟨fun o i => [o, i], fun _ _ => rfl⟩) : WV2 g c (subscriptTail o i) (.str x 0) (.int k 0) S Q :=
 WSub_str hs (WItem_strAt h0 h1 hz h)
section
open AutoSeq1 (wpAny_loadPart')
section
variable {prog : Program} {w : World} {A : Around} {E : Value -> Shared -> Prop} {s : Shared}
theorem nextOf_tuple_item {it t : Addr} {i : Nat} {items} {x : Value} {Q : Value -> Shared -> Prop} (hit : s.heap.IsTupleIter it t i) (ht : s.heap.IsTuple t items) (hx : items[i]? = some x)
  (hQ : ∀ h', h'.IsTupleIter it t (i + 1) -> Heap.SameBut it s.heap h' -> Q x { s with heap := h' }) : wpAny (model prog w) A (Builtin.SmallTypes.nextOf (.ref it)) Q E s := by
 refine zJ (id hit) ?_; intro o ho hc hd
 refine el_EAAE ht ?_; (try clear ht); intro ol hol _ nl hdl
 unfold Builtin.SmallTypes.nextOf
 refine wpAny_bind (wpAny_callSpecial?_slot (name := ofString "__next__") hit.typeIs F.slot_tuple_iterator_next
  (wpAny_call_entry F.slot_tuple_iterator_next hit.typeIs F.entry_tuple_iterator_next ?_ (F.args_tuple_iterator_next_1 _)))
 show wpAny _ _ (field (.ref it) 0 >>= _) _ _ s
 refine wpAny_bind (wpAny_field ho hd (x := .ref t) rfl ?_)
 show wpAny _ _ (if (Value.ref t == Value.none) = true then _ else _) _ _ s
 rw [if_neg (show ¬ ((Value.ref t == Value.none) = true) from Bool.false_ne_true)]
 show wpAny _ _ (field (.ref it) 1 >>= _) _ _ s
 refine wpAny_bind (wpAny_field ho hd (x := .int i 0) rfl ?_)
 show wpAny _ _ (seqItems? (.ref t) >>= _) _ _ s
 refine wpAny_bind (wpAny_seqItems hol hdl ?_)
 simp only [Int.toNat_natCast, hx]
 refine wpAny_bind (wpAny_setField ho hd (by simp) (wpAny_pure ⟨x, rfl, wpAny_pure (hQ _ ?_ (Heap.SameBut.update ..))⟩))
 exact ⟨_, Heap.get?_update_self _ ho (Obj.isFreed_of_fields (Obj.data_mapFields hd _)), (Obj.cls_mapFields ..).trans hc, by
  rw [Obj.data_mapFields hd]; simp [rawInt]⟩
theorem nextOf_tuple_end {it t : Addr} {i : Nat} {items} {Q : Value -> Shared -> Prop} (hh : A.handled = none) (hit : s.heap.IsTupleIter it t i) (ht : s.heap.IsTuple t items) (hx : items[i]? = none)
  (hE : ∀ h' e, Heap.ExtBut it s.heap h' -> (∃ o, h'.get? e = some o /\ o.cls = .type "StopIteration") -> E (.ref e) { s with heap := h' }) : wpAny (model prog w) A (Builtin.SmallTypes.nextOf (.ref it)) Q E s := by
 refine zJ (id hit) ?_; intro o ho hc hd
 refine el_EAAE ht ?_; (try clear ht); intro ol hol _ nl hdl
 unfold Builtin.SmallTypes.nextOf
 refine wpAny_bind (wpAny_callSpecial?_slot (name := ofString "__next__") hit.typeIs F.slot_tuple_iterator_next
  (wpAny_call_entry F.slot_tuple_iterator_next hit.typeIs F.entry_tuple_iterator_next ?_ (F.args_tuple_iterator_next_1 _)))
 show wpAny _ _ (field (.ref it) 0 >>= _) _ _ s
 refine wpAny_bind (wpAny_field ho hd (x := .ref t) rfl ?_)
 show wpAny _ _ (if (Value.ref t == Value.none) = true then _ else _) _ _ s
 rw [if_neg (show ¬ ((Value.ref t == Value.none) = true) from Bool.false_ne_true)]
 show wpAny _ _ (field (.ref it) 1 >>= _) _ _ s
 refine wpAny_bind (wpAny_field ho hd (x := .int i 0) rfl ?_)
 show wpAny _ _ (seqItems? (.ref t) >>= _) _ _ s
 refine wpAny_bind (wpAny_seqItems hol hdl ?_)
 simp only [Int.toNat_natCast, hx]
 refine wpAny_bind (wpAny_rule (wpAny_bind (wpAny_setField ho hd (by simp) ?_)))
 show wpAny _ _ (newExc (.type "StopIteration") [] >>= _) _ _ _
 refine wpAny_bind ?_
 simp only [newExc, newTuple]
 refine wpAny_bind (wpAny_newObj_type ?_ (by size_fits))
 refine wpAny_bind (m := firstArgMember _ _) (wpAny_of_eq (a := Value.none) (by first | rfl | (simp only [firstArgMember]; rfl)) ?_)
 refine wpAny_newObj_type ?_ (by size_fits)
 simp only [raiseNew]
 refine wpAny_bind (wpAny_handled ?_)
 first | rw [show A.in1.handled = none from hh] | rw [hh]
 refine wpAny_bind (wpAny_pure (wpAny_throw ?_))
 exact hE _ _ (((Heap.SameBut.update ..).extBut.push _).push _) ⟨_, Heap.get?_push_size _ rfl, rfl⟩
end
theorem draws_tuple {prog : Program} {w : World} {A : Around} (hh : A.handled = none) (it t : Addr) (hne : t ≠ it) (items : Array Value) :
  Draws prog w A it [it, t] items.size (fun i v => items[i]? = some v) (fun i h => h.IsTupleIter it t i /\ h.IsTuple t items) where
 live := fun _ _ st => let ⟨o, ho, _⟩ := st.1; ⟨o, ho⟩
 frame := fun _ _ _ st hk => ⟨let ⟨o, ho, r⟩ := st.1; ⟨o, hk it (by simp) o ho, r⟩, let ⟨o, ho, r⟩ := st.2; ⟨o, hk t (by simp) o ho, r⟩⟩
 item := fun i s Q E hi st hQ => by
  refine nextOf_tuple_item st.1 st.2 (x := items[i]) (by simp [hi]) fun h' hit' hs' => ?_
  exact hQ _ h' s.toks (by simp [hi]) ⟨hit', st.2.extBut hs'.extBut hne⟩ hs'
 done := fun s Q E st hE => nextOf_tuple_end hh st.1 st.2 (by simp) hE
theorem meets_enumerate_newT (l : Addr) (items : Array Value) (n : Nat) :
  Meets (Builtin.«enumerate.__new__» ⟨[.type "enumerate", .ref l], []⟩) (fun _ R s => s.heap.get? l = some { cls := .type "tuple", data := .seq items n } /\
   R (.ok (.ret (.ref (s.heap.push { cls := .type "tuple_iterator", data := .fields #[.ref l, .int 0 0] }).objs.size)))
    { s with heap := (s.heap.push { cls := .type "tuple_iterator", data := .fields #[.ref l, .int 0 0] }).push { cls := .type "enumerate", data := .fields #[.none, .bool false, .ref s.heap.objs.size, rawInt 0, .none, .none] } }) :=
 .of_wp fun prog w A R s h => by
  obtain ⟨hp, g, d, tk, os⟩ := s; (refine zL h ?_; (try clear h); intro hl h)
  have hsub := sub_enumerate
  have hL : Heap.IsTuple (Shared.heap ⟨hp, g, d, tk, os⟩) l items := ⟨_, hl, rfl, n, rfl⟩
  wp_walk using wpAny_loadPart' hl
  refine wpAny_stack_any fun st => wpAny_pure ?_
  split
  ·rename_i c _ _ _ _ _
   cases (c == Value.type "enumerate")
   ·wp_walk using wpAny_loadPart' hl, wpAny_pyIter_tuple hL
    exact ⟨_, rfl, h⟩
   wp_walk using wpAny_loadPart' hl, wpAny_pyIter_tuple hL
   exact ⟨_, rfl, h⟩
  wp_walk using wpAny_loadPart' hl, wpAny_pyIter_tuple hL
  exact ⟨_, rfl, h⟩
theorem call_enumerate_tuple {prog : Program} {w : World} {A : Around} {E : Value -> Shared -> Prop} {s : Shared} {l : Addr} {items : Array Value} {n : Nat} {Q : Value -> Shared -> Prop} (hl : s.heap.get? l = some { cls := .type "tuple", data := .seq items n })
  (h : ∀ h', IsEnum h' (s.heap.objs.size + 1) s.heap.objs.size 0 .none -> h'.IsTupleIter s.heap.objs.size l 0 -> h'.objs.size = s.heap.objs.size + 2 ->
   (∀ b o, s.heap.get? b = some o -> h'.get? b = some o) -> Q (.ref (s.heap.objs.size + 1)) { s with heap := h' }) :
  wpAny (model prog w) A (call (.type "enumerate") [.ref l]) Q E s := by
 refine callType_new F.called_enumerate (by decide) (F.typeCall_enumerate_1 _) (F.newCall_enumerate_1 _) (fun obj => F.args_object_init_2 obj _) F.entry_enumerate_new
  (meets_enumerate_newT l items n) ⟨hl, ?_⟩
 have hz : (s.heap.push { cls := .type "tuple_iterator", data := .fields #[.ref l, .int 0 0] }).objs.size = s.heap.objs.size + 1 := Heap.size_push ..
 show _ /\ _
 rw [hz]
 have he : IsEnum ((s.heap.push { cls := .type "tuple_iterator", data := .fields #[.ref l, .int 0 0] }).push
   { cls := .type "enumerate", data := .fields #[.none, .bool false, .ref s.heap.objs.size, rawInt 0, .none, .none] }) (s.heap.objs.size + 1) s.heap.objs.size 0 .none := by
  have := Heap.get?_push_size (s.heap.push { cls := .type "tuple_iterator", data := .fields #[.ref l, .int 0 0] })
   (o := { cls := .type "enumerate", data := .fields #[.none, .bool false, .ref s.heap.objs.size, rawInt 0, .none, .none] }) rfl
  rw [hz] at this; exact this
 refine ⟨⟨_, he, rfl⟩, h _ he ⟨_, Heap.get?_push_of_some _ (Heap.get?_push_size _ rfl), rfl, rfl⟩ (by rw [Heap.size_push, hz]) fun b o x => Heap.get?_push_of_some _ (Heap.get?_push_of_some _ x)⟩
theorem Rel.rehide {H H' : Hid} {s : Shared} (R : Rel g c H S s) {h' : Heap} {tk : Tok} (hk : ∀ b o, H.objs b = none -> s.heap.get? b = some o -> h'.get? b = some o) (hh : ∀ b o, H'.objs b = some o -> h'.get? b = some o)
  (hn : ∀ b o, H'.objs b = some o -> H.objs b = none -> s.heap.get? b = none) (hg : ∀ p ∈ H'.gens, p ∈ H.gens) (hc : ∀ b o u, H.objs b = some o -> o.data = .cell u -> H'.objs b = some o) : Rel g c H' S { s with heap := h', toks := tk } := by
 refine zK R.role ?_; intro ρ r0 r1 r2 r3 r4
 have off : ∀ b, ρ b ≠ 3 -> H.objs b = none := fun b hb => by
  cases q : H.objs b with
  | none => rfl
  | some o => exact absurd (r3 b o q) hb
 have k : ∀ b o, ρ b ≠ 3 -> s.heap.get? b = some o -> h'.get? b = some o := fun b o hb e => hk b o (off b hb) e
 have live : ∀ b o, s.heap.get? b = some o -> ρ b ≠ 3 -> H'.objs b = none := fun b o e hb => by
  cases q : H'.objs b with
  | none => rfl
  | some o' => have := hn b o' q (off b hb); rw [e] at this; exact Mine.sn this
 have oldρ : ∀ b o, s.heap.get? b = some o -> ρ b ≠ 3 -> (if (H'.objs b).isSome = true then 3 else ρ b) = ρ b := fun b o e hb => by rw [live b o e hb]; rfl
 refine zB R.loc ?_; intro m hm hv
 refine zN hm ?_; (try clear hm); intro oL es ep hL hLd hLk hLf
 refine { ok := R.ok, ac := R.ac, above := R.above, os := R.os, bare := R.bare, inj := R.inj, gen := fun p hp => R.gen p (hg p hp), keep := fun b o e => k b o (by rw [r0 b o e]; decide) (R.keep b o e), hid := hh, loc := ⟨m, ⟨oL, es, ep, k _ _ (by rw [r1]; decide) hL, hLd, hLk, hLf⟩, hv⟩, cel := ?_, fre := ?_, sto := ?_, role := ⟨fun b => if (H'.objs b).isSome = true then 3 else ρ b, ?_, ?_, ?_, ?_, ?_⟩ }
 ·intro y a h1 h2
  refine zB (R.cel y a h1 h2) ?_; intro u nn_116 hu; obtain ⟨oc, hc, hcd⟩ := nn_116
  exact ⟨u, ⟨oc, k _ _ (by rw [r2 y a h1 h2]; decide) hc, hcd⟩, hu⟩
 ·intro y a h1 h2 v e
  refine zD (R.fre y a h1 h2 v e) ?_; intro ob u e1 e2 e3
  exact ⟨ob, u, hc a ob _ e1 e2, e2, e3⟩
 ·intro b o e
  refine zB (R.sto b o e) ?_; intro ob h1 h2
  exact ⟨ob, k _ _ (by rw [r4 b o e]; decide) h1, h2⟩
 ·intro b o e
  have e0 := r0 b o e
  exact (oldρ b o (R.keep b o e) (by rw [e0]; decide)).trans e0
 ·exact (oldρ _ _ hL (by rw [r1]; decide)).trans r1
 ·intro y a h1 h2
  refine zB (R.cel y a h1 h2) ?_; intro u nn_115 hu; obtain ⟨oc, hc, hcd⟩ := nn_115
  have e0 := r2 y a h1 h2
  exact (oldρ _ _ hc (by rw [e0]; decide)).trans e0
 ·intro b o e
  dsimp only
  rw [e]; rfl
 intro b o e
 refine zB (R.sto b o e) ?_; intro ob h1 h2
 have e0 := r4 b o e
 exact (oldρ _ _ h1 (by rw [e0]; decide)).trans e0
end
theorem WAsg_tup2 {x y : Str} {px py pt : Pos} {k : Nat} {t : Addr} {va vb : Value} {Q : St Str -> Prop} (ht : At g S t (.tup [va, vb])) (h : WStore g c x va S fun S1 => WStore g c y vb S1 Q) :
  WAsg g c (.Tuple [.Name x px, .Name y py] k pt) (.ref t) S Q := by
 intro u hu H s R
 o_shape
 obtain rfl := zH hu
 refine zE (R.tupAt ht) ?_; intro arr n h1 h2 h3 h4
 refine zD (map2 h3) ?_; intro ub ua e1 e2 e3
 have ea : arr = #[ub, ua] := by rw [← Array.toList_inj]; exact e1
 subst ea
 refine wpAny_assign_Tuple R.ac.hd h2 rfl rfl fun h' hk => ?_
 have R' : Rel g c H S { s with heap := h' } := R.grow (tk := s.toks) fun b o e => hk b o (Nat.ne_of_lt (Heap.lt_size e)) e
 show wpAny _ _ (assignInOrder [fun v => assign (.Name x px) c.env v, fun v => assign (.Name y py) c.env v] [ub, ua]) _ _ _
 exact assignInOrder_cons (goK (ze h ub e2 H _ R') (fun _ s1 S1 R1 q => assignInOrder_cons (wpAny_mono (ze q ua e3 H _ R1) (fun _ s2 qc => assignInOrder_nil qc) fun _ _ x => x)))
noncomputable def itTupAt (g : Gl Str) (a : Addr) (xs : List Value) : ItSpec g xs (fun S => At g S a (.tup xs)) where
 St_ i ob := ob.cls = .type "tuple_iterator" /\ ob.data = .fields #[.ref a, .int i 0]
 noCell i ob u h e := by rw [h.2] at e; exact (nomatch e)
 next c H S s it i ob x hH hS R ok hx := by
  refine zE (R.tupAt ok) ?_; intro arr n h1 h2 h3 h4
  refine zB (nthMap (arr := arr) (by rw [h3]; exact hx)) ?_; intro u e1 e2
  refine wpAny_pyNext_tuple_item ⟨ob, R.hid _ _ hH, hS.1, hS.2⟩ h2 e1 fun h' hit hs => ?_
  refine zJ hit ?_; (try clear hit); intro ob' g1 g2 g3
  exact ⟨u, ob', rfl, e2, ⟨g2, g3⟩, R.turn (tk := s.toks) hH hs.extBut g1 fun u e => by rw [hS.2] at e; exact (nomatch e)⟩
 done c H S s it i ob hH hS R ok hx := by
  refine zE (R.tupAt ok) ?_; intro arr n h1 h2 h3 h4
  exact wpAny_pyNext_tuple_end R.ac.hd ⟨ob, R.hid _ _ hH, hS.1, hS.2⟩ h2 (nthNone (by rw [h3]; exact hx)) fun h' hs => ⟨rfl, R.lose (tk := s.toks) hH (fun u e => by rw [hS.2] at e; exact (nomatch e)) hs⟩
 lets c H S s it i ob t v hH hS R := zy (R.hid _ _ hH) (by unfold plainIter; rw [hS.1]; rfl) ⟨ob, hS, by rw [H.put_same hH]; exact R⟩
 again c H S s it i ob P E hH hS R h := wpAny_pyIter_tupleiter ⟨ob, R.hid _ _ hH, hS.1, hS.2⟩ h
theorem iter_tupAt (ha : At g S a (.tup xs)) : Iterable g c (.ref a) xs (fun S => At g S a (.tup xs)) S := by
 intro H s u hu R
 obtain rfl := zH hu
 refine zE (R.tupAt ha) ?_; intro arr n h1 h2 h3 h4
 exact wpAny_pyIter_tuple h2 ⟨_, _, itTupAt g a xs, rfl, R.free_hid (zG _), ⟨rfl, rfl⟩, R.hide (tk := s.toks) (Heap.ExtBut.push (Heap.ExtBut.refl _ _) _) (zG _) (Heap.get?_push_size _ rfl)⟩
structure Turns (g : Gl Str) (c : Ac) (H : Hid) (target : Expr) (it : Value) (n : Nat) (step : Nat -> St Str -> St Str) (Ok : St Str -> Prop) where
 P : Nat -> Hid -> Prop
 back : ∀ i H' S s, P i H' -> Rel g c H' S s -> Rel g c H S s
 turn : ∀ i H' S s, i < n -> P i H' -> Rel g c H' S s -> Ok S -> wpAny (model g.prog g.w) c.A (pyNext it) (fun r s1 => ∃ v, r = some v /\ wpAny (model g.prog g.w) c.A (letOwnedTupleGo target it v) (fun _ s2 =>
  wpAny (model g.prog g.w) c.A (assign target c.env v) (fun _ s3 => ∃ H'', P (i + 1) H'' /\ Rel g c H'' (step i S) s3) (fun _ _ => False) s2) (fun _ _ => False) s1) (fun _ _ => False) s
 done : ∀ H' S s, P n H' -> Rel g c H' S s -> Ok S -> wpAny (model g.prog g.w) c.A (pyNext it) (fun r s1 => r = none /\ Rel g c H S s1) (fun _ _ => False) s
theorem WX_ForG {target iter : Expr} {body orelse : List Stmt} {pos : Pos} {Q : Flow -> St Str -> Prop} (hs : ∀ env x, foldedSetIterable iter env x = pure x)
  (h : ∀ H s, Rel g c H S s -> wpAny (model g.prog g.w) c.A (eval iter c.env) (fun v s1 => wpAny (model g.prog g.w) c.A (pyIter v) (fun it s2 => ∃ S1 n step Ok, ∃ T : Turns g c H target it n step Ok, ∃ (H' : Hid) (Inv : Nat -> St Str -> Prop), T.P 0 H' /\ Rel g c H' S1 s2 /\ Inv 0 S1 /\
   (∀ i S2, Inv i S2 -> Ok S2) /\
   (∀ i S2, i < n -> Inv i S2 -> WXs g c body (step i S2) (ForQ Inv i Q)) /\
   ∀ S2, Inv n S2 -> WXs g c orelse S2 Q) (fun _ _ => False) s1) (fun _ _ => False) s) : WX g c (.For target iter body orelse pos) S Q := by
 intro H s R
 o_shape
 refine wpAny_For (wpAny_mono (h H s R) (fun u s1 hJ => wpAny_mono hJ (fun it s2 q_ => ?_) fun _ _ x => x.elim) fun _ _ x => x.elim) (fun x => hs _ x)
 obtain ⟨S1, n, step, Ok, T, H1, Inv, hP, R1, h0, hok, turn, fin⟩ := q_
 let II : Nat -> Shared -> Prop := fun k s' => ∃ i H' S', k + i = n /\ T.P i H' /\ Rel g c H' S' s' /\ Inv i S'
 refine codeAny_forLoop_any II (fun k s' q_ => ?_) n ⟨0, H1, S1, by exact Nat.sub_zero _, hP, R1, h0⟩
 refine zN q_ ?_; clear q_; intro i H' S' hk hP' R' hI
 by_cases hi : i < n
 ·refine wpAny_mono (T.turn i H' S' s' hi hP' R' (hok i S' hI)) (fun r s3 q_ => ?_) fun _ _ x => x.elim
  refine zB q_ ?_; clear q_; intro v e hW
  subst e
  refine wpAny_mono hW (fun _ s4 h₄ => wpAny_mono h₄ (fun _ sa q_ => ?_) fun _ _ x => x.elim) fun _ _ x => x.elim
  refine zB q_ ?_; clear q_; intro H'' hP'' R5
  refine goK (turn i S' hi hI _ sa R5) (fun f s6 S6 R6 qd => ?_)
  cases f with
  | next => exact ⟨k - 1, by exact om06 ‹_› ‹_›, i + 1, H'', S6, by exact om03 ‹_› ‹_›, hP'', R6, qd⟩
  | cont => exact ⟨k - 1, by exact om06 ‹_› ‹_›, i + 1, H'', S6, by exact om03 ‹_› ‹_›, hP'', R6, qd⟩
  | brk => exact ⟨S6, T.back _ _ _ _ hP'' R6, qd⟩
  | ret v => exact ⟨S6, T.back _ _ _ _ hP'' R6, qd⟩
 have hi' : i = n := by lia
 subst hi'
 refine wpAny_mono (T.done H' S' s' hP' R' (hok _ S' hI)) (fun r s3 q_ => ?_) fun _ _ x => x.elim
 refine zL q_ ?_; clear q_; intro e R3
 subst e
 exact wpAny_mono (fin S' hI H s3 R3) (fun f s4 q => q) fun _ _ x => x.elim
noncomputable def enumOb (it : Addr) (i : Int) (old : Value) : Obj := { cls := .type "enumerate", dict := none, data := .fields #[.none, .bool false, .ref it, rawInt i, .none, old], slots := #[] }
noncomputable def enumStep (x y : Str) (xs : List Value) (i : Nat) (S : St Str) : St Str := ⟨setv (setv S.m x (.int i 0)) y (xs.getD i .none), S.σ⟩
noncomputable def turnsEnum (g : Gl Str) (c : Ac) (H : Hid) (x y : Str) (px py pt : Pos) (k : Nat) (e it t : Addr) (xs : List Value) (he : H.objs e = none) (hi : H.objs it = none) (hne : e ≠ it)
  (hx : isOwn c.env.scope x = true) (hy : isOwn c.env.scope y = true) (ex : c.ext x = false) (ey : c.ext y = false) : Turns g c H (.Tuple [.Name x px, .Name y py] k pt) (.ref e) xs.length (enumStep x y xs) (fun S => At g S t (.tup xs)) where
 P i H' := ∃ old obI, H'.objs e = some (enumOb it i old) /\ H'.objs it = some obI /\ obI.cls = .type "tuple_iterator" /\ obI.data = .fields #[.ref t, .int i 0] /\ (∀ b, b ≠ e -> b ≠ it -> H'.objs b = H.objs b) /\ H'.gens = H.gens
 back i H' S s hP R := by
  refine zk hP ?_; (try clear hP); intro old obI h1 h2 h3 h4 h5 h6
  refine R.drop (fun a o q => ?_) (fun p hp => by rw [h6]; exact hp) (fun a ob u q hu => ?_)
  ·rw [h5 a (by rintro rfl; rw [he] at q; exact Mine.ns q) (by rintro rfl; rw [hi] at q; exact Mine.ns q)]; exact q
  by_cases q1 : a = e
  ·rw [q1, h1] at q; (replace q := Option.some.inj q; subst q); exact (nomatch hu)
  by_cases q2 : a = it
  ·rw [q2, h2] at q; (replace q := Option.some.inj q; subst q); rw [h4] at hu; exact (nomatch hu)
  rw [← h5 a q1 q2]; exact q
 turn i H' S s hlt hP R ok := by
  refine zk hP ?_; (try clear hP); intro old obI h1 h2 h3 h4 h5 h6
  refine zE (R.tupAt ok) ?_; intro arr n k1 k2 k3 k4
  have hte : t ≠ it := by
   rintro rfl
   have := R.hid _ _ h2
   rw [k1] at this
   have := congrArg (fun o => o.map Obj.cls) this
   simp [h3] at this
  have htE : t ≠ e := by
   rintro rfl
   have := R.hid _ _ h1
   rw [k1] at this
   have := congrArg (fun o => o.map Obj.cls) this
   simp [enumOb] at this
  refine wpAny_pyNext_enum_itemD (draws_tuple (A := c.A.in1) R.ac.hd it t hte arr) (R.hid _ _ h1) ⟨⟨obI, R.hid _ _ h2, h3, h4⟩, k2⟩ (by rw [k4]; exact hlt) hne (by simp [hne, Ne.symm htE]) fun v h' tk hv hE hSt hT hz hk => ?_
  refine ⟨_, rfl, wpAny_letOwnedTupleGo_enum hE fun h'' hE' hs => ?_⟩
  refine zL hSt ?_; (try clear hSt); intro nn_117 _; obtain ⟨obI', g1, g2, g3⟩ := nn_117
  have hse : s.heap.objs.size ≠ e := Nat.ne_of_gt (Heap.lt_size (R.hid _ _ h1))
  have R' : Rel g c ((H'.put e (enumOb it (i + 1 : Nat) v)).put it obI') S { s with heap := h'', toks := tk + 1 } := by
   refine R.rehide (fun b o hb q => ?_) (fun b o q => ?_) (fun b o q hb => ?_) (fun p hp => hp) (fun b o u q hu => ?_)
   ·have q1 : b ≠ e := by rintro rfl; rw [h1] at hb; exact Mine.sn hb
    have q2 : b ≠ it := by rintro rfl; rw [h2] at hb; exact Mine.sn hb
    exact hs.extBut b o q1 (hk b o q1 q2 q)
   ·have q : (if b = it then some obI' else if b = e then some (enumOb it (i + 1 : Nat) v) else H'.objs b) = some o := q
    by_cases q1 : b = it
    ·rw [if_pos q1] at q; (replace q := Option.some.inj q; subst q); rw [q1]; exact hs.extBut it _ (Ne.symm hne) g1
    rw [if_neg q1] at q
    by_cases q2 : b = e
    ·rw [if_pos q2] at q; (replace q := Option.some.inj q; subst q); rw [q2]; exact hE'
    rw [if_neg q2] at q
    exact hs.extBut b o q2 (hk b o q2 q1 (R.hid b o q))
   ·have q : (if b = it then some obI' else if b = e then some (enumOb it (i + 1 : Nat) v) else H'.objs b) = some o := q
    by_cases q1 : b = it
    ·rw [q1, h2] at hb; exact Mine.sn hb
    rw [if_neg q1] at q
    by_cases q2 : b = e
    ·rw [q2, h1] at hb; exact Mine.sn hb
    rw [if_neg q2, hb] at q; exact Mine.ns q
   show (if b = it then some obI' else if b = e then some (enumOb it (i + 1 : Nat) v) else H'.objs b) = some o
   by_cases q1 : b = it
   ·rw [q1, h2] at q; (replace q := Option.some.inj q; subst q); rw [h4] at hu; exact (nomatch hu)
   rw [if_neg q1]
   by_cases q2 : b = e
   ·rw [q2, h1] at q; (replace q := Option.some.inj q; subst q); exact (nomatch hu)
   rw [if_neg q2]; exact q
  have ht'' : h''.IsTuple s.heap.objs.size #[.int i tk, v] := ⟨_, hs.extBut _ _ hse hT, rfl, _, rfl⟩
  refine wpAny_assign_Tuple R.ac.hd ht'' rfl rfl fun hW hka => ?_
  have R'' : Rel g c ((H'.put e (enumOb it (i + 1 : Nat) v)).put it obI') S { s with heap := hW, toks := tk + 1 } := R'.grow (tk := tk + 1) fun b o q => hka b o (Nat.ne_of_lt (Heap.lt_size q)) q
  have hvx : er v = xs.getD i .none := by
   have : xs[i]? = some (er v) := by
    rw [← k3, List.getElem?_map]
    have : arr.toList[i]? = some v := by simpa using hv
    rw [this]; rfl
   rw [List.getD_eq_getElem?_getD, this]; rfl
  show wpAny _ _ (assignInOrder [fun v => assign (.Name x px) c.env v, fun v => assign (.Name y py) c.env v] [.int i tk, v]) _ _ _
  refine assignInOrder_cons (goK (ze (Q := fun S1 => S1 = ⟨setv S.m x (.int i 0), S.σ⟩) (W_Store hx ex rfl) (.int i tk) rfl _ _ R'') (fun _ s1 S1 R1 q => ?_))
  subst q
  refine assignInOrder_cons (goK (ze (Q := fun S1 => S1 = enumStep x y xs i S) (W_Store hy ey rfl) v hvx _ _ R1) (fun _ s2 S2 R2 q => ?_))
  subst q
  refine assignInOrder_nil ⟨(H'.put e (enumOb it (i + 1 : Nat) v)).put it obI', ⟨v, obI', ?_, Hid.put_self _ _ _, g2, g3, fun b q1 q2 => ?_, h6⟩, R2⟩
  ·show (if e = it then some obI' else (H'.put e _).objs e) = _
   rw [if_neg hne, Hid.put_self]
  show (if b = it then some obI' else if b = e then some (enumOb it (i + 1 : Nat) v) else H'.objs b) = _
  rw [if_neg q2, if_neg q1]; exact h5 b q1 q2
 done H' S s hP R ok := by
  refine zk hP ?_; (try clear hP); intro old obI h1 h2 h3 h4 h5 h6
  refine zE (R.tupAt ok) ?_; intro arr n k1 k2 k3 k4
  have hte : t ≠ it := by
   rintro rfl
   have := R.hid _ _ h2
   rw [k1] at this
   have := congrArg (fun o => o.map Obj.cls) this
   simp [h3] at this
  refine wpAny_pyNext_enum_endD (draws_tuple (A := c.A.in1) R.ac.hd it t hte arr) (R.hid _ _ h1) (by rw [k4]; exact ⟨⟨obI, R.hid _ _ h2, h3, h4⟩, k2⟩) fun h' hk => ⟨rfl, ?_⟩
  have := R.rehide (H' := H) (tk := s.toks) (h' := h') (fun b o hb q => ?_) (fun b o q => ?_) (fun b o q hb => ?_) (fun p hp => by rw [h6]; exact hp) (fun b o u q hu => ?_)
  ·exact this
  ·exact hk b o (by rintro rfl; rw [h2] at hb; exact Mine.sn hb) q
  ·have q1 : b ≠ e := by rintro rfl; rw [he] at q; exact Mine.ns q
   have q2 : b ≠ it := by rintro rfl; rw [hi] at q; exact Mine.ns q
   exact hk b o q2 (R.hid b o (by rw [h5 b q1 q2]; exact q))
  ·have q1 : b ≠ e := by rintro rfl; rw [he] at q; exact Mine.ns q
   have q2 : b ≠ it := by rintro rfl; rw [hi] at q; exact Mine.ns q
   rw [h5 b q1 q2, q] at hb; exact Mine.sn hb
  have q1 : b ≠ e := by rintro rfl; rw [h1] at q; (replace q := Option.some.inj q; subst q); exact (nomatch hu)
  have q2 : b ≠ it := by rintro rfl; rw [h2] at q; (replace q := Option.some.inj q; subst q); rw [h4] at hu; exact (nomatch hu)
  rw [← h5 b q1 q2]; exact q
theorem Rel.conceal {H : Hid} {s : Shared} (R : Rel g c H S s) {o : AO Str} (ha : S.σ a = some o) {S₀ : St Str} (l : Le S₀ S) (h0 : S₀.σ a = none) : ∃ ob, Is g ob o /\ H.objs a = none /\ Rel g c (H.put a ob) S₀ s := by
 refine zB (R.sto a o ha) ?_; intro ob h1 h2
 refine zK R.role ?_; intro ρ r0 r1 r2 r3 r4
 have ra := r4 a o ha
 have hn : H.objs a = none := by
  cases q : H.objs a with
  | none => rfl
  | some o' => have := r3 a o' q; rw [ra] at this; cases this
 refine ⟨ob, h2, hn, { ok := R.ok, ac := R.ac, above := R.above, os := R.os, bare := R.bare, gen := R.gen, inj := R.inj, keep := R.keep, hid := ?_, loc := (let ⟨m, hm, hv⟩ := R.loc; ⟨m, hm, fun x v e => hv x v (l.m x v e)⟩), cel := ?_, fre := ?_, sto := fun b o' e => R.sto b o' (l.s b o' e), role := ⟨fun b => if b = a then 3 else ρ b, fun b o' e => ?_, ?_, fun y b p1 p2 => ?_, fun b o' e => ?_, fun b o' e => ?_⟩ }⟩
 ·intro b o' e
  have e : (if b = a then some ob else H.objs b) = some o' := e
  by_cases q : b = a
  ·rw [if_pos q] at e; (replace e := Option.some.inj e; subst e); rw [q]; exact h1
  rw [if_neg q] at e; exact R.hid b o' e
 ·intro y b p1 p2
  refine zB (R.cel y b p1 p2) ?_; intro u q hu
  exact ⟨u, q, fun v e => hu v (l.m y v e)⟩
 ·intro y b p1 p2 v e
  refine zD (R.fre y b p1 p2 v (l.m y v e)) ?_; intro ob' u e1 e2 e3
  refine ⟨ob', u, ?_, e2, e3⟩
  show (if b = a then some ob else H.objs b) = _
  rw [if_neg (by rintro rfl; rw [hn] at e1; exact Mine.ns e1)]; exact e1
 ·dsimp only
  rw [if_neg (Rel.ne (r0 b o' e) ra)]; exact r0 b o' e
 ·dsimp only
  rw [if_neg (Rel.ne r1 ra)]; exact r1
 ·dsimp only
  rw [if_neg (Rel.ne (r2 y b p1 p2) ra)]; exact r2 y b p1 p2
 ·dsimp only
  have e : (if b = a then some ob else H.objs b) = some o' := e
  by_cases q : b = a
  ·rw [if_pos q]
  rw [if_neg q] at e ⊢; exact r3 b o' e
 dsimp only
 rw [if_neg (by rintro rfl; rw [h0] at e; exact Mine.ns e)]; exact r4 b o' (l.s b o' e)
noncomputable def enumO (it : Addr) : AO Str := .raw fun ob => ob = enumOb it 0 .none
noncomputable def titO (t : Addr) : AO Str := .raw fun ob => ob.cls = .type "tuple_iterator" /\ ob.data = .fields #[.ref t, .int 0 0]
theorem WC_enumT {t : Addr} (ht : At g S t (.tup xs)) (h : ∀ e it, S.σ e = none -> S.σ it = none -> e ≠ it -> Q (.ref e) ⟨S.m, upd (upd S.σ it (titO t)) e (enumO it)⟩) : WC g c (.type "enumerate") [.ref t] S Q := by
 intro us hu H s R
 o_shape
 refine zB (z3 hu) ?_; intro u rfl_118 hu1; subst rfl_118
 obtain rfl := zH hu1
 refine zE (R.tupAt ht) ?_; intro arr n h1 h2 h3 h4
 refine call_enumerate_tuple h1 fun h' hE hI hz hk => ?_
 refine zJ hI ?_; (try clear hI); intro obI g1 g2 g3
 have n1 : s.heap.get? (s.heap.objs.size + 1) = none := by
  cases q : s.heap.get? (s.heap.objs.size + 1) with
  | none => rfl
  | some o => exact absurd (Heap.lt_size q) (Nat.not_lt.mpr (Nat.le_succ _))
 -- both are new at once: hide both, then reveal them
 have R1 : Rel g c ((H.put s.heap.objs.size obI).put (s.heap.objs.size + 1) (enumOb s.heap.objs.size 0 .none)) S { s with heap := h', toks := s.toks } := by
  refine R.rehide (fun b o hb q => hk b o q) (fun b o q => ?_) (fun b o q hb => ?_) (fun p hp => hp) (fun b o u q hu => ?_)
  ·have q : (if b = s.heap.objs.size + 1 then some (enumOb s.heap.objs.size 0 .none) else if b = s.heap.objs.size then some obI else H.objs b) = some o := q
   by_cases q1 : b = s.heap.objs.size + 1
   ·rw [if_pos q1] at q; (replace q := Option.some.inj q; subst q); rw [q1]; exact hE
   rw [if_neg q1] at q
   by_cases q2 : b = s.heap.objs.size
   ·rw [if_pos q2] at q; (replace q := Option.some.inj q; subst q); rw [q2]; exact g1
   rw [if_neg q2] at q; exact hk b o (R.hid b o q)
  ·have q : (if b = s.heap.objs.size + 1 then some (enumOb s.heap.objs.size 0 .none) else if b = s.heap.objs.size then some obI else H.objs b) = some o := q
   by_cases q1 : b = s.heap.objs.size + 1
   ·rw [q1]; exact n1
   rw [if_neg q1] at q
   by_cases q2 : b = s.heap.objs.size
   ·rw [q2]; exact zG _
   rw [if_neg q2, hb] at q; exact Mine.ns q
  show (if b = s.heap.objs.size + 1 then some (enumOb s.heap.objs.size 0 .none) else if b = s.heap.objs.size then some obI else H.objs b) = some o
  have := Heap.lt_size (R.hid b o q)
  rw [if_neg (Nat.ne_of_lt (Nat.lt_succ_of_lt this)), if_neg (Nat.ne_of_lt this)]; exact q
 refine zL (R1.reveal (o := enumO s.heap.objs.size) (Hid.put_self _ _ _) (fun u q => by cases q) rfl) ?_; intro d1 R2
 have f2 : ((H.put s.heap.objs.size obI).put (s.heap.objs.size + 1) (enumOb s.heap.objs.size 0 .none)).cut (s.heap.objs.size + 1) = H.put s.heap.objs.size obI := by
  refine Hid.put_cut _ _ _ ?_
  show (if s.heap.objs.size + 1 = s.heap.objs.size then some obI else H.objs (s.heap.objs.size + 1)) = none
  rw [if_neg (Nat.succ_ne_self _)]; exact R.free_hid n1
 rw [f2] at R2
 refine zL (R2.reveal (o := titO t) (Hid.put_self _ _ _) (fun u q => by rw [g3] at q; cases q) ⟨g2, g3⟩) ?_; intro d2 R3
 rw [Hid.put_cut _ _ _ (R.free_hid (zG _))] at R3
 have d2 : S.σ s.heap.objs.size = none := by
  have : upd S.σ (s.heap.objs.size + 1) (enumO s.heap.objs.size) s.heap.objs.size = none := d2
  unfold upd at this
  rwa [if_neg (Ne.symm (Nat.succ_ne_self _))] at this
 refine ⟨⟨S.m, upd (upd S.σ s.heap.objs.size (titO t)) (s.heap.objs.size + 1) (enumO s.heap.objs.size)⟩, R3.le (fun _ _ q => q) (fun b o q => ?_), h (s.heap.objs.size + 1) s.heap.objs.size d1 d2 (Nat.succ_ne_self _)⟩
 show upd (upd S.σ (s.heap.objs.size + 1) _) s.heap.objs.size _ b = some o
 have q : upd (upd S.σ s.heap.objs.size _) (s.heap.objs.size + 1) _ b = some o := q
 unfold upd at q ⊢
 by_cases q1 : b = s.heap.objs.size
 ·rw [if_pos q1]; rw [q1, if_neg (Ne.symm (Nat.succ_ne_self _)), if_pos rfl] at q; exact q
 rw [if_neg q1] at q ⊢; exact q
inductive ForEnumPost (g : Gl Str) (c : Ac) (x : Str) (y : Str) (body : List Stmt) (orelse : List Stmt) (Q : Flow -> St Str -> Prop) (v : Value) (S1 : St Str) : Prop
 | mk (e : Addr) (it : Addr) (t : Addr) (xs : List Value) (S₀ : St Str) (h_1 : v = .ref e) (h_2 : e ≠ it) (h_3 : S1.σ e = some (enumO it)) (h_4 : S1.σ it = some (titO t)) (h_5 : Le S₀ S1) (h_6 : S₀.σ e = none) (h_7 : S₀.σ it = none) (Inv : Nat -> St Str -> Prop) (h_8 : Inv 0 S₀) (h_9 : (∀ i S2, Inv i S2 -> At g S2 t (.tup xs))) (h_10 : (∀ i S2, i < xs.length -> Inv i S2 -> WXs g c body (enumStep x y xs i S2) (ForQ Inv i Q))) (h_11 : ∀ S2, Inv xs.length S2 -> WXs g c orelse S2 Q) : ForEnumPost g c x y body orelse Q v S1
theorem WX_ForEnum {x y : Str} {px py pt : Pos} {k : Nat} {iter : Expr} {body orelse : List Stmt} {pos : Pos} {Q : Flow -> St Str -> Prop} {sc : Scope} (hsc : c.env.scope = sc) (hext : c.ext = fun _ => false) (hx : isOwn sc x = true) (hy : isOwn sc y = true) (hs : ∀ env x, foldedSetIterable iter env x = pure x)
  (h : WE g c iter S (ForEnumPost g c x y body orelse Q)) : WX g c (.For (.Tuple [.Name x px, .Name y py] k pt) iter body orelse pos) S Q := by
 refine WX_ForG hs fun H s R => ?_
 refine goK (h H s R) (fun v s1 S1 R1 q_ => ?_)
 obtain ⟨e, it, t, xs, S₀, ev, hne, he, hi, hl, n1, n2, Inv, h0, hok, turn, fin⟩ := q_
 obtain rfl := zH ev
 obtain ⟨obE, i1, f1, R2⟩ := R1.conceal he (S₀ := ⟨S1.m, fun b => if b = e then none else S1.σ b⟩) ⟨fun _ _ q => q, fun b o q => by
  have q : (if b = e then none else S1.σ b) = some o := q
  by_cases q1 : b = e
  ·rw [if_pos q1] at q; exact Mine.ns q
  ·rwa [if_neg q1] at q⟩ (if_pos rfl)
 have hi' : (⟨S1.m, fun b => if b = e then none else S1.σ b⟩ : St Str).σ it = some (titO t) := (if_neg (Ne.symm hne)).trans hi
 obtain ⟨obI, i2, f2, R3⟩ := R2.conceal hi' (S₀ := S₀) ⟨hl.m, fun b o q => by
  show (if b = e then none else S1.σ b) = some o
  rw [if_neg (by rintro rfl; rw [n1] at q; exact Mine.ns q)]; exact hl.s b o q⟩ n2
 have hE : obE = enumOb it 0 .none := i1
 subst hE
 have f2' : H.objs it = none := by
  have : (if it = e then some _ else H.objs it) = none := f2
  rwa [if_neg (Ne.symm hne)] at this
 refine wpAny_pyIter_enum (R3.hid e _ (by
  show (if e = it then some obI else (H.put e _).objs e) = _
  rw [if_neg hne]; exact Hid.put_self _ _ _)) ⟨S₀, xs.length, enumStep x y xs, _, turnsEnum g c H x y px py pt k e it t xs f1 f2' hne (by rw [hsc]; exact hx) (by rw [hsc]; exact hy) (by rw [hext]) (by rw [hext]), (H.put e (enumOb it 0 .none)).put it obI, Inv, ⟨.none, obI, ?_, Hid.put_self _ _ _, i2.1, i2.2, fun b q1 q2 => ?_, rfl⟩, R3, h0, hok, turn, fin⟩
 ·show (if e = it then some obI else (H.put e _).objs e) = _
  rw [if_neg hne]; exact Hid.put_self _ _ _
 show (if b = it then some obI else if b = e then some _ else H.objs b) = _
 rw [if_neg q2, if_neg q1]
theorem WX_Expr {e : Expr} {pos : Pos} {Q : Flow -> St Str -> Prop} (hs : ∀ env, swapsWith e none pos.line env = pure false) (h : WE g c e S fun _ S1 => Q .next S1) : WX g c (.Expr e pos) S Q := by
 intro H s R
 o_shape
 have hi : interactive c.env = false := by
  unfold interactive
  rw [R.ac.kind]
  rfl
 rw [exec_Expr c.env e pos hi (hs _)]
 exact wpAny_bind (wpAny_standAt (wpAny_bind (goK (h H s R) (fun v s' S1 R1 q => wpAny_dropValue ⟨S1, R1, q⟩))))
theorem Gl.Ok.at {g : Gl Str} (hG : g.Ok) {K : Frag} (hK : g.K = K) {S : St Str} {a : Addr} {arr : Array Value} {n : Nat} (h : K.lookup a = some { cls := .type "tuple", data := .seq arr n }) : At g S a (.tup (arr.toList.map er)) :=
 .inr ⟨_, hG.k _ _ (by rw [hK]; exact h), arr, n, rfl, rfl⟩
theorem WGM_str {x name : Str} {id : String} (slot : Slot "str" name id) (hty : typeOf (.builtin id) = pure (.type "method_descriptor")) {Q : Value -> List Value -> St Str -> Prop} (h : Q (.builtin id) [.str x 0] S) : WGM g c (.str x 0) name S Q := by
 intro u pl hu H s R
 o_shape
 refine zI (zZ hu) ?_; intro t rfl_119; subst rfl_119
 exact GM.of (.str x t) (typeIs_str _ _ _) slot hty GM.noRef ⟨S, R, h⟩
theorem WE_join {o e : Expr} {apos pos : Pos} {pl : Env -> Sem Bool}
  (he : ∀ env, eval (.Call (.Attribute o (ofString "join") apos) [e] [] pos) env = (do
   let ov ← eval o env
   standAt apos.atName
   let (f, first) ← holding [ov] (getMethod ov (ofString "join") (pl env))
   callWith pos f first (backTo pos (starEach [e] env)) []))
  (hn : notStar e = true)
  (h : WE g c o S fun v S1 => ∃ x, v = .str x 0 /\ WE g c e S1 fun l S2 => ∃ a xs ss, l = .ref a /\ S2.σ a = some (.list xs) /\ AreStr xs ss /\ (ss.map (·.length)).sum + ss.length * x.length ≤ 16777216 /\ Q (.str (Txt.join x ss) 0) S2) : WE g c (.Call (.Attribute o (ofString "join") apos) [e] [] pos) S Q := by
 refine WE_Meth (pl := pl) he (WE.mono h fun v S1 q_ => ?_)
 refine zB q_ ?_; clear q_; intro x ec q
 subst ec
 refine WGM_str F.slot_str_join F.type_str_join (W_CW rfl (by simp [hn]) (WEs_cons hn (WE.mono q fun l S2 ⟨a, xs, ss, ed, hx, hs, hz, qc⟩ => WEs_nil ?_)))
 subst ed
 exact WC_join hx hs hz qc
theorem W_append {o e : Expr} {apos pos p : Pos} {pl : Env -> Sem Bool} {Q : Flow -> St Str -> Prop} (hsw : ∀ env, swapsWith (.Call (.Attribute o (ofString "append") apos) [e] [] pos) none p.line env = pure false)
  (he : ∀ env, eval (.Call (.Attribute o (ofString "append") apos) [e] [] pos) env = (do
   let ov ← eval o env
   standAt apos.atName
   let (f, first) ← holding [ov] (getMethod ov (ofString "append") (pl env))
   callWith pos f first (backTo pos (starEach [e] env)) []))
  (hn : notStar e = true)
  (h : WE g c o S fun v S1 => ∃ a ys, v = .ref a /\ S1.σ a = some (.list ys) /\ WE g c e S1 fun x S2 => ∃ xs, S2.σ a = some (.list xs) /\ xs.length ≤ sizeLine /\ Q .next ⟨S2.m, upd S2.σ a (.list (xs ++ [x]))⟩) : WX g c (.Expr (.Call (.Attribute o (ofString "append") apos) [e] [] pos) p) S Q := by
 refine WX_Expr hsw (WE_Meth (pl := pl) he (WE.mono h fun v S1 q_ => ?_))
 refine zD q_ ?_; clear q_; intro a ys ec hl q
 subst ec
 refine WGM_list F.slot_list_append F.type_list_append hl (W_CW rfl (by simp [hn]) (WEs_cons hn (WE.mono q fun x S2 ⟨xs, hx, hz, qc⟩ => WEs_nil ?_)))
 exact WC_append hx hz qc
theorem W_StoreX {sc : Scope} {E : Str -> Bool} {x : Str} {v : Value} {Q : St Str -> Prop} (hs : c.env.scope = sc) (hx : c.ext = E) (hk : isOwn sc x = true) (he : E x = false) (h : Q ⟨setv S.m x v, S.σ⟩) : WStore g c x v S Q := W_Store (by rw [hs]; exact hk) (by rw [hx]; exact he) h
inductive CompPost (g : Gl Str) (c : Ac) (scope : Scope) (sc : Scope) (x : Str) (ifs : List Expr) (elt : Expr) (Q : Value -> St Str -> Prop) (v : Value) (S1 : St Str) : Prop
 | mk (xs : List Value) (Ok : St Str -> Prop) (h_1 : Iterable g c v xs Ok S1) (Inv : Nat -> List Value -> St Str -> Prop) (h_2 : Inv 0 [] ⟨compM scope S1.m, S1.σ⟩) (h_3 : (∀ i acc S2, Inv i acc S2 -> Ok S2 /\ acc.length ≤ i)) (h_4 : xs.length ≤ sizeLine) (h_5 : (∀ c' : Ac, c'.env.scope = relabelS scope sc -> c'.ext = extOf scope -> (∀ n, c.Deep n -> c'.Deep n) -> ∀ i y acc S2, xs[i]? = some y -> Inv i acc S2 ->
    WIfs g c' ifs ⟨setv S2.m x y, S2.σ⟩ fun b S4 => if b = true then WE g c' elt S4 (fun z S5 => Inv (i + 1) (acc ++ [z]) S5) else Inv (i + 1) acc S4)) (h_6 : ∀ acc S2, Inv xs.length acc S2 -> ∀ a, S2.σ a = none -> Q (.ref a) ⟨S1.m, upd S2.σ a (.list acc)⟩) : CompPost g c scope sc x ifs elt Q v S1
theorem WE_Comp {elt iter : Expr} {x : Str} {px : Pos} {ifs : List Expr} {scope sc : Scope} {pos : Pos} (hs : ∀ env x, foldedSetIterable iter env x = pure x) (he : c.env.scope = sc) (hsc : compOk scope sc = true) (hk : isOwn (relabelS scope sc) x = true) (hf : extOf scope x = false)
  (h : WE g c iter S (CompPost g c scope sc x ifs elt Q)) : WE g c (.ListComp elt [⟨.Name x px, iter, ifs, 0⟩] scope pos) S Q := by
 refine WE_ListComp hs (by rw [he]; exact hsc) (WE.mono h fun v S1 ⟨xs, Ok, hit, Inv, h0, hok, hz, turn, fin⟩ => ⟨xs, Ok, hit, Inv, h0, hok, hz, fun c' h1 h2 h3 i y acc S2 hy hI => ze ?_, fin⟩)
 rw [he] at h1
 exact W_StoreX h1 h2 hk hf (turn c' h1 h2 h3 i y acc S2 hy hI)
theorem compM_free {scope : Scope} {m : Str -> Option Value} {x : Str} {v : Value} (hf : extOf scope x = true) (h : m x = some v) : compM scope m x = some v := (if_pos hf).trans h
theorem Le.new {σ' : Addr -> Option (AO Str)} {D : Addr} {o : AO Str} (hle : ∀ b o, S.σ b = some o -> σ' b = some o) (hD : σ' D = none) : S.σ D = none /\ Le ⟨S.m, upd S.σ D o⟩ ⟨S.m, upd σ' D o⟩ := by
 refine ⟨?_, ⟨fun _ _ e => e, fun b o' e => ?_⟩⟩
 ·cases z : S.σ D with
  | none => rfl
  | some o => have := hle D o z; rw [hD] at this; exact Mine.ns this
 have e : upd S.σ D o b = some o' := e
 show upd σ' D o b = some o'
 unfold upd at e ⊢
 by_cases q : b = D
 ·rw [if_pos q] at e ⊢; exact e
 rw [if_neg q] at e ⊢; exact hle b o' e
theorem WCmp_eqNil (ha : S.σ a = some (.list xs)) (hb : S.σ b = some (.list [])) (h : Q (.bool xs.isEmpty) S) : WCmp g c .Eq (.ref a) (.ref b) S Q := by
 cases xs with
 | nil => exact WCmp_eqL (e := fun _ => true) (k := 0) ha hb rfl (by decide) (fun j x y q => by simp at q) h
 | cons x xs => exact WCmp_eqL_len ha hb (by simp) h
theorem z5 {sc : Scope} {x : Str} {p pos cpos : Pos} {elt : Expr} {gens : List Comprehension} {scope : Scope} {Q : Flow -> St Str -> Prop} (hs : c.env.scope = sc) (hx : c.ext = fun _ => false) (hk : sc.names.lookup x = some .cell)
  (h : WE g c (.ListComp elt gens scope cpos) S fun v S1 => Q .next ⟨setv S1.m x v, S1.σ⟩) : WX g c (.Assign [.Name x p] (.ListComp elt gens scope cpos) pos) S Q := by
 have hsw : swapsWith (.ListComp elt gens scope cpos) (some (.Name x p)) pos.line c.env = pure false := by
  have e : (c.env.kindOf x == some .local) = false := by
   unfold Env.kindOf
   rw [hs, hk]; rfl
  show pure (c.env.blockKind == .function && c.env.kindOf x == some .local && _ && _) = pure false
  rw [e, Bool.and_false, Bool.false_and, Bool.false_and]
 have ho : isOwn sc x = true := by unfold isOwn; rw [hk]
 intro H s R
 o_shape
 exact wpAny_Assign_Name (goK (h H s R) (fun v s1 S1 R1 q => zo (Q := Q .next) hs hx ho q v rfl H s1 R1)) hsw
theorem swaps_true {sc : Scope} {x : Str} {p pos cpos : Pos} {elt : Expr} {gens : List Comprehension} {scope : Scope} (hs : c.env.scope = sc) (hkind : c.env.scope.kind = .function) (hk : sc.names.lookup x = some .local)
  (hl : (p.line == cpos.line && !(scope.names.any fun (n, k) => n == x && (k == .local || k == .cell))) = true) : swapsWith (.ListComp elt gens scope cpos) (some (.Name x p)) pos.line c.env = pure true := by
 have e : (c.env.kindOf x == some .local) = true := by
  unfold Env.kindOf
  rw [hs, hk]; rfl
 have e2 : (c.env.blockKind == .function) = true := by
  unfold Env.blockKind
  rw [hkind]; rfl
 refine zL (Bool.and_eq_true_iff.mp hl) ?_; intro h1 h2
 show pure (c.env.blockKind == .function && c.env.kindOf x == some .local && p.line == (Expr.ListComp elt gens scope cpos).pos.line && _) = pure true
 rw [e2, e, show (p.line == (Expr.ListComp elt gens scope cpos).pos.line) = true from h1, h2]
 rfl
inductive CompXPost (g : Gl Str) (c : Ac) (scope : Scope) (sc : Scope) (x : Str) (ifs : List Expr) (elt : Expr) (y : Str) (Q' : Flow -> St Str -> Prop) (v : Value) (S1 : St Str) : Prop
 | mk (xs : List Value) (Ok : St Str -> Prop) (h_1 : Iterable g c v xs Ok S1) (Inv : Nat -> List Value -> St Str -> Prop) (h_2 : Inv 0 [] ⟨compM scope S1.m, S1.σ⟩) (h_3 : (∀ i acc S2, Inv i acc S2 -> Ok S2 /\ acc.length ≤ i)) (h_4 : xs.length ≤ sizeLine) (h_5 : (∀ c' : Ac, c'.env.scope = relabelS scope sc -> c'.ext = extOf scope -> (∀ n, c.Deep n -> c'.Deep n) -> ∀ i y acc S2, xs[i]? = some y -> Inv i acc S2 ->
    WIfs g c' ifs ⟨setv S2.m x y, S2.σ⟩ fun b S4 => if b = true then WE g c' elt S4 (fun z S5 => Inv (i + 1) (acc ++ [z]) S5) else Inv (i + 1) acc S4)) (h_6 : ∀ acc S2, Inv xs.length acc S2 -> ∀ a, S2.σ a = none -> Q' .next ⟨setv S1.m y (.ref a), upd S2.σ a (.list acc)⟩) : CompXPost g c scope sc x ifs elt y Q' v S1
theorem WX_Comp {elt iter : Expr} {x : Str} {px : Pos} {ifs : List Expr} {scope sc : Scope} {pos : Pos} (hs : ∀ env x, foldedSetIterable iter env x = pure x) (he : c.env.scope = sc) (hsc : compOk scope sc = true) (hk : isOwn (relabelS scope sc) x = true) (hf : extOf scope x = false) {y : Str} {py spos : Pos} {Q' : Flow -> St Str -> Prop} (hext : c.ext = fun _ => false) (hyl : sc.names.lookup y = some .local) (hl : (py.line == pos.line && !(scope.names.any fun (n, k) => n == y && (k == .local || k == .cell))) = true)
  (h : WE g c iter S (CompXPost g c scope sc x ifs elt y Q')) : WX g c (.Assign [.Name y py] (.ListComp elt [⟨.Name x px, iter, ifs, 0⟩] scope pos) spos) S Q' := by
 intro H s R
 o_shape
 refine WX_AssignComp (Q := fun v S' => Q' .next ⟨setv S'.m y v, S'.σ⟩) hs (by rw [he]; exact hsc) (by rw [he]; unfold isOwn; rw [hyl]) (by rw [hext]) (swaps_true he R.ac.kind hyl hl) (fun _ _ q => q) (WE.mono h fun v S1 ⟨xs, Ok, hit, Inv, h0, hok, hz, turn, fin⟩ => ⟨xs, Ok, hit, Inv, h0, hok, hz, fun c' h1 h2 h3 i y acc S2 hy hI => ze ?_, fin⟩) H s R
 rw [he] at h1
 exact W_StoreX h1 h2 hk hf (turn c' h1 h2 h3 i y acc S2 hy hI)
noncomputable def notComp : Expr -> Bool
 | .ListComp .. => false
 | .SetComp .. => false
 | .DictComp .. => false
 | _ => true
theorem swaps_false {e : Expr} (h : notComp e = true) (t : Option Expr) (line : Nat) (env : Env) : swapsWith e t line env = pure false := by
 cases e <;> first | rfl | (exact Mine.ft h)
theorem WX_AssignN {sc : Scope} {x : Str} {p pos : Pos} {e : Expr} {Q : Flow -> St Str -> Prop} (hn : notComp e = true) (hs : c.env.scope = sc) (hx : c.ext = fun _ => false) (hk : isOwn sc x = true)
  (h : WE g c e S fun v S1 => Q .next ⟨setv S1.m x v, S1.σ⟩) : WX g c (.Assign [.Name x p] e pos) S Q :=
 WX_AssignS hs hx hk (fun env => swaps_false hn _ _ env) h
noncomputable def WD (g : Gl Str) (c : Ac) (f : Value) (as : List Value) (S : St Str) (Q : Value -> St Str -> Prop) : Prop :=
 ∀ us, us.map er = as -> ∀ H s, Rel g c H S s -> codeAny (model g.prog g.w) c.A (.call f ⟨us, []⟩) (fun r s' => match r with | .ok (.ret v) => ∃ S', Rel g c H S' s' /\ Q (er v) S' | _ => False) s
theorem WC_of {f : Value} {as : List Value} (h : WD g c f as S Q) : WC g c f as S Q := fun us hu H s R => wpAny_call (codeAny_mono (h us hu H s R) fun r s' q => by
 rcases r with e | (v | _ | _ | _) <;> first | exact q | exact q.elim)
theorem WD.drop {f : Value} {as : List Value} (h : WD g c f as S fun v S' => ∃ S'', Le S'' S' /\ Q v S'') : WD g c f as S Q := fun us hu H s R => codeAny_mono (h us hu H s R) fun r s' q => by
 rcases r with e | (v | _ | _ | _) <;> first | exact q.elim | ((refine el_EAEA q ?_; (try clear q); intro S1 R1 S2 l q); exact ⟨S2, R1.le l.m l.s, q⟩)
theorem WD_def {f : Addr} {as : List Value} {B : List (Str × Value)} {body : List Stmt} {scope : Scope} {fd : FuncData} {n : Nat} (hd : c.Deep (n + 1)) (F : FnIs g.K f body scope fd) (hsc : scopeOk scope = true)
  (hbind : ∀ us, us.map er = as -> ∃ bs, bindArgs fd ⟨us, []⟩ = pure bs /\ bs.map (fun p => (p.1, er p.2)) = B)
  (hkind : (B.all fun y => scope.names.lookup y.1 == some .local || scope.names.lookup y.1 == some .cell) = true)
  (h : ∀ c' : Ac, c'.env.scope = scope -> c'.ext = (fun _ => false) -> c'.Deep n -> WXs g c' body ⟨bindM B fun _ => none, S.σ⟩ fun fl S' => Q (retV fl) ⟨S.m, S'.σ⟩) : WD g c (.ref f) as S Q := by
 intro us hus H s R
 o_shape
 refine zB (hbind us hus) ?_; intro bs hb rfl_142; subst rfl_142
 refine el_EEE F.at_ ?_; intro oc od osl ho
 obtain ⟨k1, k2, k3⟩ : scope.kind = .function /\ scope.isCoroutine = false /\ scope.isGenerator = false := by
  simp only [scopeOk, Bool.and_eq_true, beq_iff_eq, Bool.not_eq_true'] at hsc
  exact ⟨hsc.1.1.1, hsc.1.1.2, hsc.1.2⟩
 have hfs := F.scope
 refine codeAny_call_cells R.room (R.in_K _ _ ho) rfl R.nolimit (codeRec_of R.in_K F.cd) F.body hb F.clo (fun y hy => ?_) (fun s1 x => ?_) (by rw [hfs]; exact k2) (by rw [hfs]; exact k3) (by rw [hfs]; exact k1)
 ·rw [hfs]
  have := List.all_eq_true.mp hkind (y.1, er y.2) (List.mem_map.mpr ⟨y, hy, rfl⟩)
  rcases Bool.or_eq_true_iff.mp this with q | q
  ·exact .inl (by simpa using q)
  have q' : scope.names.lookup y.1 = some .cell := by simpa using q
  exact .inr ⟨q', cellsFrom_some _ _ _ (.inl q')⟩
 refine zB (enter R hd hsc hfs F.gl F.bl x) ?_; intro H' R' back
 refine goK (h ⟨c.A.deeper (callEnvC fd s.heap.objs.size f), callEnvC fd s.heap.objs.size f, fun _ => false⟩ hfs rfl ?_ H' s1 R') (fun fl s' S' R2 q => ?_)
 ·unfold Ac.Deep at hd ⊢
  simp only [Around.deeper]
  exact om01 ‹_›
 refine ⟨⟨S.m, S'.σ⟩, back S' s' R2, ?_⟩
 cases fl <;> exact q
theorem Rel.around {H : Hid} {s : Shared} {A' : Around} (R : Rel g c H S s) (hA : Ac.Ok ⟨A', c.env, c.ext⟩) : Rel g ⟨A', c.env, c.ext⟩ H S s :=
 { ok := R.ok, ac := hA, above := R.above, keep := R.keep, os := R.os, bare := R.bare, gen := R.gen, hid := R.hid, loc := R.loc, cel := R.cel, inj := R.inj, fre := R.fre, sto := R.sto, role := R.role }
theorem Rel.unaround {H : Hid} {s : Shared} {A' : Around} (R : Rel g ⟨A', c.env, c.ext⟩ H S s) (hA : c.Ok) : Rel g c H S s :=
 { ok := R.ok, ac := hA, above := R.above, keep := R.keep, os := R.os, bare := R.bare, gen := R.gen, hid := R.hid, loc := R.loc, cel := R.cel, inj := R.inj, fre := R.fre, sto := R.sto, role := R.role }
theorem Ac.Ok.around {A' : Around} (h : c.Ok) (hd : A'.handled = none) (d : Ac.Deep ⟨A', c.env, c.ext⟩ 0) : Ac.Ok ⟨A', c.env, c.ext⟩ :=
 ⟨h.kind, h.gl, h.bl, hd, d, h.cells, h.frees⟩
theorem Rel.know {H : Hid} {s : Shared} (R : Rel g c H S s) {ob : Obj} {o : AO Str} (hn : s.heap.get? a = some ob) (hi : Is g ob o) (h0 : g.hU.get? a = none) (hl : a ≠ c.env.locals)
  (hc : ∀ x b, c.env.cells.lookup x = some b -> c.Own x -> b ≠ a) (hH : H.objs a = none) : Rel g c H ⟨S.m, upd S.σ a o⟩ s := by
 refine zK R.role ?_; intro ρ r0 r1 r2 r3 r4
 refine { R with sto := ?_, role := ⟨fun b => if b = a then 4 else ρ b, fun b o e => ?_, ?_, fun x b h1 h2 => ?_, fun b o e => ?_, fun b o' e => ?_⟩ }
 ·intro b o' e
  unfold upd at e
  dsimp only at e
  split at e
  ·rename_i hb; subst hb; (replace e := Option.some.inj e; subst e); exact ⟨ob, hn, hi⟩
  exact R.sto b o' e
 ·dsimp only; rw [if_neg (by rintro rfl; rw [h0] at e; exact Mine.ns e)]; exact r0 b o e
 ·dsimp only; rw [if_neg (Ne.symm hl)]; exact r1
 ·dsimp only; rw [if_neg (hc x b h1 h2)]; exact r2 x b h1 h2
 ·dsimp only; rw [if_neg (by rintro rfl; rw [hH] at e; exact Mine.ns e)]; exact r3 b o e
 by_cases hb : b = a
 ·dsimp only; rw [if_pos hb]
 dsimp only; rw [if_neg hb]
 refine r4 b o' ?_
 unfold upd at e
 dsimp only at e
 rwa [if_neg hb] at e
structure Fresh (g : Gl Str) (c : Ac) (H : Hid) (S : St Str) (a : Addr) : Prop where
 h0 : g.hU.get? a = none
 hl : a ≠ c.env.locals
 hc : ∀ x b, c.env.cells.lookup x = some b -> c.Own x -> b ≠ a
 hH : H.objs a = none
 hS : S.σ a = none
theorem Rel.fresh {H : Hid} {s : Shared} (R : Rel g c H S s) (ha : s.heap.get? a = none) : Fresh g c H S a := by
 refine ⟨?_, ?_, fun x b h1 h2 e => ?_, R.free_hid ha, ?_⟩
 ·cases z : g.hU.get? a with
  | none => rfl
  | some o => have := R.keep a o z; rw [ha] at this; exact Mine.ns this
 ·rintro rfl
  refine zB R.loc ?_; intro m nn_141 _; obtain ⟨oL, _, _, hL, _⟩ := nn_141
  rw [ha] at hL; exact Mine.ns hL
 ·subst e
  refine zB (R.cel x b h1 h2) ?_; intro u nn_140 _; obtain ⟨oc, hc, _⟩ := nn_140
  rw [ha] at hc; exact Mine.ns hc
 cases q : S.σ a with
 | none => rfl
 | some o' => (refine zB (R.sto a o' q) ?_; intro ob' e _); rw [ha] at e; exact Mine.ns e
theorem under_units (A : Around) (C : Addr) (vals : List Value) (kw : List (Str × Value)) : (A.under (.builtin "type.__call__" ⟨.ref C :: vals, kw⟩)).units ≤ A.units + 4 := by
 have h : (Code.builtin "type.__call__" ⟨.ref C :: vals, kw⟩).cUnits = 1 := by kernel_rfl
 exact Nat.add_le_add_left (Nat.le_trans (Nat.le_of_eq h) (by decide)) A.units
theorem under_depth (A : Around) (C : Addr) (vals : List Value) (kw : List (Str × Value)) : (A.under (.builtin "type.__call__" ⟨.ref C :: vals, kw⟩)).depth = A.depth + 1 := rfl
theorem WC_new {C fI : Addr} {as : List Value} {n : Nat} (hd : c.Deep (n + 1)) (hm : makesIn g.K C = true) (hi : findIn g.K (.ref C) "__init__" = some (some (.ref fI))) (hf : isFn g.K (.ref fI) = true)
  (mk : Addr -> AO Str) (hmk : ∀ d, mk d = .inst C d ∨ mk d = .slots C d []) (h : ∀ x dx, S.σ x = none -> S.σ dx = none -> x ≠ dx -> ∀ c' : Ac, c'.env = c.env -> c'.ext = c.ext -> c'.Deep n ->
   WD g c' (.ref fI) (.ref x :: as) ⟨S.m, upd (upd S.σ dx (.ns (fun _ => none) 0)) x (mk dx)⟩ fun v S' => v = .none /\ Q (.ref x) S') : WC g c (.ref C) as S Q := by
 intro us hus H s R
 o_shape
 refine zJ R.led ?_; intro m F N' hl
 refine call_cls F R.ok.k N' hm hi hf fun x dx h' F' N' l1 l2 => ?_
 have hxn : s.heap.get? x = none := by
  cases z : s.heap.get? x with
  | none => rfl
  | some o =>
   exfalso
   have := (N' _ (.head _)).2
   by_cases q : x = c.env.locals
   ·exact this.1 q
   exact absurd (l1 (x, o) (zX.mpr ⟨⟨q, this.2⟩, z⟩)) (Nat.not_lt.mpr (Nat.le_of_lt l2))
 have hdn : s.heap.get? dx = none := by
  cases z : s.heap.get? dx with
  | none => rfl
  | some o =>
   exfalso
   have := (N' _ (.tail _ (.head _))).2
   by_cases q : dx = c.env.locals
   ·exact this.1 q
   exact absurd (l1 (dx, o) (zX.mpr ⟨⟨q, this.2⟩, z⟩)) (Nat.lt_irrefl _)
 have fx := R.fresh hxn
 have fd := R.fresh hdn
 have ne : x ≠ dx := Nat.ne_of_gt l2
 have R1 : Rel g c H S { s with heap := h' } := R.backBut (tk := s.toks) hl F' fun p hp => (N' p (.tail _ (.tail _ hp))).1
 have R2 := R1.know (a := dx) (o := .ns (fun _ => none) 0) (N' _ (.tail _ (.head _))).1 ⟨[], 0, rfl, (fun e he => nomatch he), fun x => rfl, Nat.le_refl _⟩ fd.h0 fd.hl fd.hc fd.hH
 have hmk' : Is g (instObj C dx) (mk dx) := by
  rcases hmk dx with e | e
  ·rw [e]; rfl
  rw [e]; exact ⟨#[], rfl, rfl⟩
 have R3 := R2.know (a := x) (o := mk dx) (N' _ (.head _)).1 hmk' fx.h0 fx.hl fx.hc fx.hH
 have hdeep : Ac.Deep ⟨c.A.under (.builtin "type.__call__" ⟨.ref C :: us, []⟩), c.env, c.ext⟩ n := by
  unfold Ac.Deep at hd ⊢
  have := under_units c.A C us []
  have := under_depth c.A C us []
  dsimp only
  lia
 have R4 := R3.around (A' := c.A.under (.builtin "type.__call__" ⟨.ref C :: us, []⟩)) (R.ac.around R.ac.hd (hdeep.less (Nat.zero_le _)))
 refine codeAny_mono (h x dx fx.hS fd.hS ne ⟨c.A.under (.builtin "type.__call__" ⟨.ref C :: us, []⟩), c.env, c.ext⟩ rfl rfl hdeep (.ref x :: us) (by rw [List.map_cons, hus]; rfl) H _ R4) fun r s' q => ?_
 rcases r with e | (v | _ | _ | _) <;> first | exact q.elim | skip
 refine zJ q ?_; (try clear q); intro S1 R5 q1 q2
 exact ⟨er_none q1, S1, R5.unaround R.ac, q2⟩
theorem WGM_inst {C d f : Addr} {m : Str -> Option Value} {k : Nat} {x : Str} (hg : plainGet g.K C x = true) (hf : findIn g.K (.ref C) x = some (some (.ref f))) (ht : isFn g.K (.ref f) = true) (ha : S.σ a = some (.inst C d)) (hd : S.σ d = some (.ns m k)) (hx : m x = none)
  {Q : Value -> List Value -> St Str -> Prop} (h : Q (.ref f) [.ref a] S) : WGM g c (.ref a) x S Q := by
 intro u pl hu H s R
 o_shape
 obtain rfl := zH hu
 refine el_EEAAAA (R.inst ha hd) ?_; intro es n I h1 h2 h3 h4
 refine zJ R.led ?_; intro m' F N' hl
 refine method_inst F R.ok.k I hg hf ht ?_ ⟨S, R, h⟩
 have := h3 x
 rw [hx] at this
 rw [getL_of h2]
 cases z : nsFind es.toArray x with
 | none => rfl
 | some v => rw [z] at this; exact Mine.sn this
noncomputable def slotAttr (K : Frag) (C : Addr) (x : Str) (i : Nat) : Bool := plainGet K C x && isClsIn K C && (match findIn K (.ref C) x with
 | some (some (.ref p)) => specialIn K (.ref p) "__get__" == some (some (.builtin "member_descriptor.__get__")) && takesIn K (.ref p) == some true && slotIn K p C == some i && typeIn K (.ref p) == some (.type "member_descriptor") && takerIn K C x == some (some (.ref p))
 | _ => false) && findIn K (.ref C) "__setattr__" == some (some (.builtin "object.__setattr__")) && plainOver K C
theorem slotAttr_of {K : Frag} {C : Addr} {x : Str} {i : Nat} (h : slotAttr K C x i = true) : ∃ p, plainGet K C x = true /\ isClsIn K C = true /\ findIn K (.ref C) x = some (some (.ref p)) /\ specialIn K (.ref p) "__get__" = some (some (.builtin "member_descriptor.__get__")) /\ takesIn K (.ref p) = some true /\ slotIn K p C = some i /\
  typeIn K (.ref p) = some (.type "member_descriptor") /\ takerIn K C x = some (some (.ref p)) /\ findIn K (.ref C) "__setattr__" = some (some (.builtin "object.__setattr__")) /\ plainOver K C = true := by
 unfold slotAttr at h
 simp only [Bool.and_eq_true] at h
 refine zL h ?_; (try clear h); intro nn_139 h5; obtain ⟨⟨⟨h1, h2⟩, h3⟩, h4⟩ := nn_139
 split at h3
 ·rename_i p q
  simp only [Bool.and_eq_true, beq_iff_eq] at h3
  refine zL h3 ?_; (try clear h3); intro nn_138 a5; obtain ⟨⟨⟨a1, a2⟩, a3⟩, a4⟩ := nn_138
  exact ⟨p, h1, h2, q, a1, a2, a3, a4, a5, beq_iff_eq.mp h4, h5⟩
 exact Mine.ft h3
theorem Rel.slots {H : Hid} {s : Shared} (R : Rel g c H S s) {a C d : Addr} {vs : List (Option Value)} {m : Str -> Option Value} {k : Nat} (ha : S.σ a = some (.slots C d vs)) (hd : S.σ d = some (.ns m k)) :
  ∃ sl od, InstAt s.heap a ⟨.ref C, some d, .plain, sl⟩ C (some od) /\ sl.toList.map (·.map er) = vs := by
 refine el_EAEA (R.sto a _ ha) ?_; intro ob h1 sl rfl_137 h6; subst rfl_137
 refine el_EAEEAAA (R.sto d _ hd) ?_; intro ob' h2 es n rfl_136 h3 h4 h5; subst rfl_136
 exact ⟨sl, _, ⟨h1, rfl, rfl, h2⟩, h6⟩
theorem slots_get {sl : Array (Option Value)} {i : Nat} {v : Value} (h : (sl.toList.map (·.map er))[i]? = some (some v)) : ∃ u, (sl[i]?).join = some u /\ er u = v := by
 rw [List.getElem?_map, Option.map_eq_some_iff] at h
 refine zB h ?_; (try clear h); intro o h1 h2
 refine zB (er_some h2) ?_; intro u rfl_135 e; subst rfl_135
 exact ⟨u, by rw [← Array.getElem?_toList, h1]; rfl, e⟩
theorem WGet_slot {C d : Addr} {m : Str -> Option Value} {k i : Nat} {x : Str} {vs : List (Option Value)} {v : Value} (hk : slotAttr g.K C x i = true) (ha : S.σ a = some (.slots C d vs)) (hd : S.σ d = some (.ns m k)) (hx : vs[i]? = some (some v)) (hv : handedIn v = true) (h : Q v S) : WGet g c (.ref a) x S Q := by
 intro u b hu H s R
 o_shape
 obtain rfl := zH hu
 refine zg (R.slots ha hd) ?_; intro sl od I h6
 refine zJ R.led ?_; intro m' F N' hl
 refine el_EAAAAAAAAA (slotAttr_of hk) ?_; intro p k1 k2 k3 k4 k5 k6 k7 k8 k9 k10
 refine zB (slots_get (sl := sl) (by rw [h6]; exact hx)) ?_; intro y hy e
 exact get_slot F R.ok.k I k1 k2 k3 k4 k5 k6 hy (by rw [← handedIn_er, e]; exact hv) ⟨S, R.toks, fin h e⟩
noncomputable def putSlot (vs : List (Option Value)) (i : Nat) (v : Value) : List (Option Value) := (vs ++ List.replicate (i + 1 - vs.length) none).set i (some v)
theorem WSet_slot {C d : Addr} {m : Str -> Option Value} {k i : Nat} {x : Str} {vs : List (Option Value)} {v : Value} {Q : St Str -> Prop} (hk : slotAttr g.K C x i = true) (ha : S.σ a = some (.slots C d vs)) (hd : S.σ d = some (.ns m k)) (hz : i < 1000)
  (h : Q ⟨S.m, upd S.σ a (.slots C d (putSlot vs i v))⟩) : WSet g c (.ref a) x v S Q := by
 intro u w hu hw H s R
 o_shape
 obtain rfl := zH hu
 refine zg (R.slots ha hd) ?_; intro sl od I h6
 refine zJ R.led ?_; intro m' F N' hl
 refine el_EAAAAAAAAA (slotAttr_of hk) ?_; intro p k1 k2 k3 k4 k5 k6 k7 k8 k9 k10
 refine zB (R.updLed I.at_ ha { (⟨.ref C, some d, .plain, sl⟩ : Obj) with slots := (sl ++ Array.replicate (i + 1 - sl.size) none).setIfInBounds i (some w) }) ?_; intro news' U back
 refine set_slot F R.ok.k N' I k9 k10 k8 k7 k6 hz rfl rfl U fun h' F' N' => ⟨⟨S.m, upd S.σ a (.slots C d (putSlot vs i v))⟩, back hl F' N' ⟨_, rfl, ?_⟩, h⟩
 have hsz : sl.size = vs.length := by rw [← h6]; simp
 unfold putSlot
 rw [← h6, ← hw, hsz]
 simp [List.map_set, hsz.symm]
structure KeyOk (g : Gl Str) (kv : Str -> Value) : Prop where
 is : ∀ k u, er u = kv k -> g.knd.is k u = true
 inv : ∀ k u, g.knd.is k u = true -> er u = kv k
 sc : ∀ k u, er u = kv k -> u.scannable = true
 er : ∀ k, er (kv k) = kv k
 hand : ∀ k, handedIn (kv k) = true
theorem KeyOk.inj {g : Gl Str} {kv : Str -> Value} (K : KeyOk g kv) {j k : Str} (h : kv j = kv k) : j = k :=
 g.knd.inj (kv k) j k (K.is j _ ((K.er k).trans h.symm)) (K.is k _ (K.er k))
section
variable {g : Gl Str} {c : Ac} {S S' : St Str} {Q : Value -> St Str -> Prop} {a b d : Addr} {xs ys : List Value} {kv : Str -> Value} {k : Str} {kvs : List (Str × Value)} {ep : Nat}
noncomputable def erP (p : Str × Value) : Str × Value := (p.1, er p.2)
theorem Rel.dict {H : Hid} {s : Shared} (R : Rel g c H S s) (ha : S.σ d = some (.dict kvs ep)) : ∃ ks ob, s.heap.get? d = some ob /\ s.heap.DictAt g.knd d ks ep /\ ks.map erP = kvs := by
 refine el_EAEEAAAAA (R.sto d _ ha) ?_; intro ob h1 es ks h2 h3 h4 h5 h6 h7
 exact ⟨ks, ob, h1, ⟨ob, es, h1, h2, h3, h4, h5, h6⟩, h7⟩
theorem Is.dict {s : Heap} {ks : List (Str × Value)} (h : s.DictAt g.knd d ks ep) : ∃ ob, s.get? d = some ob /\ Is g ob (.dict (ks.map erP) ep) := by
 refine zk h ?_; (try clear h); intro ob es h1 h2 h3 h4 h5 h6
 exact ⟨ob, h1, es, ks, h2, h3, h4, h5, h6, rfl⟩
theorem valueAt_er {ks : List (Str × Value)} (k : Str) : valueAt (ks.map erP) k = (valueAt ks k).map er := by
 unfold valueAt
 rw [List.find?_map]
 have : ((fun kv : Str × Value => decide (kv.1 = k)) ∘ erP) = fun kv : Str × Value => decide (kv.1 = k) := rfl
 rw [this, Option.map_map, Option.map_map]
 rfl
theorem stored_er {ks : List (Str × Value)} (k : Str) (v : Value) : stored (ks.map erP) k (er v) = (stored ks k v).map erP := by
 unfold stored
 rw [List.any_map]
 have : ((fun kv : Str × Value => decide (kv.1 = k)) ∘ erP) = fun kv : Str × Value => decide (kv.1 = k) := rfl
 rw [this]
 split
 ·rw [List.map_map, List.map_map]
  congr 1
  funext p
  show (if p.1 = k then (p.1, er v) else erP p) = erP (if p.1 = k then (p.1, v) else p)
  split <;> rfl
 rw [List.map_append]; rfl
theorem without_er {ks : List (Str × Value)} (k : Str) : without (ks.map erP) k = (without ks k).map erP := by
 unfold without
 rw [List.filter_map]; rfl
theorem dictAt_new (h : Heap) : (h.push { cls := .type "dict", data := .dict #[] }).DictAt g.knd h.objs.size [] 0 :=
 ⟨_, #[], Heap.get?_push_size _ rfl, ⟨rfl, rfl, rfl⟩, rfl, fun e he => by simp at he, .nil, List.nodup_nil⟩
theorem Rel.dict_put {H : Hid} {s : Shared} (R : Rel g c H S s) {o0 : AO Str} (ha : S.σ d = some o0) {h' : Heap} {tk : Tok} {ks : List (Str × Value)} (hm : h'.DictOf g.knd d ks) (hs : Heap.SameBut d s.heap h') :
  ∃ ep', Rel g c H ⟨S.m, upd S.σ d (.dict (ks.map erP) ep')⟩ { s with heap := h', toks := tk } := by
 refine zI hm.dictAt ?_; intro ep' hm
 refine zB (Is.dict (g := g) hm) ?_; intro ob h1 h2
 exact ⟨ep', R.put (tk := tk) hs.extBut ha h1 h2⟩
theorem WE_DictNil {pos : Pos} (h : ∀ d, S.σ d = none -> (d == sysModules) = false -> Q (.ref d) ⟨S.m, upd S.σ d (.dict [] 0)⟩) : WE g c (.Dict [] [] pos) S Q := by
 intro H s R
 o_shape
 refine zJ R.led ?_; intro m F N' hl
 refine zB (Is.dict (g := g) (dictAt_new (g := g) s.heap)) ?_; intro ob h1 h2
 refine zL (R.add (tk := s.toks) (h' := s.heap.push { cls := .type "dict", data := .dict #[] }) (o := .dict [] 0) (Heap.ExtBut.push (Heap.ExtBut.refl _ _) _) (zG _) h1 h2) ?_; intro hn R2
 exact wpAny_Dict_empty ⟨_, R2, h _ hn (F.notModules (modules_low R.ok.lim))⟩
theorem WItem_dict {v : Value} (K : KeyOk g kv) (ha : S.σ d = some (.dict kvs ep)) (hv : valueAt kvs k = some v) (h : Q v S) : WItem g c (.ref d) (kv k) S Q := by
 intro u w hu hw H s R
 o_shape
 obtain rfl := zH hu
 refine zD (R.dict ha) ?_; intro ks ob h1 h2 h3
 rw [← h3, valueAt_er] at hv
 refine zB (er_some hv) ?_; intro y hy e
 exact wpAny_getItem_of (K.is k w hw) h2.dictOf.mapOf hy ⟨S, R.toks, fin h e⟩
theorem WSub_dict {o i : Expr} {iv : Value} (ha : S.σ d = some (.dict kvs ep)) (hs : ∃ ops : Value -> Value -> List Value, ∀ o' i', subscripted i false o' i' = operate (ops o' i') (getItem o' i')) (h : WItem g c (.ref d) iv S Q) : WV2 g c (subscriptTail o i) (.ref d) iv S Q :=
 WSub_of slot_dict_getitem.lookup (fun H s u R hu => by
  obtain rfl := zH hu
  refine zD (R.dict ha) ?_; intro ks ob h1 h2 h3
  exact h2.dictOf.typeIs) hs h
theorem WSetItem_dict {v : Value} {Q : St Str -> Prop} (K : KeyOk g kv) (ha : S.σ d = some (.dict kvs ep)) (hz : kvs.length ≤ sizeLine) (h : ∀ ep', Q ⟨S.m, upd S.σ d (.dict (stored kvs k v) ep')⟩) : WSetItem g c (.ref d) (kv k) v S Q := by
 intro u j w hu hj hw H s R
 o_shape
 obtain rfl := zH hu
 refine zD (R.dict ha) ?_; intro ks ob h1 h2 h3
 refine wpAny_setItem_pairs (hsz := by rw [← List.length_map (f := erP), h3]; exact hz) (K.is k j hj) h2.dictOf fun h' hmm hs => ?_
 refine zI (R.dict_put (tk := s.toks + 1) ha hmm hs) ?_; intro ep' R'
 rw [← stored_er, h3, hw] at R'
 exact ⟨_, R', h ep'⟩
theorem WCmp_inD (K : KeyOk g kv) (ha : S.σ d = some (.dict kvs ep)) (lo : (d == sysModules) = false) (h : Q (.bool (valueAt kvs k).isSome) S) : WCmp g c .In (kv k) (.ref d) S Q := by
 intro u v hu hv H s R
 o_shape
 obtain rfl := zH hv
 refine zD (R.dict ha) ?_; intro ks ob h1 h2 h3
 refine wpAny_in_of (K.is k u hu) lo h2.dictOf.mapOf ⟨S, R.toks, ?_⟩
 rw [← h3, valueAt_er, Option.isSome_map] at h
 exact h
theorem WGM_dict {name : Str} {id : String} (slot : Slot "dict" name id) (ty : typeOf (.builtin id) = pure (.type "method_descriptor")) (ha : S.σ d = some (.dict kvs ep)) {Q : Value -> List Value -> St Str -> Prop} (h : Q (.builtin id) [.ref d] S) : WGM g c (.ref d) name S Q := by
 intro u pl hu H s R
 o_shape
 obtain rfl := zH hu
 refine zD (R.dict ha) ?_; intro ks ob h1 h2 h3
 exact getMethod_builtin h2.dictOf.typeIs PySem.F.plainAttrs_dict slot ty h2.dictOf.mapOf.noDict ⟨S, R, h⟩
theorem WC_dictGet (K : KeyOk g kv) (ha : S.σ d = some (.dict kvs ep)) (lo : (d == sysModules) = false) (h : Q ((valueAt kvs k).getD .none) S) : WC g c (.builtin "dict.get") [.ref d, kv k] S Q := by
 intro us hus H s R
 o_shape
 refine zD (map2 hus) ?_; intro u v rfl_150 hu hv; subst rfl_150
 obtain rfl := zH hu
 refine zD (R.dict ha) ?_; intro ks ob h1 h2 h3
 have hD := h2.dictOf
 refine call_meetsIn PySem.F.slot_dict_get hD.typeIs PySem.F.entry_dict_get (PySem.F.args_dict_get_2 _ _) (meets_dict_get g.knd d (K.is k v hv) lo) ⟨_, hD.mapOf, ?_⟩
 refine ⟨S, R.toks, ?_⟩
 rw [← h3, valueAt_er] at h
 cases q : valueAt ks k with
 | none => rw [q] at h; exact h
 | some y => rw [q] at h; exact h
noncomputable def valsO (d : Addr) : AO Str := .raw fun ob => ob = { cls := .type "dict_values", data := .fields #[.ref d] }
theorem WC_values (ha : S.σ d = some (.dict kvs ep)) (lo : (d == sysModules) = false) (h : ∀ r, S.σ r = none -> Q (.ref r) ⟨S.m, upd S.σ r (valsO d)⟩) : WC g c (.builtin "dict.values") [.ref d] S Q := by
 intro us hus H s R
 o_shape
 refine zB (z3 hus) ?_; intro u rfl_149 hu; subst rfl_149
 obtain rfl := zH hu
 refine zD (R.dict ha) ?_; intro ks ob h1 h2 h3
 have hD := h2.dictOf
 refine zL (R.add (tk := s.toks) (h' := s.heap.push { cls := .type "dict_values", data := .fields #[.ref d] }) (o := valsO d) (Heap.ExtBut.push (Heap.ExtBut.refl _ _) _) (zG _) (Heap.get?_push_size _ rfl) rfl) ?_; intro hn R2
 exact call_meetsIn PySem.F.slot_dict_values hD.typeIs PySem.F.entry_dict_values (PySem.F.args_dict_values_1 _) (meets_dict_values g.knd d lo) ⟨⟨ks, hD⟩, ⟨_, R2, h _ hn⟩⟩
theorem erP_get {ks : List (Str × Value)} {i : Nat} {k : Str} {v : Value} (h : (ks.map erP)[i]? = some (k, v)) : ∃ u, ks[i]? = some (k, u) /\ er u = v := by
 rw [List.getElem?_map, Option.map_eq_some_iff] at h
 refine zB h ?_; (try clear h); intro nn_148 h1 h2; obtain ⟨k', u⟩ := nn_148
 cases h2
 exact ⟨u, h1, rfl⟩
theorem erP_none {ks : List (Str × Value)} {i : Nat} (h : (ks.map erP)[i]? = none) : ks[i]? = none := by
 rwa [List.getElem?_map, Option.map_eq_none_iff] at h
noncomputable def itKeys (g : Gl Str) {kv : Str -> Value} (K : KeyOk g kv) (d : Addr) (kvs : List (Str × Value)) (ep : Nat) : ItSpec g (kvs.map fun p => kv p.1) (fun S => S.σ d = some (.dict kvs ep)) where
 St_ i ob := ob.cls = .type "dict_keyiterator" /\ ob.data = .fields #[.ref d, .int i 0, .int kvs.length 0, .int ep 0]
 noCell i ob u h e := by rw [h.2] at e; exact (nomatch e)
 next c H S s it i ob x hH hS R ok hx := by
  refine zD (R.dict ok) ?_; intro ks ob' h1 h2 h3
  rw [List.getElem?_map, Option.map_eq_some_iff] at hx
  refine zB hx ?_; (try clear hx); intro nn_146 hx rfl_147; obtain ⟨k, v⟩ := nn_146; subst rfl_147
  have hl : ks.length = kvs.length := by rw [← h3, List.length_map]
  rw [← h3] at hx
  refine zB (erP_get hx) ?_; intro u hx _
  refine wpAny_pyNext_dict_item (it := it) (i := i) ⟨ob, R.hid _ _ hH, hS.1, by rw [hl]; exact hS.2⟩ h2 hx fun key h' hk hit hs => ?_
  refine zJ hit ?_; (try clear hit); intro ob' g1 g2 g3
  exact ⟨key, ob', rfl, K.inv k key hk, ⟨g2, by rw [hl] at g3; exact g3⟩, R.turn (tk := s.toks) hH hs.extBut g1 fun u e => by rw [hS.2] at e; exact (nomatch e)⟩
 done c H S s it i ob hH hS R ok hx := by
  refine zD (R.dict ok) ?_; intro ks ob' h1 h2 h3
  have hl : ks.length = kvs.length := by rw [← h3, List.length_map]
  have hx' : ks[i]? = none := by
   rw [List.getElem?_map, Option.map_eq_none_iff, ← h3] at hx
   exact erP_none hx
  exact wpAny_pyNext_dict_end R.ac.hd ⟨ob, R.hid _ _ hH, hS.1, by rw [hl]; exact hS.2⟩ h2 hx' fun h' hs => ⟨rfl, R.lose (tk := s.toks) hH (fun u e => by rw [hS.2] at e; exact (nomatch e)) hs⟩
 lets c H S s it i ob t v hH hS R := zy (R.hid _ _ hH) (by unfold plainIter; rw [hS.1]; rfl) ⟨ob, hS, by rw [H.put_same hH]; exact R⟩
 again c H S s it i ob P E hH hS R h := by
  have hT : s.TypeIs (.ref it) "dict_keyiterator" := ⟨ob, R.hid _ _ hH, hS.1⟩
  refine wpAny_pyIter_slot hT PySem.F.slot_dict_keyiterator_iter (wpAny_call_entry PySem.F.slot_dict_keyiterator_iter hT PySem.F.entry_dict_keyiterator_iter ?_ (PySem.F.args_dict_keyiterator_iter_1 _))
  show wpAny _ _ (ret (.ref it)) _ _ s
  exact wpAny_pure ⟨_, rfl, "dict_keyiterator", _, hT, PySem.F.slot_dict_keyiterator_next.lookup, h⟩
theorem iter_dict (K : KeyOk g kv) (ha : S.σ d = some (.dict kvs ep)) (lo : (d == sysModules) = false) : Iterable g c (.ref d) (kvs.map fun p => kv p.1) (fun S => S.σ d = some (.dict kvs ep)) S := by
 intro H s u hu R
 obtain rfl := zH hu
 refine zD (R.dict ha) ?_; intro ks ob' h1 h2 h3
 have hl : ks.length = kvs.length := by rw [← h3, List.length_map]
 exact wpAny_pyIter_dict lo h2 ⟨_, _, itKeys g K d kvs ep, rfl, R.free_hid (zG _), ⟨rfl, by rw [hl]; rfl⟩, R.hide (tk := s.toks) (Heap.ExtBut.push (Heap.ExtBut.refl _ _) _) (zG _) (Heap.get?_push_size _ rfl)⟩
noncomputable def itVals (g : Gl Str) (d : Addr) (kvs : List (Str × Value)) (ep : Nat) : ItSpec g (kvs.map fun p => p.2) (fun S => S.σ d = some (.dict kvs ep)) where
 St_ i ob := ob.cls = .type "dict_valueiterator" /\ ob.data = .fields #[.ref d, .int i 0, .int kvs.length 0, .int ep 0]
 noCell i ob u h e := by rw [h.2] at e; exact (nomatch e)
 next c H S s it i ob x hH hS R ok hx := by
  refine zD (R.dict ok) ?_; intro ks ob' h1 h2 h3
  rw [List.getElem?_map, Option.map_eq_some_iff] at hx
  refine zB hx ?_; (try clear hx); intro nn_144 hx rfl_145; obtain ⟨k, v⟩ := nn_144; subst rfl_145
  have hl : ks.length = kvs.length := by rw [← h3, List.length_map]
  rw [← h3] at hx
  refine zB (erP_get hx) ?_; intro u hx hu
  refine wpAny_pyNext_values_item (it := it) (i := i) ⟨ob, R.hid _ _ hH, hS.1, by rw [hl]; exact hS.2⟩ h2 hx fun h' hit hs => ?_
  refine zJ hit ?_; (try clear hit); intro ob' g1 g2 g3
  exact ⟨u, ob', rfl, hu, ⟨g2, by rw [hl] at g3; exact g3⟩, R.turn (tk := s.toks) hH hs.extBut g1 fun u e => by rw [hS.2] at e; exact (nomatch e)⟩
 done c H S s it i ob hH hS R ok hx := by
  refine zD (R.dict ok) ?_; intro ks ob' h1 h2 h3
  have hl : ks.length = kvs.length := by rw [← h3, List.length_map]
  have hx' : ks[i]? = none := by
   rw [List.getElem?_map, Option.map_eq_none_iff, ← h3] at hx
   exact erP_none hx
  exact wpAny_pyNext_values_end R.ac.hd ⟨ob, R.hid _ _ hH, hS.1, by rw [hl]; exact hS.2⟩ h2 hx' fun h' hs => ⟨rfl, R.lose (tk := s.toks) hH (fun u e => by rw [hS.2] at e; exact (nomatch e)) hs⟩
 lets c H S s it i ob t v hH hS R := zy (R.hid _ _ hH) (by unfold plainIter; rw [hS.1]; rfl) ⟨ob, hS, by rw [H.put_same hH]; exact R⟩
 again c H S s it i ob P E hH hS R h := by
  have hT : s.TypeIs (.ref it) "dict_valueiterator" := ⟨ob, R.hid _ _ hH, hS.1⟩
  refine wpAny_pyIter_slot hT PySem.F.slot_dict_valueiterator_iter (wpAny_call_entry PySem.F.slot_dict_valueiterator_iter hT entry_dict_valueiterator_iter ?_ (PySem.F.args_dict_valueiterator_iter_1 _))
  show wpAny _ _ (ret (.ref it)) _ _ s
  exact wpAny_pure ⟨_, rfl, "dict_valueiterator", _, hT, PySem.F.slot_dict_valueiterator_next.lookup, h⟩
theorem iter_vals {r : Addr} (hr : S.σ r = some (valsO d)) (ha : S.σ d = some (.dict kvs ep)) : Iterable g c (.ref r) (kvs.map fun p => p.2) (fun S => S.σ d = some (.dict kvs ep)) S := by
 intro H s u hu R
 obtain rfl := zH hu
 refine zD (R.dict ha) ?_; intro ks ob' h1 h2 h3
 refine zB (R.raw hr) ?_; intro obv h4 h5
 subst h5
 have hl : ks.length = kvs.length := by rw [← h3, List.length_map]
 exact wpAny_pyIter_values ⟨_, h4, rfl, rfl⟩ h2 ⟨_, _, itVals g d kvs ep, rfl, R.free_hid (zG _), ⟨rfl, by rw [hl]; rfl⟩, R.hide (tk := s.toks) (Heap.ExtBut.push (Heap.ExtBut.refl _ _) _) (zG _) (Heap.get?_push_size _ rfl)⟩
variable {P : Str -> Bool} {n : Nat}
theorem Rel.set {H : Hid} {s : Shared} (R : Rel g c H S s) (ha : S.σ a = some (.set P n)) : s.heap.SetOf g.knd a P n := by
 refine el_EAEEE (R.sto a _ ha) ?_; intro ob h1 es ep t h2
 exact ⟨ob, es, ep, t, h1, h2⟩
theorem WC_set0 (h : ∀ r, S.σ r = none -> Q (.ref r) ⟨S.m, upd S.σ r (.set (fun _ => false) 0)⟩) : WC g c (.type "set") [] S Q := by
 intro us hus H s R
 o_shape
 obtain rfl := map0 hus
 refine call_set_0 fun led => ?_
 refine zL (R.add (tk := s.toks) (h' := s.heap.push { cls := .type "set", dict := none, data := .set #[] 0 (.fresh 0 0 led) }) (o := .set (fun _ => false) 0) (Heap.ExtBut.push (Heap.ExtBut.refl _ _) _) (zG _) (Heap.get?_push_size _ rfl)
  (by (refine el_AEEEAAAA ((setObjOf_fresh (knd := g.knd) led)) ?_; intro h0 es ep t a1 a2 a3 a4 a5); exact ⟨es, ep, t, h0, a1, a2, a3, by rw [a4]; decide, a5, a4⟩)) ?_
 intro hn R2
 exact ⟨_, R2, h _ hn⟩
theorem WCmp_inS (K : KeyOk g kv) (ha : S.σ a = some (.set P n)) (h : Q (.bool (P k)) S) : WCmp g c .In (kv k) (.ref a) S Q := by
 intro u v hu hv H s R
 o_shape
 obtain rfl := zH hv
 exact wpAny_inSet_of (K.is k u hu) (K.sc k u hu) (R.set ha) ⟨S, R.toks, h⟩
theorem WGM_setAdd (ha : S.σ a = some (.set P n)) {Q : Value -> List Value -> St Str -> Prop} (h : Q (.builtin "set.add") [.ref a] S) : WGM g c (.ref a) (ofString "add") S Q := by
 intro u pl hu H s R
 o_shape
 obtain rfl := zH hu
 exact getMethod_set_add (R.set ha) ⟨S, R, h⟩
theorem WC_setAdd (K : KeyOk g kv) (ha : S.σ a = some (.set P n)) (hz : n + 1 < scanBound) (h : Q .none ⟨S.m, upd S.σ a (.set (fun k' => P k' || decide (k' = k)) (if P k then n else n + 1))⟩) : WC g c (.builtin "set.add") [.ref a, kv k] S Q := by
 intro us hus H s R
 o_shape
 refine zD (map2 hus) ?_; intro u v rfl_143 hu hv; subst rfl_143
 obtain rfl := zH hu
 refine call_set_add (K.is k v hv) (K.sc k v hv) (R.set ha) hz fun h' hs hS => ?_
 refine el_EEEEA hS ?_; (try clear hS); intro ob es ep t h1 h2
 exact ⟨_, R.put (tk := s.toks + 1) (o := .set (fun k' => P k' || decide (k' = k)) (if P k then n else n + 1)) hs.extBut ha h1 ⟨es, ep, t, h2⟩, h⟩
end
theorem Ac.Deep.in1 {n : Nat} (hd : c.Deep (n + 1)) : Ac.Deep ⟨c.A.in1, c.env, c.ext⟩ n := by
 unfold Ac.Deep at *
 simp only [Around.in1_depth, Around.in1_units]
 lia
theorem WD_defB {f : Addr} {as : List Value} {body : List Stmt} {scope : Scope} {fd : FuncData} {n : Nat} (hd : c.Deep (n + 1)) (F : FnIs g.K f body scope fd) (hsc : scopeOk scope = true) (Post : List (Str × Value) -> (Addr -> Option (AO Str)) -> Prop)
  (hbind : ∀ us, us.map er = as -> WM g ⟨c.A.in1, c.env, c.ext⟩ (bindArgs fd ⟨us, []⟩) S fun bs S1 => S1.m = S.m /\ Post (bs.map fun p => (p.1, er p.2)) S1.σ)
  (hkind : ∀ B σ, Post B σ -> (B.all fun y => scope.names.lookup y.1 == some .local || scope.names.lookup y.1 == some .cell) = true)
  (h : ∀ B σ, Post B σ -> ∀ c' : Ac, c'.env.scope = scope -> c'.ext = (fun _ => false) -> c'.Deep n -> WXs g c' body ⟨bindM B fun _ => none, σ⟩ fun fl S' => Q (retV fl) ⟨S.m, S'.σ⟩) : WD g c (.ref f) as S Q := by
 intro us hus H s R
 o_shape
 refine el_EEE F.at_ ?_; intro oc od osl ho
 obtain ⟨k1, k2, k3⟩ : scope.kind = .function /\ scope.isCoroutine = false /\ scope.isGenerator = false := by
  simp only [scopeOk, Bool.and_eq_true, beq_iff_eq, Bool.not_eq_true'] at hsc
  exact ⟨hsc.1.1.1, hsc.1.1.2, hsc.1.2⟩
 have hfs := F.scope
 have hd1 : Ac.Deep ⟨c.A.in1, c.env, c.ext⟩ 0 := (hd.in1).less (Nat.zero_le _)
 refine codeAny_call_function R.room (R.in_K _ _ ho) rfl (by rw [hfs]; exact k2) (by rw [hfs]; exact k3) F.body (codeRec_of R.in_K F.cd) ?_
 refine goK (hbind us hus H s (R.around (R.ac.around R.ac.hd hd1))) (fun bs s1 S1 R1' q_ => ?_)
 refine zL q_ ?_; clear q_; intro hm post
 have R1 : Rel g c H S1 s1 := R1'.unaround R.ac
 rw [F.clo]
 refine wpAny_newFunctionEnv_cells (by rw [hfs]; exact k1) (fun y hy => ?_) fun env he s' x => ?_
 ·rw [hfs]
  have := List.all_eq_true.mp (hkind _ _ post) (y.1, er y.2) (List.mem_map.mpr ⟨y, hy, rfl⟩)
  rcases Bool.or_eq_true_iff.mp this with q | q
  ·exact .inl (by simpa using q)
  have q' : scope.names.lookup y.1 = some .cell := by simpa using q
  exact .inr ⟨q', cellsFrom_some _ _ _ (.inl q')⟩
 subst he
 refine zB (enter R1 hd hsc hfs F.gl F.bl (f := f) (bs := bs) x) ?_; intro H' R' back
 refine ⟨R1.nolimit.keeps x.toInCall.keep, codeAny_func ?_⟩
 refine goK (h _ _ post ⟨c.A.deeper (callEnvC fd s1.heap.objs.size f), callEnvC fd s1.heap.objs.size f, fun _ => false⟩ hfs rfl ?_ H' s' R') (fun fl s'' S' R2 q => ?_)
 ·unfold Ac.Deep at hd ⊢
  simp only [Around.deeper]
  exact om01 ‹_›
 refine ⟨⟨S.m, S'.σ⟩, ?_, ?_⟩
 ·have := back S' s'' R2
  rwa [hm] at this
 cases fl <;> exact q
theorem WD_defP {f : Addr} {as : List Value} {B : List (Str × Value)} {body : List Stmt} {scope : Scope} {fd : FuncData} {n : Nat} (hd : c.Deep (n + 1)) (F : FnIs g.K f body scope fd) (hsc : scopeOk scope = true)
  (hbind : ∀ us, us.map er = as -> ∃ bs, peek g.K ⟨g.prog, g.w.params⟩ (bindArgs fd ⟨us, []⟩) = some bs /\ bs.map (fun p => (p.1, er p.2)) = B)
  (hkind : (B.all fun y => scope.names.lookup y.1 == some .local || scope.names.lookup y.1 == some .cell) = true)
  (h : ∀ c' : Ac, c'.env.scope = scope -> c'.ext = (fun _ => false) -> c'.Deep n -> WXs g c' body ⟨bindM B fun _ => none, S.σ⟩ fun fl S' => Q (retV fl) ⟨S.m, S'.σ⟩) : WD g c (.ref f) as S Q := by
 refine WD_defB hd F hsc (fun B' σ => B' = B /\ σ = S.σ) (fun us hus H s R => ?_) (fun B' σ e => by rw [e.1]; exact hkind) (fun B' σ e => by rw [e.1, e.2]; exact h)
 refine zB (hbind us hus) ?_; intro bs h1 h2
 exact (Looks.of_peek (M := model g.prog g.w) R.in_K h1).here ⟨S, R, rfl, h2, rfl⟩
theorem WD_defS {f : Addr} {as restE : List Value} {B : Addr -> List (Str × Value)} {body : List Stmt} {scope : Scope} {fd : FuncData} {n : Nat} (hd : c.Deep (n + 1)) (F : FnIs g.K f body scope fd) (hsc : scopeOk scope = true)
  (hbind : ∀ us, us.map er = as -> ∃ (rest : List Value) (bs : Addr -> List (Str × Value)) (gg : Addr -> Option (List (Str × Value))), peek1 g.K ⟨g.prog, g.w.params⟩ (bindArgs fd ⟨us, []⟩) = some (({ cls := .type "tuple", data := .seq rest.toArray } : Obj), gg) /\ (∀ D, gg D = some (bs D)) /\ rest.map er = restE /\ ∀ D, (bs D).map (fun p => (p.1, er p.2)) = B D)
  (hkind : ∀ D, ((B D).all fun y => scope.names.lookup y.1 == some .local || scope.names.lookup y.1 == some .cell) = true)
  (h : ∀ D, S.σ D = none -> ∀ c' : Ac, c'.env.scope = scope -> c'.ext = (fun _ => false) -> c'.Deep n -> WXs g c' body ⟨bindM (B D) fun _ => none, upd S.σ D (.tup restE)⟩ fun fl S' => Q (retV fl) ⟨S.m, S'.σ⟩) : WD g c (.ref f) as S Q := by
 refine WD_defB hd F hsc (fun B' σ => ∃ D, S.σ D = none /\ B' = B D /\ σ = upd S.σ D (.tup restE)) (fun us hus H s R => ?_) (fun B' σ ⟨D, _, e, _⟩ => by rw [e]; exact hkind D) (fun B' σ ⟨D, hD, e, e'⟩ => by rw [e, e']; exact h D hD)
 refine zN (hbind us hus) ?_; intro rest bs gg h1 h2 h3 h4
 refine zJ R.led ?_; intro m F' N' hl
 refine wp_of_peek1 F' N' R.in_K rfl (r := bs) (fun D h' F'' N'' l => ?_) _ gg h1 h2
 have hDn : s.heap.get? D = none := by
  cases z : s.heap.get? D with
  | none => rfl
  | some o =>
   exfalso
   have := (N'' _ (.head _)).2
   by_cases q : D = c.env.locals
   ·exact this.1 q
   exact absurd (l (D, o) (zX.mpr ⟨⟨q, this.2⟩, z⟩)) (Nat.lt_irrefl _)
 refine zL (R.backNew (tk := s.toks) (a := D) (o := .tup restE) hl F'' N'' hDn (Is.tup (by simpa using h3))) ?_; intro hn R2
 exact ⟨_, R2, rfl, D, hn, h4 D, rfl⟩
section
open Sem (wp)
namespace LI
theorem slot_ga : Slot "list_iterator" "__getattribute__" "object.__getattribute__" :=
 .of (owner := "object") (n := "__getattribute__") (by rw [typeLookup_type, builtinLookup_eq_fast]; kernel_rfl) (by decide +kernel) (by decide +kernel) (by decide +kernel)
  (by first | exact .inl (by decide +kernel) | exact .inr (by decide +kernel)) (by rw [isSubtype_type]; kernel_rfl)
theorem lk_next : typeLookup (.type "list_iterator") "__next__" = pure (some (.builtin "list_iterator.__next__")) := by rw [typeLookup_type, builtinLookup_eq_fast]; kernel_rfl
theorem typeOf_next : typeOf (.builtin "list_iterator.__next__") = pure (.type "wrapper_descriptor") := by show builtinType _ = _; rw [builtinType_eq_fast]; kernel_rfl
theorem slot_wd_get : Slot "wrapper_descriptor" "__get__" "wrapper_descriptor.__get__" :=
 .of (owner := "wrapper_descriptor") (n := "__get__") (by rw [typeLookup_type, builtinLookup_eq_fast]; kernel_rfl) (by decide +kernel) (by decide +kernel) (by decide +kernel)
  (by first | exact .inl (by decide +kernel) | exact .inr (by decide +kernel)) (by rw [isSubtype_type]; kernel_rfl)
theorem entry_wd_get : entryFor table "wrapper_descriptor.__get__" = some Builtin.«wrapper_descriptor.__get__» := entryFor_of_tree (by kernel_rfl)
theorem args_wd_get (a b c : Value) : argsOk "wrapper_descriptor.__get__" ⟨[a, b, c], []⟩ := by unfold argsOk; kernel_rfl
theorem lk_wd_set : typeLookup (.type "wrapper_descriptor") "__set__" = pure none := by rw [typeLookup_type, builtinLookup_eq_fast]; kernel_rfl
theorem lk_wd_del : typeLookup (.type "wrapper_descriptor") "__delete__" = pure none := by rw [typeLookup_type, builtinLookup_eq_fast]; kernel_rfl
theorem sub_owner : isSubtype (.type "list_iterator") (.type (".".intercalate ("list_iterator.__next__".cutAt '.').dropLast)) = pure true := by
 have e0 : "list_iterator.__next__".cutAt '.' = ["list_iterator", "__next__"] := by first | rfl | decide +kernel
 rw [e0, isSubtype_type]; kernel_rfl
theorem entry_ga : entryFor table "object.__getattribute__" = some Builtin.«object.__getattribute__» := entryFor_of_tree (by kernel_rfl)
theorem args_ga (a b : Value) : argsOk "object.__getattribute__" ⟨[a, b], []⟩ := by unfold argsOk; kernel_rfl
end LI
noncomputable abbrev mwObj (it : Addr) : Obj := { cls := .type "method-wrapper", data := .fields #[.builtin "list_iterator.__next__", .ref it] }
section
variable {prog : Program} {w : World} {A : Around} {E : Value -> Shared -> Prop} {h : Heap} {g : Array GenState} {d : Drawn} {t : Nat} {os : OsState} {a : Addr} {vs : Array Value}
theorem next_get {R : Result -> Shared -> Prop} (hx : h.get? a = some { cls := .type "list_iterator", data := .fields vs }) (hq : R (.ok (.ret (.ref h.objs.size))) ⟨h.push (mwObj a), g, d, t, os⟩) :
  codeAny (model prog w) A (.call (.builtin "wrapper_descriptor.__get__") ⟨[.builtin "list_iterator.__next__", .ref a, .type "list_iterator"], []⟩) R ⟨h, g, d, t, os⟩ := by
 have hT : (⟨h, g, d, t, os⟩ : Shared).TypeIs (.ref a) "list_iterator" := ⟨_, hx, rfl⟩
 have hT5 : (⟨h, g, d, t, os⟩ : Shared).TypeIs (.builtin "list_iterator.__next__") "wrapper_descriptor" := LI.typeOf_next
 refine codeAny_call_builtin LI.slot_wd_get.plain LI.entry_wd_get (LI.slot_wd_get.check _ _ _ _ _ _ _ _ hT5 (LI.args_wd_get _ _ _) ?_)
 have L0 : Looks (model prog w) h (typeOf (.ref a)) (.type "list_iterator") := (Looks.ld hx).andThen .now
 have f8 := LI.sub_owner
 repeat (any_goals (first | assumption | wp_step))
theorem next_entry {tk : Tok} {Q : Fin -> Shared -> Prop} (hx : h.get? a = some { cls := .type "list_iterator", data := .fields vs }) (hq : Q (.done (.ret (.ref h.objs.size))) ⟨h.push (mwObj a), g, d, t, os⟩) :
  wpAny (model prog w) A (Builtin.«object.__getattribute__» ⟨[.ref a, .str "__next__" tk], []⟩) Q E ⟨h, g, d, t, os⟩ := by
 have hT : (⟨h, g, d, t, os⟩ : Shared).TypeIs (.ref a) "list_iterator" := ⟨_, hx, rfl⟩
 have hT5 : (⟨h, g, d, t, os⟩ : Shared).TypeIs (.builtin "list_iterator.__next__") "wrapper_descriptor" := LI.typeOf_next
 have f4 := LI.lk_next
 have f5 := LI.typeOf_next
 have f6 := LI.slot_wd_get.lookup
 have f7 := LI.lk_wd_set
 have f8 := LI.lk_wd_del
 repeat (any_goals (first | assumption | wp_step))
 refine next_get hx ?_
 repeat (any_goals (first | assumption | wp_step))
theorem next_by {tk : Tok} {b : Bool} {Q : Value -> Shared -> Prop} (hx : h.get? a = some { cls := .type "list_iterator", data := .fields vs }) (hq : Q (.ref h.objs.size) ⟨h.push (mwObj a), g, d, t, os⟩) :
  wpAny (model prog w) A (getAttrBy (.ref a) (.str "__next__" tk) true b) Q E ⟨h, g, d, t, os⟩ := by
 have hT : (⟨h, g, d, t, os⟩ : Shared).TypeIs (.ref a) "list_iterator" := ⟨_, hx, rfl⟩
 have f2 := LI.slot_ga.lookup
 have f3 := LI.slot_ga.bind (.ref a)
 repeat (any_goals (first | assumption | wp_step))
 rw [show (b && onTheHeap (Value.builtin "object.__getattribute__")) = false by cases b <;> rfl, if_neg Bool.false_ne_true]
 unfold boundAndCalled
 repeat (any_goals (first | assumption | wp_step))
 refine codeAny_call_builtin LI.slot_ga.plain LI.entry_ga (LI.slot_ga.check _ _ _ _ _ _ _ _ hT (LI.args_ga _ _) (next_entry hx ?_))
 repeat (any_goals (first | assumption | wp_step))
theorem mw_call {p it : Addr} {s : Shared} {R : Result -> Shared -> Prop} (ho : s.heap.get? p = some (mwObj it)) (h : codeAny (model prog w) A (.builtin "list_iterator.__next__" ⟨[.ref it], []⟩) R s) :
  codeAny (model prog w) A (.call (.ref p) ⟨[], []⟩) R s := by
 refine codeAny_of_tree ?_
 show wpAny _ _ (callAny (.ref p) _) _ _ _
 refine nd_load ho ?_
 show wpAny _ _ (checkBoundCall "list_iterator.__next__" ⟨[.ref it], []⟩ >>= fun _ => again (.builtin "list_iterator.__next__" ⟨[.ref it], []⟩)) _ _ _
 refine wpAny_bind (m := checkBoundCall "list_iterator.__next__" ⟨[.ref it], []⟩) (wpAny_of_eq (a := ()) (by kernel_rfl) ?_)
 exact wpAny_pure ⟨Code.quiet_builtin _ (by decide +kernel), h⟩
theorem next_item {s : Shared} {it l : Addr} {i : Nat} {items} {x : Value} {Q : Fin -> Shared -> Prop} (hit : s.heap.IsListIter it l i) (hl : s.heap.IsList l items) (hx : items[i]? = some x)
  (hQ : ∀ h', h'.IsListIter it l (i + 1) -> Heap.SameBut it s.heap h' -> Q (.done (.ret x)) { s with heap := h' }) : wpAny (model prog w) A (Builtin.«list_iterator.__next__» ⟨[.ref it], []⟩) Q E s := by
 refine zJ (id hit) ?_; intro o ho hc hd
 refine el_EAAE hl ?_; (try clear hl); intro ol hol _ nl hdl
 show wpAny _ _ (field (.ref it) 0 >>= _) _ _ s
 refine wpAny_bind (wpAny_field ho hd (x := .ref l) rfl ?_)
 show wpAny _ _ (if (Value.ref l == Value.none) = true then _ else _) _ _ s
 rw [if_neg (show ¬ ((Value.ref l == Value.none) = true) from Bool.false_ne_true)]
 show wpAny _ _ (field (.ref it) 1 >>= _) _ _ s
 refine wpAny_bind (wpAny_field ho hd (x := .int i 0) rfl ?_)
 show wpAny _ _ (seqItems? (.ref l) >>= _) _ _ s
 refine wpAny_bind (wpAny_seqItems hol hdl ?_)
 simp only [Int.toNat_natCast, hx]
 refine wpAny_bind (wpAny_setField ho hd (by simp) (wpAny_pure (hQ _ ?_ (Heap.SameBut.update ..))))
 exact ⟨_, Heap.get?_update_self _ ho (Obj.isFreed_of_fields (Obj.data_mapFields hd _)), (Obj.cls_mapFields ..).trans hc, by
  rw [Obj.data_mapFields hd]; simp [rawInt]⟩
theorem next_end {s : Shared} {it l : Addr} {i : Nat} {items} {Q : Fin -> Shared -> Prop} (hh : A.handled = none) (hit : s.heap.IsListIter it l i) (hl : s.heap.IsList l items) (hx : items[i]? = none)
  (hE : ∀ h' e vs, (∀ b o, b ≠ it -> s.heap.get? b = some o -> h'.get? b = some o) -> (∃ ob, h'.get? it = some ob) -> s.heap.get? e = none -> h'.get? e = some { cls := .type "StopIteration", data := .fields vs } -> vs[1]? = some .none -> E (.ref e) { s with heap := h' }) :
  wpAny (model prog w) A (Builtin.«list_iterator.__next__» ⟨[.ref it], []⟩) Q E s := by
 refine zJ (id hit) ?_; intro o ho hc hd
 refine el_EAAE hl ?_; (try clear hl); intro ol hol _ nl hdl
 show wpAny _ _ (field (.ref it) 0 >>= _) _ _ s
 refine wpAny_bind (wpAny_field ho hd (x := .ref l) rfl ?_)
 show wpAny _ _ (if (Value.ref l == Value.none) = true then _ else _) _ _ s
 rw [if_neg (show ¬ ((Value.ref l == Value.none) = true) from Bool.false_ne_true)]
 show wpAny _ _ (field (.ref it) 1 >>= _) _ _ s
 refine wpAny_bind (wpAny_field ho hd (x := .int i 0) rfl ?_)
 show wpAny _ _ (seqItems? (.ref l) >>= _) _ _ s
 refine wpAny_bind (wpAny_seqItems hol hdl ?_)
 simp only [Int.toNat_natCast, hx]
 refine wpAny_bind (wpAny_rule (wpAny_bind (wpAny_setField ho hd (by simp) ?_)))
 show wpAny _ _ (newExc (.type "StopIteration") [] >>= _) _ _ _
 refine wpAny_bind ?_
 simp only [newExc, newTuple]
 refine wpAny_bind (wpAny_newObj_type ?_ (by size_fits))
 refine wpAny_bind (m := firstArgMember _ _) (wpAny_of_eq (a := Value.none) (by first | rfl | (simp only [firstArgMember]; rfl)) ?_)
 refine wpAny_newObj_type ?_ (by size_fits)
 simp only [raiseNew]
 refine wpAny_bind (wpAny_handled ?_)
 rw [hh]
 have hu : ∀ b o, b ≠ it -> s.heap.get? b = some o -> (s.heap.update it (Obj.mapFields (·.setIfInBounds 0 .none))).get? b = some o := fun b o hb e => (Heap.get?_update_other _ _ (Ne.symm hb)).trans e
 refine wpAny_bind (wpAny_pure (wpAny_throw (hE _ _ _ (fun b o hb e => ?_) ?_ ?_ (Heap.get?_push_size _ rfl) (by kernel_rfl))))
 ·exact Heap.get?_push_of_some _ (Heap.get?_push_of_some _ (hu b o hb e))
 ·exact ⟨_, Heap.get?_push_of_some _ (Heap.get?_push_of_some _ (Heap.get?_update_self _ ho (Obj.isFreed_of_fields (Obj.data_mapFields hd _))))⟩
 refine Heap.get?_none_of_le ?_
 rw [Heap.size_push, Heap.size_after_update]; exact Nat.le_succ _
end
noncomputable def litO (l : Addr) (i : Nat) : AO Str := .raw fun ob => ob.cls = .type "list_iterator" /\ ob.data = .fields #[.ref l, .int i 0]
noncomputable def mwO (it : Addr) : AO Str := .raw fun ob => ob = mwObj it
noncomputable def litX (l : Addr) : AO Str := .raw fun ob => ob = { cls := .type "list_iterator", data := .fields #[.ref l, .int 0 0] }
theorem WC_iter {l : Addr} (hl : S.σ l = some (.list xs)) (h : ∀ it, S.σ it = none -> Q (.ref it) ⟨S.m, upd S.σ it (litX l)⟩) : WC g c (.builtin "iter") [.ref l] S Q := by
 intro us hus H s R
 o_shape
 refine zB (z3 hus) ?_; intro u rfl_152 hu; subst rfl_152
 obtain rfl := zH hu
 refine zE (R.list hl) ?_; intro arr n h1 h2 h3 h4
 refine call_function_entry (by decide +kernel) (by decide +kernel) kdk_entry_iter (kdk_args_iter _) ?_
 unfold Builtin.«iter»
 refine wpAny_bind (m := someArgs "iter" 1 2 _) (wpAny_of_eq (a := [Value.ref l]) (by first | rfl | kernel_rfl!) ?_)
 show wpAny _ _ (pyIter (.ref l) >>= _) _ _ _
 refine wpAny_bind (wpAny_pyIter_list h2 (wpAny_pure ⟨_, rfl, ?_⟩))
 refine zL (R.add (tk := s.toks) (h' := s.heap.push { cls := .type "list_iterator", data := .fields #[.ref l, .int 0 0] }) (o := litX l) (Heap.ExtBut.push (Heap.ExtBut.refl _ _) _) (zG _) (Heap.get?_push_size _ rfl) rfl) ?_; intro hn R3
 exact ⟨_, R3, h _ hn⟩
theorem WGet_next {it l : Addr} (hi : S.σ it = some (litX l)) (h : ∀ mw, S.σ mw = none -> Q (.ref mw) ⟨S.m, upd (upd S.σ it (litO l 0)) mw (mwO it)⟩) : WGet g c (.ref it) (ofString "__next__") S Q := by
 intro u b hu H s R
 o_shape
 obtain rfl := zH hu
 refine zB (R.raw hi) ?_; intro ob h1 rfl_151; subst rfl_151
 obtain ⟨hp, gn, dr, tk, os⟩ := s
 have R1 := R.put (tk := tk) (h' := hp) (o := litO l 0) (Heap.ExtBut.refl _ _) hi h1 ⟨rfl, rfl⟩
 refine wpAny_bind (wpAny_mkText (next_by h1 ?_))
 refine zL (R1.add (tk := tk + 1) (h' := hp.push (mwObj it)) (o := mwO it) (Heap.ExtBut.push (Heap.ExtBut.refl _ _) _) (zG _) (Heap.get?_push_size _ rfl) rfl) ?_; intro hn' R3
 have hn2 : S.σ hp.objs.size = none := by
  have e : upd S.σ it (litO l 0) hp.objs.size = none := hn'
  unfold upd at e
  split at e
  ·exact Mine.sn e
  exact e
 exact ⟨_, R3, h _ hn2⟩
theorem WE_Attr {value : Expr} {attr : Str} {pos : Pos} (he : ∀ env, eval (.Attribute value attr pos) env = (do
   let o ← eval value env
   standAt pos.atName
   let r ← holding [o] (getAttr o attr true)
   letTemporaryGo value o r
   pure r)) (h : WE g c value S fun v S1 => WGet g c v attr S1 Q) : WE g c (.Attribute value attr pos) S Q :=
 fun H s R => Attribute_any_ (goK (h H s R) (fun _ _ _ R1 hJ => hJ _ true rfl H _ R1)) (he _)
theorem WX_AssignAttr {o e : Expr} {x : Str} {p pos : Pos} {Q : Flow -> St Str -> Prop} (hs : ∀ env, swapsWith e (some (.Attribute o x p)) pos.line env = pure false)
  (h : WE g c e S fun v S1 => WE g c o S1 fun ov S2 => WSet g c ov x v S2 (Q .next)) : WX g c (.Assign [.Attribute o x p] e pos) S Q := by
 intro H s R
 o_shape
 exact plainObj_wpAny_Assign_Attribute (goK (h H s R) (fun _ _ _ R1 hJ => goK (hJ H _ R1) (fun _ _ _ R2 hV => hV _ _ rfl rfl H _ R2))) (hs _)
end
section
open Sem (wp)
structure UpTo (F : List Addr) (H H' : Hid) : Prop where
 gens : H'.gens = H.gens
 out : ∀ b, b ∉ F -> H'.objs b = H.objs b
 in_ : ∀ b, b ∈ F -> ∃ o sl, H.objs b = some o /\ H'.objs b = some { o with slots := sl }
section
variable {F : List Addr} {H H' H'' : Hid} {s : Shared}
theorem UpTo.trans (x : UpTo F H H') (y : UpTo F H' H'') : UpTo F H H'' where
 gens := y.gens.trans x.gens
 out b hb := (y.out b hb).trans (x.out b hb)
 in_ b hb := by
  refine zg (x.in_ b hb) ?_; intro o sl h1 h2
  refine zg (y.in_ b hb) ?_; intro o' sl' h3 h4
  rw [h2] at h3; (replace h3 := Option.some.inj h3; subst h3)
  exact ⟨o, sl', h1, h4⟩
structure FrOk (g : Gl Str) (c : Ac) (F : List Addr) (H : Hid) : Prop where
 fr : ∃ outer, c.A.frames = some (c.env :: outer) /\ outer.filterMap (·.frame) = F /\ ∀ env ∈ outer, env.scope.kind ≠ .module /\ ∃ L, env.frame = some L /\ L ∈ F
 me : c.env.frame = some c.env.locals
 hid : ∀ L ∈ F, ∃ o, H.objs L = some o /\ (∀ vs, o.data ≠ .fields vs) /\ g.hU.get? L = none
theorem FrOk.refl (x : FrOk g c F H) : UpTo F H H := ⟨rfl, fun _ _ => rfl, fun b hb => let ⟨o, h1, _⟩ := x.hid b hb; ⟨o, o.slots, h1, h1⟩⟩
theorem FrOk.upTo (x : FrOk g c F H) (y : UpTo F H H') : FrOk g c F H' := ⟨x.fr, x.me, fun L hL => by
 refine zJ (x.hid L hL) ?_; intro o h1 h2 h3
 refine zg (y.in_ L hL) ?_; intro o' sl h4 h5
 rw [h1] at h4; (replace h4 := Option.some.inj h4; subst h4)
 exact ⟨_, h5, h2, h3⟩⟩
theorem FrOk.put (x : FrOk g c F H) {ob : Obj} (ha : H.objs a = none) : FrOk g c F (H.put a ob) := ⟨x.fr, x.me, fun L hL => by
 refine zJ (x.hid L hL) ?_; intro o h1 h2 h3
 refine ⟨o, ?_, h2, h3⟩
 unfold Hid.put
 dsimp only
 rw [if_neg (by rintro rfl; rw [ha] at h1; exact Mine.ns h1)]; exact h1⟩
theorem FrOk.not (x : FrOk g c F H) (ha : H.objs a = none) : a ∉ F := fun h => by
 refine zB (x.hid a h) ?_; intro o h1 _
 rw [ha] at h1; exact Mine.ns h1
theorem UpTo.put_cut {ob : Obj} (ha : a ∉ F) (hH : H.objs a = none) (x : UpTo F (H.put a ob) H') : UpTo F H (H'.cut a) /\ H' = (H'.cut a).put a ob := by
 have e : H'.objs a = some ob := (x.out a ha).trans (H.put_self a ob)
 refine ⟨⟨x.gens, fun b hb => ?_, fun b hb => ?_⟩, ?_⟩
 ·unfold Hid.cut
  dsimp only
  split
  ·rename_i q; rw [q, hH]
  rename_i q
  rw [x.out b hb]
  exact if_neg q
 ·have q : b ≠ a := fun q => ha (q ▸ hb)
  refine zg (x.in_ b hb) ?_; intro o sl h1 h2
  refine ⟨o, sl, ?_, ?_⟩
  ·have : (H.put a ob).objs b = H.objs b := if_neg q
   rw [← this]; exact h1
  exact (if_neg q).trans h2
 cases H' with
 | mk o gs =>
  unfold Hid.put Hid.cut
  congr 1
  funext b
  dsimp only
  split
  ·rename_i q; subst q; exact e
  rfl
theorem FrOk.kinds (x : FrOk g c F H) (R : Rel g c H S s) : ∃ outer, c.A.frames = some (c.env :: outer) /\ (c.env :: outer).filterMap (·.frame) = c.env.locals :: F /\ s.heap.FunFrames g.hU (c.env :: outer) := by
 refine zJ x.fr ?_; intro outer h1 h2 h3
 refine ⟨outer, h1, by rw [List.filterMap_cons, x.me, h2], ?_⟩
 have rest : ∀ l : List Env, (∀ env ∈ l, env.scope.kind ≠ .module /\ ∃ L, env.frame = some L /\ L ∈ F) -> s.heap.FunFrames g.hU l := by
  intro l
  induction l with
  | nil => intro _; trivial
  | cons env l ih =>
   intro h
   refine el_AEA (h env (.head _)) ?_; intro k1 L k2 k3
   refine zJ (x.hid L k3) ?_; intro o h4 h5 h6
   exact ⟨k1, ⟨L, o, k2, h6, R.hid L o h4, h5⟩, ih fun e he => h e (.tail _ he)⟩
 refine zB R.loc ?_; intro m hm hv
 refine Heap.FunFrames.cons (by rw [R.ac.kind]; decide) x.me hm ?_ (rest outer h3)
 exact Heap.get?_none_of_le R.above
theorem Rel.slotsOnly (R : Rel g c H S s) (Fo : FrOk g c F H) {h' : Heap} {tk : Tok} (x : Heap.SlotsOnly (c.env.locals :: F) s.heap h') : ∃ H', UpTo F H H' /\ Rel g c H' S { s with heap := h', toks := tk } := by
 refine zK R.role ?_; intro ρ r0 r1 r2 r3 r4
 have inF : ∀ b, b ∈ F -> ∃ o, H.objs b = some o /\ s.heap.get? b = some o := fun b hb => let ⟨o, h1, _⟩ := Fo.hid b hb; ⟨o, h1, R.hid b o h1⟩
 have same : ∀ b i, ρ b = i -> i ≠ 1 -> i ≠ 3 -> h'.get? b = s.heap.get? b := fun b i hb h1 h3 => x.2.1 b (by
  intro q
  rcases List.mem_cons.mp q with q | q
  ·rw [q, r1] at hb; exact h1 hb.symm
  ·(refine zB (inF b q) ?_; intro o e _)
   rw [r3 b o e] at hb; exact h3 hb.symm)
 refine ⟨⟨fun b => if b ∈ F then h'.get? b else H.objs b, H.gens⟩, ⟨rfl, fun b hb => if_neg hb, fun b hb => ?_⟩, ?_⟩
 ·(refine zB (inF b hb) ?_; intro o h1 h2)
  refine zI (x.2.2 b o h2) ?_; intro sl h3
  exact ⟨o, sl, h1, (if_pos hb).trans h3⟩
 refine { ok := R.ok, ac := R.ac, above := R.above, os := R.os, bare := R.bare, gen := R.gen, inj := R.inj, keep := ?_, hid := ?_, loc := ?_, cel := ?_, fre := ?_, sto := ?_, role := ⟨ρ, r0, r1, r2, fun b o e => ?_, r4⟩ }
 ·exact fun b o e => (same b 0 (r0 b o e) (by decide) (by decide)).trans (R.keep b o e)
 ·intro b o e
  dsimp only at e
  split at e
  ·exact e
  rename_i hb
  have hs := R.hid b o e
  refine (x.2.1 b fun q => ?_).trans hs
  rcases List.mem_cons.mp q with q | q
  ·have := r3 b o e; rw [q, r1] at this; cases this
  exact hb q
 ·(refine zB R.loc ?_; intro m nn_154 hv; obtain ⟨oL, es, ep, hL, hLd, hLk, hLf⟩ := nn_154)
  refine zI (x.2.2 _ _ hL) ?_; intro sl h3
  exact ⟨m, ⟨_, es, ep, h3, hLd, hLk, hLf⟩, hv⟩
 ·intro y b h1 h2
  refine zB (R.cel y b h1 h2) ?_; intro u nn_153 hu; obtain ⟨oc, hc, hd⟩ := nn_153
  exact ⟨u, ⟨oc, (same b 2 (r2 y b h1 h2) (by decide) (by decide)).trans hc, hd⟩, hu⟩
 ·intro y b h1 h2 v e
  refine zD (R.fre y b h1 h2 v e) ?_; intro ob u h3 h4 h5
  by_cases hb : b ∈ F
  ·(refine zI (x.2.2 b _ (R.hid b _ h3)) ?_; intro sl h6)
   exact ⟨_, u, (if_pos hb).trans h6, h4, h5⟩
  exact ⟨ob, u, (if_neg hb).trans h3, h4, h5⟩
 ·intro b o e
  refine zB (R.sto b o e) ?_; intro ob h1 h2
  exact ⟨ob, (same b 4 (r4 b o e) (by decide) (by decide)).trans h1, h2⟩
 dsimp only at e
 split at e
 ·rename_i hb
  refine zB (inF b hb) ?_; intro o' h1 _
  exact r3 b o' h1
 exact r3 b o e
theorem goF {g : Gl Str} {c : Ac} {F : List Addr} {H : Hid} {A : Around} {α : Type} {t : Sem α} {Q : α -> St Str -> Prop} {P : α -> Shared -> Prop} {E : Value -> Shared -> Prop} {s : Shared} (h : wpAny (model g.prog g.w) A t (fun u s1 => ∃ H1, UpTo F H H1 /\ ∃ S1, Rel g c H1 S1 s1 /\ Q u S1) (fun _ _ => False) s) (k : ∀ u s1 H1, UpTo F H H1 -> ∀ S1, Rel g c H1 S1 s1 -> Q u S1 -> P u s1) : wpAny (model g.prog g.w) A t P E s :=
 wpAny_mono h (fun u s1 q => q.elim fun H1 q => q.2.elim fun S1 r => k u s1 H1 q.1 S1 r.1 r.2) fun _ _ x => x.elim
theorem goU {A : Around} {M : Model} {F : List Addr} {H : Hid} {α : Type} {t : Sem α} {Q : α -> Hid -> Shared -> Prop} {P : α -> Shared -> Prop} {E : Value -> Shared -> Prop} {s : Shared} (h : wpAny M A t (fun u s1 => ∃ H1, UpTo F H H1 /\ Q u H1 s1) (fun _ _ => False) s) (k : ∀ u s1 H1, UpTo F H H1 -> Q u H1 s1 -> P u s1) : wpAny M A t P E s :=
 wpAny_mono h (fun u s1 q => q.elim fun H1 q => k u s1 H1 q.1 q.2) fun _ _ x => x.elim
noncomputable def WMF (g : Gl Str) (c : Ac) {α : Type} (t : Sem α) (S : St Str) (Q : α -> St Str -> Prop) : Prop :=
 ∀ F H s, FrOk g c F H -> Rel g c H S s -> wpAny (model g.prog g.w) c.A t (fun a s' => ∃ H', UpTo F H H' /\ ∃ S', Rel g c H' S' s' /\ Q a S') (fun _ _ => False) s
theorem WMF.of {α : Type} {t : Sem α} {Q : α -> St Str -> Prop} (h : WM g c t S Q) : WMF g c t S Q := fun F H s Fo R => wpAny_mono (h H s R) (fun _ _ q => ⟨H, Fo.refl, q⟩) fun _ _ x => x
theorem WMF.mono {α : Type} {t : Sem α} {Q Q' : α -> St Str -> Prop} (h : WMF g c t S Q) (hQ : ∀ a S', Q a S' -> Q' a S') : WMF g c t S Q' :=
 fun F H s Fo R => goF (h F H s Fo R) (fun _ _ H' u S' R' q => ⟨H', u, S', R', hQ _ _ q⟩)
theorem WMF.le {α : Type} {t : Sem α} {Q : α -> St Str -> Prop} (h : WMF g c t S' Q) (l : Le S' S) : WMF g c t S Q := fun F H s Fo R => h F H s Fo (R.le l.m l.s)
noncomputable def WXF (g : Gl Str) (c : Ac) (st : Stmt) (S : St Str) (Q : Flow -> St Str -> Prop) : Prop := WMF g c (exec st c.env) S fun f S' => Q (erF f) S'
noncomputable def WXsF (g : Gl Str) (c : Ac) (ss : List Stmt) (S : St Str) (Q : Flow -> St Str -> Prop) : Prop := WMF g c (execs ss c.env) S fun f S' => Q (erF f) S'
noncomputable def WEF (g : Gl Str) (c : Ac) (e : Expr) (S : St Str) (Q : Value -> St Str -> Prop) : Prop := WMF g c (eval e c.env) S fun v S' => Q (er v) S'
theorem WXF.of {st : Stmt} {Q : Flow -> St Str -> Prop} (h : WX g c st S Q) : WXF g c st S Q := WMF.of h
theorem WXsF.of {st : List Stmt} {Q : Flow -> St Str -> Prop} (h : WXs g c st S Q) : WXsF g c st S Q := WMF.of h
noncomputable abbrev SeqQF (g : Gl Str) (c : Ac) (ss : List Stmt) (Q : Flow -> St Str -> Prop) (f : Flow) (S1 : St Str) : Prop := match f with | .next => WXsF g c ss S1 Q | f => Q f S1
theorem WXsF_cons {st : Stmt} {ss : List Stmt} {Q : Flow -> St Str -> Prop} (h : WXF g c st S (SeqQF g c ss Q)) : WXsF g c (st :: ss) S Q := by
 intro F H s Fo R
 o_shape
 refine wpAny_execs_cons (goF (h F H s Fo R) (fun f s1 H1 u S1 R1 hJ => ?_))
 cases f with
 | next => exact goU (hJ F H1 s1 (Fo.upTo u) R1) (fun f s2 H2 ua q => ⟨H2, u.trans ua, q⟩)
 | brk => exact ⟨H1, u, S1, R1, hJ⟩
 | cont => exact ⟨H1, u, S1, R1, hJ⟩
 | ret v => exact ⟨H1, u, S1, R1, hJ⟩
theorem WXF_If {t : Expr} {b o : List Stmt} {pos : Pos} {Q : Flow -> St Str -> Prop} (h : WT g c t S fun x S1 => if x = true then WXsF g c b S1 Q else WXsF g c o S1 Q) : WXF g c (.If t b o pos) S Q := by
 intro F H s Fo R
 o_shape
 refine wpAny_If (goK (h H _ R) (fun x s1 S1 R1 hJ => ?_))
 cases x
 ·exact hJ F H _ Fo R1
 exact hJ F H _ Fo R1
theorem WXF_AssignName {x : Str} {p pos : Pos} {e : Expr} {Q : Flow -> St Str -> Prop} (hs : ∀ env, swapsWith e (some (.Name x p)) pos.line env = pure false) (h : WEF g c e S fun v S1 => WStore g c x v S1 (Q .next)) : WXF g c (.Assign [.Name x p] e pos) S Q :=
 fun F H _ Fo R => wpAny_Assign_Name (goF (h F H _ Fo R) (fun _ _ H1 u _ R1 hJ => wpAny_mono (hJ _ rfl H1 _ R1) (fun _ _ q => ⟨H1, u, q⟩) fun _ _ x => x)) (hs _)
theorem WXF_Return {e : Expr} {pos : Pos} {Q : Flow -> St Str -> Prop} (h : WEF g c e S fun v S1 => Q (.ret v) S1) : WXF g c (.Return (some e) pos) S Q := fun F H _ Fo R => wpAny_Return_some (h F H _ Fo R)
theorem WXF_While {test : Expr} {body orelse : List Stmt} {pos : Pos} {Q : Flow -> St Str -> Prop} (I : Nat -> St Str -> Prop) (n : Nat) (h0 : I n S)
  (turn : ∀ n S, I n S -> WT g c test S fun b S1 => if b = true then WXsF g c body S1 (WhileQ I n Q) else WXsF g c orelse S1 Q) : WXF g c (.While test body orelse pos) S Q := by
 intro F H s Fo R
 o_shape
 let II : Nat -> Shared -> Prop := fun k s' => ∃ H', UpTo F H H' /\ ∃ S', Rel g c H' S' s' /\ I k S'
 refine wpAny_While (codeAny_whileLoop II (fun k s' q_ => ?_) n ⟨H, Fo.refl, S, R, h0⟩)
 refine el_EAEA q_ ?_; clear q_; intro H' u S' R' hI
 refine goK (turn k S' hI H' s' R') (fun b s1 S1 R1 q => ?_)
 cases b with
 | false =>
  rw [if_neg Bool.false_ne_true] at q ⊢
  exact goU (q F H' s1 (Fo.upTo u) R1) (fun f s2 H2 ua q => ⟨H2, u.trans ua, q⟩)
 | true =>
  rw [if_pos rfl] at q ⊢
  refine goF (q F H' s1 (Fo.upTo u) R1) (fun f s2 H2 ua S2 R2 qc => ?_)
  cases f with
  | next => (refine zB qc ?_; (try clear qc); intro m hm hI); exact ⟨m, hm, H2, u.trans ua, S2, R2, hI⟩
  | cont => (refine zB qc ?_; (try clear qc); intro m hm hI); exact ⟨m, hm, H2, u.trans ua, S2, R2, hI⟩
  | brk => exact ⟨H2, u.trans ua, S2, R2, qc⟩
  | ret v => exact ⟨H2, u.trans ua, S2, R2, qc⟩
inductive ForFPost (g : Gl Str) (c : Ac) (target : Expr) (body : List Stmt) (orelse : List Stmt) (Q : Flow -> St Str -> Prop) (v : Value) (S1 : St Str) : Prop
 | mk (xs : List Value) (Ok : St Str -> Prop) (h_1 : Iterable g c v xs Ok S1) (Inv : Nat -> St Str -> Prop) (h_2 : Inv 0 S1) (h_3 : (∀ i S2, Inv i S2 -> Ok S2)) (h_4 : (∀ i x S2, xs[i]? = some x -> Inv i S2 -> WAsg g c target x S2 fun S3 => WXsF g c body S3 (ForQ Inv i Q))) (h_5 : ∀ S2, Inv xs.length S2 -> WXsF g c orelse S2 Q) : ForFPost g c target body orelse Q v S1
theorem WXF_For {target iter : Expr} {body orelse : List Stmt} {pos : Pos} {Q : Flow -> St Str -> Prop} (hs : ∀ env x, foldedSetIterable iter env x = pure x)
  (h : WE g c iter S (ForFPost g c target body orelse Q)) : WXF g c (.For target iter body orelse pos) S Q := by
 intro F H s Fo R
 o_shape
 refine wpAny_For (goK (h H s R) (fun u s1 S1 R1 q_ => ?_)) (fun x => hs _ x)
 obtain ⟨xs, Ok, hit, Inv, h0, hok, turn, fin⟩ := q_
 refine wpAny_mono (hit H s1 u rfl R1) (fun it s2 q_ => ?_) fun _ _ x => x.elim
 refine zN q_ ?_; clear q_; intro a ob sp e hfree hst R2
 subst e
 have haF := Fo.not hfree
 let II : Nat -> Shared -> Prop := fun k s' => ∃ i ob S' H', UpTo F H H' /\ H'.objs a = none /\ k + i = xs.length /\ sp.St_ i ob /\ Rel g c (H'.put a ob) S' s' /\ Inv i S'
 refine codeAny_forLoop_any II (fun k s' q_ => ?_) xs.length ⟨0, ob, S1, H, Fo.refl, hfree, by exact Nat.sub_zero _, hst, R2, h0⟩
 refine el_EEEEAAAAA q_ ?_; clear q_; intro i ob S' H' up hfree' hk hst R' hI
 have nocell : ∀ ob i, sp.St_ i ob -> ∀ u, ob.data = .cell u -> False := fun ob i h u e => sp.noCell i ob u h e
 have back : ∀ ob i S' s' (H' : Hid), H'.objs a = none -> sp.St_ i ob -> Rel g c (H'.put a ob) S' s' -> Rel g c H' S' s' := fun ob i S' s' H' hf hs R => by
  have := R.lose (tk := s'.toks) (H'.put_self a ob) (nocell ob i hs) (Heap.ExtBut.refl a s'.heap)
  rwa [H'.put_cut a ob hf] at this
 cases hx : xs[i]? with
 | none =>
  refine wpAny_mono (sp.done c _ S' s' a i ob (H'.put_self a ob) hst R' (hok i S' hI) hx) (fun r s3 q_ => ?_) fun _ _ x => x.elim
  refine zL q_ ?_; clear q_; intro e R3
  subst e
  rw [H'.put_cut a ob hfree'] at R3
  have : i = xs.length := by
   have := List.getElem?_eq_none_iff.mp hx; exact om05 ‹_› ‹_›
  subst this
  exact goU (fin S' hI F H' s3 (Fo.upTo up) R3) (fun f s4 H4 ud q => ⟨H4, up.trans ud, q⟩)
 | some x =>
  refine wpAny_mono (sp.next c _ S' s' a i ob x (H'.put_self a ob) hst R' (hok i S' hI) hx) (fun r s3 q_ => ?_) fun _ _ x => x.elim
  refine zE q_ ?_; clear q_; intro u ob' e hu hst' R3
  subst e
  rw [H'.put_put] at R3
  refine wpAny_mono (sp.lets c _ S' s3 a (i + 1) ob' target u (H'.put_self a ob') hst' R3) (fun _ s4 q_ => ?_) fun _ _ x => x.elim
  refine zB q_ ?_; clear q_; intro ob2 hst2 R4
  rw [H'.put_put] at R4
  refine goK (turn i x S' hx hI u hu _ s4 R4) (fun _ sa S5 R5 q => ?_)
  refine goF (q F _ sa ((Fo.upTo up).put hfree') R5) (fun f s6 H6 ue S6 R6 qd => ?_)
  have hlt : i < xs.length := (List.getElem?_eq_some_iff.mp hx).1
  refine zL (ue.put_cut haF hfree') ?_; intro uc e7
  have hf7 : (H6.cut a).objs a = none := if_pos rfl
  rw [e7] at R6
  cases f with
  | next => exact ⟨k - 1, by exact om06 ‹_› ‹_›, i + 1, ob2, S6, _, up.trans uc, hf7, by exact om03 ‹_› ‹_›, hst2, R6, qd⟩
  | cont => exact ⟨k - 1, by exact om06 ‹_› ‹_›, i + 1, ob2, S6, _, up.trans uc, hf7, by exact om03 ‹_› ‹_›, hst2, R6, qd⟩
  | brk => exact ⟨_, up.trans uc, S6, back ob2 _ S6 s6 _ hf7 hst2 R6, qd⟩
  | ret v => exact ⟨_, up.trans uc, S6, back ob2 _ S6 s6 _ hf7 hst2 R6, qd⟩
end
end
section
open Sem (wp)
section
variable {F : List Addr} {H H' H'' : Hid} {s : Shared}
theorem enterF (R : Rel g c H S s) (Fo : FrOk g c F H) {n : Nat} (hd : c.Deep (n + 1)) {f : Addr} {scope : Scope} {fd : FuncData} (hsc : scopeOk scope = true) (hfs : fd.scope = scope) (hgl : fd.globals = mainGlobals) (hbl : fd.builtins = builtinsNs)
  {bs : List (Str × Value)} {s1 : Shared}
  (x : InCallC s (callEnvC fd s.heap.objs.size f).locals (bindL (callEnvC fd s.heap.objs.size f).kindOf bs fun _ => none) (callEnvC fd s.heap.objs.size f).cells (bindC (callEnvC fd s.heap.objs.size f).kindOf bs fun _ => none) s1) :
  ∃ H', Rel g ⟨c.A.deeper (callEnvC fd s.heap.objs.size f), callEnvC fd s.heap.objs.size f, fun _ => false⟩ H' ⟨bindM (bs.map fun p => (p.1, er p.2)) fun _ => none, S.σ⟩ s1 /\
   FrOk g ⟨c.A.deeper (callEnvC fd s.heap.objs.size f), callEnvC fd s.heap.objs.size f, fun _ => false⟩ (c.env.locals :: F) H' /\ (∀ b o, H.objs b = some o -> H'.objs b = some o) /\
   (∀ H'', UpTo (c.env.locals :: F) H' H'' -> ∃ H2, UpTo F H H2 /\ (∀ e, H.objs e = none -> H2.objs e = none) /\
    ∀ (X X2 : Hid) S' s', (∀ b o, H''.objs b = some o -> X.objs b = some o) -> (∀ b o, X2.objs b = some o -> H2.objs b = some o ∨ (H''.objs b = none /\ H'.objs b = none /\ X.objs b = some o)) -> (∀ b o, H2.objs b = some o -> X2.objs b = some o) -> X.gens = H''.gens -> X2.gens = H2.gens ->
     Rel g ⟨c.A.deeper (callEnvC fd s.heap.objs.size f), callEnvC fd s.heap.objs.size f, fun _ => false⟩ X S' s' -> Rel g c X2 ⟨S.m, S'.σ⟩ s') := by
 refine zK R.role ?_; intro ρ r0 r1 r2 r3 r4
 refine zg x.done ?_; intro hJ tk rfl_158 hk; subst rfl_158
 subst hfs
 simp only [scopeOk, Bool.and_eq_true, beq_iff_eq, Bool.not_eq_true'] at hsc
 refine zL hsc ?_; (try clear hsc); intro nn_157 k4; obtain ⟨⟨k1, k2⟩, k3⟩ := nn_157
 refine zB R.loc ?_; intro m hm hv
 have hlt : ∀ b o, s.heap.get? b = some o -> b < s.heap.objs.size := fun b o e => Heap.lt_size e
 have cellLt : ∀ y a, (callEnvC fd s.heap.objs.size f).cells.lookup y = some a -> s.heap.objs.size < a := fun y a e => x.above y a (mem_of_lookup e)
 refine zN hm ?_; (try clear hm); intro oL es ep hL hLd hLk hLf
 refine ⟨⟨fun b => if ρ b = 1 ∨ ρ b = 2 then s.heap.get? b else H.objs b, H.gens⟩, ?_, ?_, fun b o e => (if_neg (by rw [r3 b o e]; decide)).trans e, ?_⟩
 ·refine { ok := R.ok, ac := ?_, above := ?_, os := R.os, bare := R.bare, gen := R.gen, keep := fun b o e => hk b o (R.keep b o e), hid := ?_, loc := ?_, cel := ?_, inj := ?_, fre := ?_, sto := ?_, role := ?_ }
  ·refine { kind := k1, gl := hgl, bl := hbl, hd := R.ac.hd, deep := ?_, cells := fun y hy => ?_, frees := fun y hy => absurd hy (no_free k4 y) }
   ·unfold Ac.Deep at hd ⊢
    simp only [Around.deeper]
    exact om02 ‹_›
   exact Option.isSome_iff_exists.mp (cellsFrom_some _ _ _ (.inl hy))
  ·exact Nat.le_trans R.above (Nat.le_of_lt (hlt _ _ hL))
  ·intro b o e
   dsimp only at e
   split at e
   ·exact hk b o e
   exact hk b o (R.hid b o e)
  ·exact ⟨_, x.toInCall.ns, fun y v e hy => (bindM_ok (kindOf := (callEnvC fd s.heap.objs.size f).kindOf) bs _ (fun _ => none) (fun _ => none) (fun _ _ e => by exact Mine.ns e) y v e).1 hy⟩
  ·intro y a ha hy
   refine ⟨_, x.cell y a ha, fun v e => ?_⟩
   refine zB ((bindM_ok (kindOf := (callEnvC fd s.heap.objs.size f).kindOf) bs _ (fun _ => none) (fun _ => none) (fun _ _ e => by cases e) y v e).2 hy.1) ?_; intro u e1 e2
   rw [e1]; exact congrArg some e2
  ·intro y z a h1 h2 _ _
   exact name_of_addr x.apart (mem_of_lookup h1) (mem_of_lookup h2)
  ·intro y a h1 h2
   exact Mine.ft h2
  ·intro a o e
   refine zB (R.sto a o e) ?_; intro ob h1 h2
   exact ⟨ob, hk _ _ h1, h2⟩
  refine ⟨fun b => if b = s.heap.objs.size then 1 else if s.heap.objs.size ≤ b then 2 else if ρ b = 0 then 0 else if ρ b = 4 then 4 else 3, fun b o e => ?_, if_pos rfl, fun y a h1 h2 => ?_, fun b o e => ?_, fun b o e => ?_⟩
  ·have := hlt b o (R.keep b o e)
   dsimp only
   rw [if_neg (Nat.ne_of_lt this), if_neg (Nat.not_le.mpr this), if_pos (r0 b o e)]
  ·have := cellLt y a h1
   dsimp only
   rw [if_neg (Nat.ne_of_gt this), if_pos (Nat.le_of_lt this)]
  ·have hz : b < s.heap.objs.size /\ ρ b ≠ 0 /\ ρ b ≠ 4 := by
    dsimp only at e
    split at e
    ·rename_i q
     refine ⟨hlt b o e, ?_, ?_⟩ <;> rcases q with q | q <;> rw [q] <;> decide
    refine ⟨hlt b o (R.hid b o e), ?_, ?_⟩ <;> rw [r3 b o e] <;> decide
   dsimp only
   rw [if_neg (Nat.ne_of_lt hz.1), if_neg (Nat.not_le.mpr hz.1), if_neg hz.2.1, if_neg hz.2.2]
  refine zB (R.sto b o e) ?_; intro ob h1 _
  have := hlt _ _ h1
  dsimp only
  rw [if_neg (Nat.ne_of_lt this), if_neg (Nat.not_le.mpr this), if_neg (by rw [r4 b o e]; decide), if_pos (r4 b o e)]
 ·(refine zJ Fo.fr ?_; intro outer f1 f2 f3)
  refine ⟨⟨c.env :: outer, ?_, ?_, fun env he => ?_⟩, rfl, fun L hL' => ?_⟩
  ·show c.A.frames.map _ = _
   rw [f1]; rfl
  ·rw [List.filterMap_cons, Fo.me, f2]
  ·rcases List.mem_cons.mp he with rfl | he
   ·exact ⟨by rw [R.ac.kind]; decide, _, Fo.me, .head _⟩
   refine el_AEA (f3 env he) ?_; intro e1 L e2 e3
   exact ⟨e1, L, e2, .tail _ e3⟩
  rcases List.mem_cons.mp hL' with rfl | hL'
  ·exact ⟨oL, (if_pos (.inl r1)).trans hL, (fun vs q => by rw [hLd] at q; exact (nomatch q)), Heap.get?_none_of_le R.above⟩
  refine zJ (Fo.hid L hL') ?_; intro o h1 h2 h3
  exact ⟨o, by dsimp only; rw [if_neg (by rw [r3 L o h1]; decide)]; exact h1, h2, h3⟩
 intro H'' up
 have inF : ∀ b, b ∈ F -> ρ b = 3 := fun b hb => let ⟨o, h1, _⟩ := Fo.hid b hb; r3 b o h1
 have outE : ∀ b, b ∉ F -> b ≠ c.env.locals -> H''.objs b = if ρ b = 1 ∨ ρ b = 2 then s.heap.get? b else H.objs b := fun b h1 h2 => up.out b (by
  intro q
  rcases List.mem_cons.mp q with q | q
  ·exact h2 q
  ·exact h1 q)
 refine ⟨⟨fun b => if b ∈ F then H''.objs b else H.objs b, H.gens⟩, ⟨rfl, fun b hb => if_neg hb, fun b hb => ?_⟩, fun e h1 => ?_, fun X X2 S' s' hX hX2 hX3 hg1 hg2 R' => ?_⟩
 ·(refine zg (up.in_ b (.tail _ hb)) ?_; intro o sl h1 h2)
  refine ⟨o, sl, ?_, (if_pos hb).trans h2⟩
  have : (if ρ b = 1 ∨ ρ b = 2 then s.heap.get? b else H.objs b) = some o := h1
  rwa [if_neg (by rw [inF b hb]; decide)] at this
 ·dsimp only
  rw [if_neg (Fo.not h1)]; exact h1
 refine zK R'.role ?_; intro ρ' q0 q1 q2 q3 q4
 have hidX : ∀ b o, H''.objs b = some o -> s'.heap.get? b = some o := fun b o e => R'.hid b o (hX b o e)
 have hid' : ∀ b o, ρ b = 2 -> s.heap.get? b = some o -> s'.heap.get? b = some o := fun b o hb e => hidX b o (by
  rw [outE b (fun q => by rw [inF b q] at hb; cases hb) (fun q => by rw [q, r1] at hb; cases hb), if_pos (.inr hb)]; exact e)
 refine zg (up.in_ c.env.locals (.head _)) ?_; intro oL' sl hL1 hL2
 have hL1 : (if ρ c.env.locals = 1 ∨ ρ c.env.locals = 2 then s.heap.get? c.env.locals else H.objs c.env.locals) = some oL' := hL1
 rw [if_pos (.inl r1), hL] at hL1
 (replace hL1 := Option.some.inj hL1; subst hL1)
 have objsF : ∀ b o, X2.objs b = some o -> s'.heap.get? b = some o /\ ρ' b = 3 /\ (ρ b = 3 ∨ (ρ b ≠ 1 /\ ρ b ≠ 2) ∨ s.heap.get? b = none) := by
  intro b o e
  rcases hX2 b o e with e | ⟨e1, e2, e3⟩
  ·have e : (if b ∈ F then H''.objs b else H.objs b) = some o := e
   split at e
   ·rename_i hb; exact ⟨hidX b o e, q3 b o (hX b o e), .inl (inF b hb)⟩
   rename_i hb
   have h3 := r3 b o e
   have hne : b ≠ c.env.locals := fun q => by rw [q, r1] at h3; cases h3
   have := outE b hb hne
   rw [if_neg (by rw [h3]; decide)] at this
   exact ⟨hidX b o (this.trans e), q3 b o (hX b o (this.trans e)), .inl h3⟩
  refine ⟨R'.hid b o e3, q3 b o e3, ?_⟩
  have e2 : (if ρ b = 1 ∨ ρ b = 2 then s.heap.get? b else H.objs b) = none := e2
  split at e2
  ·exact .inr (.inr e2)
  rename_i hb; exact .inr (.inl ⟨fun q => hb (.inl q), fun q => hb (.inr q)⟩)
 refine { ok := R.ok, ac := R.ac, above := R.above, os := R'.os, bare := R'.bare, gen := ?_, keep := R'.keep, hid := fun b o e => (objsF b o e).1, loc := ?_, cel := ?_, inj := R.inj, fre := ?_, sto := R'.sto, role := ?_ }
 ·intro p hp
  rw [hg2] at hp
  exact R'.gen p (by rw [hg1, up.gens]; exact hp)
 ·exact ⟨m, ⟨_, es, ep, hidX _ _ hL2, hLd, hLk, hLf⟩, hv⟩
 ·intro y a h1 h2
  refine zB (R.cel y a h1 h2) ?_; intro u nn_156 hu; obtain ⟨oc, hc, hcd⟩ := nn_156
  exact ⟨u, ⟨oc, hid' _ _ (r2 y a h1 h2) hc, hcd⟩, hu⟩
 ·intro y a h1 h2 v e
  refine zD (R.fre y a h1 h2 v e) ?_; intro ob u h3 h4 h5
  by_cases hb : a ∈ F
  ·(refine zg (up.in_ a (.tail _ hb)) ?_; intro o sl e1 e2)
   have e1 : (if ρ a = 1 ∨ ρ a = 2 then s.heap.get? a else H.objs a) = some o := e1
   rw [if_neg (by rw [inF a hb]; decide), h3] at e1
   (replace e1 := Option.some.inj e1; subst e1)
   exact ⟨_, u, hX3 _ _ ((if_pos hb).trans e2), h4, h5⟩
  exact ⟨ob, u, hX3 _ _ ((if_neg hb).trans h3), h4, h5⟩
 refine ⟨fun b => if (ρ b = 1 ∨ ρ b = 2) /\ (s.heap.get? b).isSome = true then ρ b else ρ' b, fun b o e => ?_, ?_, fun y a h1 h2 => ?_, fun b o e => ?_, fun b o e => ?_⟩
 ·dsimp only
  rw [if_neg (by rw [r0 b o e]; rintro ⟨q | q, _⟩ <;> cases q)]; exact q0 b o e
 ·dsimp only
  rw [if_pos ⟨.inl r1, by rw [hL]; rfl⟩]; exact r1
 ·(refine zB (R.cel y a h1 h2) ?_; intro u nn_155 hu; obtain ⟨oc, hc, hcd⟩ := nn_155)
  have := r2 y a h1 h2
  dsimp only
  rw [if_pos ⟨.inr this, by rw [hc]; rfl⟩]; exact this
 ·(refine el_AA (objsF b o e) ?_; intro e1 e2 e3)
  dsimp only
  rw [if_neg ?_]
  ·exact e2
  intro q_
  refine zL q_ ?_; clear q_; intro hb hs
  rcases e3 with e3 | e3 | e3
  ·rw [e3] at hb; rcases hb with q | q <;> cases q
  ·exact hb.elim e3.1 e3.2
  rw [e3] at hs; exact Mine.ft hs
 dsimp only
 rw [if_neg ?_]
 ·exact q4 b o e
 intro q_
 refine zL q_ ?_; clear q_; intro hb hs
 refine zI (Option.isSome_iff_exists.mp hs) ?_; intro o' ho'
 rcases hb with hb | hb
 ·have hbl : b = c.env.locals ∨ b ≠ c.env.locals := Classical.em _
  rcases hbl with hbl | hbl
  ·subst hbl
   have := q3 _ _ (hX _ _ hL2)
   rw [q4 _ o e] at this; cases this
  have := outE b (fun q => by rw [inF b q] at hb; cases hb) hbl
  rw [if_pos (.inl hb), ho'] at this
  have := q3 b o' (hX _ _ this)
  rw [q4 b o e] at this; cases this
 have := outE b (fun q => by rw [inF b q] at hb; cases hb) (fun q => by rw [q, r1] at hb; cases hb)
 rw [if_pos (.inr hb), ho'] at this
 have := q3 b o' (hX _ _ this)
 rw [q4 b o e] at this; cases this
end
end
section
open Sem (wp)
section
variable {M : Model} {A : Around} {E : Value -> Shared -> Prop} {s : Shared}
noncomputable abbrev tbObj (ts : Array Value) : Obj := { cls := .type "traceback", dict := none, data := .fields ts }
theorem entry_new {base : Heap} {env : Env} {outer : List Env} {L e : Addr} {oe : Obj} {vs : Array Value} {head : Value} {hadNext : Bool} {Q : Unit -> Shared -> Prop}
  (hfr : A.frames = some (env :: outer)) (hl : s.heap.FunFrames base (env :: outer)) (hf : env.frame = some L) (he : s.heap.get? e = some oe) (hd : oe.data = .fields vs) (hsz : 1 < vs.size)
  (h : ∀ hJ ts, Heap.SlotsOnly ((env :: outer).filterMap (·.frame)) s.heap hJ -> hJ.get? e = some oe -> 3 < ts.size -> ts[3]? = some (rawInt L) ->
   Q () { s with heap := (hJ.push (tbObj ts)).update e (Obj.mapFields (·.setIfInBounds 1 (.ref hJ.objs.size))) }) :
  wpAny M A (do let a ← frameOf env; let pl ← entryPlaceOf L hadNext; let b ← EntryCells.newEntry head a .none (rawInt L) .none pl; setField (.ref e) 1 b) Q E s := by
 have hene : e ∉ (env :: outer).filterMap (·.frame) := fun hm => by
  refine el_AEA (hl.mem hm) ?_; intro _ o ho hnf
  rw [he] at ho; injection ho with ho; subst ho; exact hnf vs hd
 refine wpAny_bind (wpAny_frameOf_fun hfr hl hf fun hJ hs1 => ?_)
 refine wpAny_bind (wpAny_entryPlaceOf fun pl hpl => ?_)
 unfold EntryCells.newEntry newFields
 refine wpAny_bind (wpAny_newObj_type ?_ (hpl.sizeOk5 _ _ _ _ _))
 have he1 : hJ.get? e = some oe := (hs1.2.1 e hene).trans he
 have he2 := Heap.get?_push_of_some (h := hJ) (tbObj ([head, .ref L, .none, rawInt L, .none] ++ (if pl.isEmpty then List.replicate 6 Value.none else pl)).toArray) he1
 refine wpAny_setField he2 hd hsz ?_
 exact h hJ _ hs1 he1 (by simp only [List.size_toArray, List.length_append, List.length_cons, List.length_nil] <;> lia) (by first | (simp; done) | (rcases hpl with rfl | ⟨_, _, _, _, _, _, _, rfl⟩ <;> simp))
end
section
variable {F : List Addr} {H H' H'' : Hid} {s : Shared}
structure Fly0 (g : Gl Str) (c : Ac) (H : Hid) (S : St Str) (s : Shared) (e : Addr) (cls : Value) : Prop where
 no : H.objs e = none
 ob : ∃ oe vs, oe.cls = cls /\ oe.data = .fields vs /\ vs[1]? = some .none /\ Rel g c (H.put e oe) S s
structure Fly1 (g : Gl Str) (c : Ac) (H : Hid) (S : St Str) (s : Shared) (e : Addr) (cls : Value) : Prop where
 no : H.objs e = none
 ob : ∃ oe vs T oT ts, H.objs T = none /\ T ≠ e /\ oe.cls = cls /\ oe.data = .fields vs /\ vs[1]? = some (.ref T) /\ oT.data = .fields ts /\ 3 < ts.size /\ ts[3]? = some .none /\ Rel g c ((H.put e oe).put T oT) S s
theorem Rel.unput (R : Rel g c (H.put a ob) S s) (hH : H.objs a = none) (hc : ∀ u, ob.data = .cell u -> False) : Rel g c H S s := by
 have := R.lose (tk := s.toks) (H.put_self a ob) hc (Heap.ExtBut.refl a s.heap)
 rwa [H.put_cut a ob hH] at this
theorem Fly1.land {e : Addr} {cls : Value} (x : Fly1 g c H S s e cls) : Rel g c H S s := by
 obtain ⟨hn, oe, vs, T, oT, ts, h1, h2, h3, h4, h5, h6, h7, h8, R⟩ := x
 have hT : (H.put e oe).objs T = none := (if_neg h2).trans h1
 exact (R.unput hT (fun u q => by rw [h6] at q; exact (nomatch q))).unput hn (fun u q => by rw [h4] at q; exact (nomatch q))
theorem Hid.put_comm {H : Hid} {a b : Addr} {o p : Obj} (h : a ≠ b) : (H.put a o).put b p = (H.put b p).put a o := by
 unfold Hid.put
 congr 1
 funext x
 dsimp only
 by_cases h1 : x = a
 ·rw [if_pos h1, if_neg (by rw [h1]; exact h), if_pos h1]
 rw [if_neg h1]
 by_cases h2 : x = b
 ·rw [if_pos h2, if_neg h1]
 rw [if_neg h2, if_neg h1]
theorem Rel.turnP {ob ob' : Obj} (R : Rel g c (H.put a ob) S s) {h' : Heap} {tk : Tok} (hk : Heap.ExtBut a s.heap h') (hn : h'.get? a = some ob') (hc : ∀ u, ob.data = .cell u -> False) : Rel g c (H.put a ob') S { s with heap := h', toks := tk } := by
 have : Rel g c ((H.put a ob).put a ob') S { s with heap := h', toks := tk } := R.turn (H.put_self a ob) hk hn hc
 rwa [H.put_put] at this
theorem setFlight1 {A : Around} {e : Addr} {cls : Value} {E : Value -> Shared -> Prop} {Q : Unit -> Shared -> Prop} (x : Fly1 g c H S s e cls) (h : ∀ s', Fly1 g c H S s' e cls -> Q () s') : wpAny (model g.prog g.w) A (setFlight (.ref e) none) Q E s := by
 obtain ⟨hn, oe, vs, T, oT, ts, h1, h2, h3, h4, h5, h6, h7, h8, R⟩ := x
 have hT : (H.put e oe).objs T = none := (if_neg h2).trans h1
 have ge : ((H.put e oe).put T oT).objs e = some oe := (if_neg (Ne.symm h2)).trans (H.put_self e oe)
 have gT : ((H.put e oe).put T oT).objs T = some oT := Hid.put_self _ _ _
 unfold setFlight
 refine wpAny_bind (wpAny_field (R.hid _ _ ge) h4 h5 ?_)
 rw [if_pos (show (Value.ref T != Value.none) = true from by simp)]
 refine wpAny_setField (R.hid _ _ gT) h6 h7 (h _ ⟨hn, oe, vs, T, oT.mapFields (·.setIfInBounds 3 .none), _, h1, h2, h3, h4, h5, Obj.data_mapFields h6 _, by simpa using h7, by simp [h7], ?_⟩)
 exact R.turnP (tk := s.toks) ((Heap.SameBut.update ..).extBut) (Heap.get?_update_self _ (R.hid _ _ gT) (Obj.isFreed_of_fields (Obj.data_mapFields h6 _))) (fun u q => by rw [h6] at q; exact (nomatch q))
theorem note0 {A : Around} {e : Addr} {cls : Value} {E : Value -> Shared -> Prop} {Q : Unit -> Shared -> Prop} (hA : A.frames = c.A.frames) (Fo : FrOk g c F H) (x : Fly0 g c H S s e cls)
  (h : ∀ H' s', UpTo F H H' -> Fly1 g c H' S s' e cls -> Q () s') : wpAny (model g.prog g.w) A (noteFrame (.ref e) c.env) (fun _ s1 => wpAny (model g.prog g.w) A (setFlight (.ref e) none) Q E s1) E s := by
 obtain ⟨hn, oe, vs, h3, h4, h5, R⟩ := x
 have Fo' : FrOk g c F (H.put e oe) := Fo.put hn
 refine zJ (Fo'.kinds R) ?_; intro outer f1 f2 f3
 have ge : (H.put e oe).objs e = some oe := H.put_self e oe
 have hsz : 1 < vs.size := (Array.getElem?_eq_some_iff.mp h5).1
 unfold noteFrame
 simp only [Fo.me]
 refine wpAny_bind (wpAny_field (R.hid _ _ ge) h4 h5 ?_)
 rw [if_neg (by decide)]
 refine entry_new (hA.trans f1) f3 Fo.me (R.hid _ _ ge) h4 hsz fun hJ ts hs1 he1 hts h3t => ?_
 rw [f2] at hs1
 refine zB (R.slotsOnly (tk := s.toks) Fo' hs1) ?_; intro H1 ub R1
 refine zL (ub.put_cut (Fo.not hn) hn) ?_; intro ua ed
 rw [ed] at R1
 generalize hH2 : H1.cut e = H2 at *
 have hng : H2.objs e = none := by rw [← hH2]; exact if_pos rfl
 have hT1 : hJ.get? hJ.objs.size = none := zG _
 have R2 : Rel g c ((H2.put e oe).put hJ.objs.size (tbObj ts)) S { s with heap := hJ.push (tbObj ts) } := R1.hide (tk := s.toks) (ob := tbObj ts) (h' := hJ.push (tbObj ts)) (Heap.ExtBut.push (Heap.ExtBut.refl _ _) _) (zG _) (Heap.get?_push_size _ rfl)
 have hTfree : (H2.put e oe).objs hJ.objs.size = none := R1.free_hid (zG _)
 have hTe : hJ.objs.size ≠ e := fun q => by rw [q, H2.put_self] at hTfree; exact Mine.sn hTfree
 have hTH : H2.objs hJ.objs.size = none := (if_neg hTe).symm.trans hTfree
 rw [Hid.put_comm (Ne.symm hTe)] at R2
 have R3 := R2.turnP (tk := s.toks) (h' := (hJ.push (tbObj ts)).update e (Obj.mapFields (·.setIfInBounds 1 (.ref hJ.objs.size)))) ((Heap.SameBut.update ..).extBut) (Heap.get?_update_self _ (Heap.get?_push_of_some _ he1) (Obj.isFreed_of_fields (Obj.data_mapFields h4 _))) (fun u q => by rw [h4] at q; exact (nomatch q))
 rw [Hid.put_comm hTe] at R3
 have hd3 := Obj.data_mapFields h4 (·.setIfInBounds 1 (Value.ref hJ.objs.size))
 -- the flight is unset
 have gT : ((H2.put e (oe.mapFields (·.setIfInBounds 1 (.ref hJ.objs.size)))).put hJ.objs.size (tbObj ts)).objs hJ.objs.size = some (tbObj ts) := Hid.put_self _ _ _
 have ge' : ((H2.put e (oe.mapFields (·.setIfInBounds 1 (.ref hJ.objs.size)))).put hJ.objs.size (tbObj ts)).objs e = some (oe.mapFields (·.setIfInBounds 1 (.ref hJ.objs.size))) := (if_neg (Ne.symm hTe)).trans (Hid.put_self _ _ _)
 unfold setFlight
 refine wpAny_bind (wpAny_field (R3.hid _ _ ge') hd3 (x := .ref hJ.objs.size) (by simp [hsz]) ?_)
 rw [if_pos (show (Value.ref hJ.objs.size != Value.none) = true from by simp)]
 refine wpAny_setField (R3.hid _ _ gT) rfl hts (h H2 _ ua ⟨hng, _, _, hJ.objs.size, (tbObj ts).mapFields (·.setIfInBounds 3 .none), _, hTH, hTe, (Obj.cls_mapFields ..).trans h3, hd3, by simp [hsz], Obj.data_mapFields rfl _, by simpa using hts, by simp [hts], ?_⟩)
 exact R3.turnP (tk := s.toks) ((Heap.SameBut.update ..).extBut) (Heap.get?_update_self _ (R3.hid _ _ gT) (Obj.isFreed_of_fields (Obj.data_mapFields rfl _))) (fun u q => by exact (nomatch q))
end
end
section
open Sem (wp)
section
variable {M : Model} {A : Around} {E : Value -> Shared -> Prop} {s : Shared}
theorem callWith_mw {pos : Pos} {mw it : Addr} {Q : Value -> Shared -> Prop} (hm : s.heap.get? mw = some (mwObj it)) (h : wpAny M A (call (.ref mw) []) Q E s) : wpAny M A (callWith pos (.ref mw) [] [] []) Q E s := by
 unfold callWith
 refine wpAny_bind (wpAny_holding (evalArgs_nil3 (wpAny_bind (wpAny_standAt ?_))))
 refine wpAny_bind (m := keeperOf (.ref mw)) ?_
 unfold keeperOf
 refine wpAny_bind (wpAny_load hm ?_)
 refine wpAny_pure (a := Keeper.machine) ?_
 exact wpAny_bind (wpAny_mono h (fun r s2 hr => wpAny_bind (wpAny_holding (wpAny_point (wpAny_pure hr)))) fun _ _ x => x)
end
theorem stop_exc : isSubtype (.type "StopIteration") (.type "BaseException") = pure true := by rw [isSubtype_type]; kernel_rfl
theorem stop_meta : isSubtype (.type ((Manifest.find? "StopIteration").elim "type" fun x => x.metatype)) (.type "tuple") = pure false := by rw [isSubtype_type]; kernel_rfl
theorem stop_self : isSubtype (.type "StopIteration") (.type "StopIteration") = pure true := by rw [isSubtype_type]; kernel_rfl
theorem boot_stop : bootBuiltins "StopIteration" = some (.type "StopIteration") := by decide +kernel
section
variable {F : List Addr} {H H' H'' : Hid} {s : Shared}
noncomputable def WXsM (g : Gl Str) (c : Ac) (ss : List Stmt) (S : St Str) (Q : Flow -> St Str -> Prop) : Prop :=
 ∀ (e : Addr) H s, Rel g c H S s -> wpAny (model g.prog g.w) (c.A.mark (some (.ref e))) (execs ss c.env) (fun f s' => ∃ S', Rel g c H S' s' /\ Q (erF f) S') (fun _ _ => False) s
theorem Rel.nameA {A : Around} (R : Rel g c H S s) {x : Str} {v : Value} {E P : Value -> Shared -> Prop} (hv : S.m x = some v) (hk : isVar c.env.scope x = true) (h : ∀ u, er u = v -> P u s) {pos : Pos} :
  wpAny (model g.prog g.w) A (eval (.Name x pos) c.env) P E s := by
 refine el_AA (isVar_kind hk) ?_; intro hk h1 hn
 refine wpAny_Name ?_ h1
 rcases hk with hk | hk | hk
 ·(refine zB R.loc ?_; intro m hm hl)
  refine zB (hl x v hv hk) ?_; intro u hu he
  exact wpAny_loadName_local R.ac.kind hk hm hu (h u he)
 ·(refine zI (R.ac.cells x hk) ?_; intro a ha)
  cases hx : c.ext x with
  | false =>
   refine zB (R.cel x a ha ⟨hk, hx⟩) ?_; intro u hu he
   have := he v hv
   cases u with
   | none => exact Mine.ns this
   | some u => exact wpAny_loadName_cell R.ac.kind hk ha hu (h u (Option.some.inj this))
  | true =>
   refine zD (R.fre x a ha hx v hv) ?_; intro ob u hm hd he
   exact wpAny_loadName_cell R.ac.kind hk ha ⟨ob, R.hid _ _ hm, hd⟩ (h u he)
 refine el_AE (R.ac.frees x hk) ?_; intro hx a ha
 refine zD (R.fre x a ha hx v hv) ?_; intro ob u hm hd he
 exact wpAny_loadName_free R.ac.kind hk ha ⟨ob, R.hid _ _ hm, hd⟩ (h u he) hn
theorem popA {A : Around} {E P : Value -> Shared -> Prop} {n : Str} {np apos pos : Pos} {st : Addr} {x : Value} {pl : Env -> Sem Bool} (R : Rel g c H S s)
  (he : ∀ env, eval (.Call (.Attribute (.Name n np) (ofString "pop") apos) [] [] pos) env = (do
   let ov ← eval (.Name n np) env
   standAt apos.atName
   let (f, first) ← holding [ov] (getMethod ov (ofString "pop") (pl env))
   callWith pos f first (backTo pos (starEach [] env)) []))
  (hk : isVar c.env.scope n = true) (hv : S.m n = some (.ref st)) (hst : S.σ st = some (.list (xs ++ [x]))) (hz : xs.length + 1 ≤ sizeLine)
  (h : ∀ v s', er v = x -> Rel g c H ⟨S.m, upd S.σ st (.list xs)⟩ s' -> P v s') : wpAny (model g.prog g.w) A (eval (.Call (.Attribute (.Name n np) (ofString "pop") apos) [] [] pos) c.env) P E s := by
 refine MethodCall_ (pl := pl c.env) (R.nameA hv hk fun u hu => ?_) (he _)
 obtain rfl := zH hu
 refine zE (R.list hst) ?_; intro arr n h1 h2 h3 h4
 refine zJ R.led ?_; intro m Fv N' hl
 refine kl_method N' (zX.mpr ⟨⟨R.sto_ne hst, R.sto_new hst⟩, h1⟩ : (st, listOf arr n) ∈ _) PySem.F.slot_list_pop PySem.F.type_list_pop ?_
 refine callWith_builtin rfl (evalArgs_nil3 ?_)
 obtain ⟨ys, y, e1, e2, e3⟩ : ∃ ys y, arr.toList = ys ++ [y] /\ ys.map er = xs /\ er y = x := by
  refine zD (List.map_eq_append_iff.mp h3) ?_; intro ys l e1 e2 e3
  refine zB (z3 e3) ?_; intro y rfl_160 e4; subst rfl_160
  exact ⟨ys, y, e1, e2, e4⟩
 refine zB (R.updLed h1 hst (listOf ys.toArray (n + 1))) ?_; intro news' U back
 exact kl_pop Fv N' (by rw [e1]; exact kl_last_eq ys y) U (by rw [e1]; simpa [← e2] using hz) (fun h' F' N' => h y _ e3 (back hl F' N' (Is.list (by simpa using e2))))
theorem delA {A : Around} {E : Value -> Shared -> Prop} {P : Unit -> Shared -> Prop} {kv : Str -> Value} {k : Str} {kvs : List (Str × Value)} {ep : Nat} {d : Addr} {j : Value} (K : KeyOk g kv) (R : Rel g c H S s) (ha : S.σ d = some (.dict kvs ep)) (hz : kvs.length ≤ sizeLine) (hk : (valueAt kvs k).isSome = true) (hj : er j = kv k)
  (h : ∀ ep' s', Rel g c H ⟨S.m, upd S.σ d (.dict (without kvs k) ep')⟩ s' -> P () s') : wpAny (model g.prog g.w) A (delItem (.ref d) j) P E s := by
 refine zD (R.dict ha) ?_; intro ks ob h1 h2 h3
 have hD := h2.dictOf
 unfold delItem
 try with_reducible refine wpAny_holding ?_
 refine wpAny_bind (wpAny_sequenceKey hD.typeIs (by decide) ?_)
 refine wpAny_bind (wpAny_callSpecial?_slot (name := ofString "__delitem__") hD.typeIs PySem.F.slot_dict_delitem
  (call_meetsIn PySem.F.slot_dict_delitem hD.typeIs PySem.F.entry_dict_delitem (PySem.F.args_dict_delitem_2 _ _) (meets_dict_delitem_pairs g.knd d (K.is k j hj)) ⟨ks, hD, (by rw [← List.length_map (f := erP), h3]; exact hz), (by
   rw [← h3, valueAt_er, Option.isSome_map] at hk; exact hk), fun h' hmm hs => ?_⟩))
 refine zI (R.dict_put (tk := s.toks + 1) ha hmm hs) ?_; intro ep' R'
 rw [← without_er, h3] at R'
 exact wpAny_pure (h ep' _ R')
theorem WXsM_pops {kv : Str -> Value} {k : Str} {kvs : List (Str × Value)} {ep : Nat} {D T I : Addr} {y : Value} {nd nt ni : Str} {pd pb pe p3 p4 p5 p6 p7 p8 p9 : Pos} {pl1 pl2 : Env -> Sem Bool} {Q : Flow -> St Str -> Prop} (K : KeyOk g kv)
  (he1 : ∀ env, eval (.Call (.Attribute (.Name nt pb) (ofString "pop") pe) [] [] p3) env = (do
   let ov ← eval (.Name nt pb) env
   standAt pe.atName
   let (f, first) ← holding [ov] (getMethod ov (ofString "pop") (pl1 env))
   callWith p3 f first (backTo p3 (starEach [] env)) []))
  (he2 : ∀ env, eval (.Call (.Attribute (.Name ni p6) (ofString "pop") p7) [] [] p8) env = (do
   let ov ← eval (.Name ni p6) env
   standAt p7.atName
   let (f, first) ← holding [ov] (getMethod ov (ofString "pop") (pl2 env))
   callWith p8 f first (backTo p8 (starEach [] env)) []))
  (hs : ∀ env, swapsWith (.Call (.Attribute (.Name ni p6) (ofString "pop") p7) [] [] p8) none p9.line env = pure false)
  (kd : isVar c.env.scope nd = true) (kt : isVar c.env.scope nt = true) (ki : isVar c.env.scope ni = true)
  (vd : S.m nd = some (.ref D)) (vt : S.m nt = some (.ref T)) (vi : S.m ni = some (.ref I))
  (hD : S.σ D = some (.dict kvs ep)) (hT : S.σ T = some (.list (xs ++ [kv k]))) (hI : S.σ I = some (.list (ys ++ [y]))) (hTI : T ≠ I)
  (hz : kvs.length ≤ sizeLine) (hx : xs.length + 1 ≤ sizeLine) (hy : ys.length + 1 ≤ sizeLine) (hk : (valueAt kvs k).isSome = true)
  (h : ∀ ep', Q .next ⟨S.m, upd (upd (upd S.σ T (.list xs)) D (.dict (without kvs k) ep')) I (.list ys)⟩) :
  WXsM g c [.Delete [.Subscript (.Name nd p4) (.Call (.Attribute (.Name nt pb) (ofString "pop") pe) [] [] p3) p5] pd, .Expr (.Call (.Attribute (.Name ni p6) (ofString "pop") p7) [] [] p8) p9] S Q := by
 intro e H s R
 o_shape
 have hDT : D ≠ T := fun q => by rw [q, hT] at hD; exact (nomatch hD)
 have hDI : D ≠ I := fun q => by rw [q, hI] at hD; exact (nomatch hD)
 refine wpAny_execs_cons (wpAny_Delete (wpAny_deleteEach_cons (delete_Subscript (R.nameA vd kd fun u hu => popA (pl := pl1) R he1 kt vt hT hx fun v s1 hv R1 => ?_))))
 obtain rfl := zH hu
 refine delA K R1 (show upd S.σ T _ D = _ from (if_neg hDT).trans hD) hz hk hv fun ep' s2 R2 => wpAny_deleteEach_nil ?_
 refine wpAny_execs_cons ?_
 have hi : interactive c.env = false := by
  unfold interactive
  rw [R.ac.kind]
  rfl
 rw [exec_Expr c.env _ _ hi (hs _)]
 refine wpAny_bind (wpAny_standAt (wpAny_bind (popA (pl := pl2) R2 he2 ki vi (show upd (upd S.σ T _) D _ I = _ from (if_neg (Ne.symm hDI)).trans ((if_neg (Ne.symm hTI)).trans hI)) hy fun v s3 hv R3 => wpAny_dropValue (wpAny_execs_nil ⟨_, R3, h ep'⟩))))
/-
theorem eval_next {E P : Value -> Shared -> Prop} {o i : Expr} {sp cp : Pos}
  (h : WE g c (.Subscript o i sp) S fun v S1 => ∃ mw it l n, v = .ref mw /\ S1.σ mw = some (mwO it) /\ S1.σ it = some (litO l n) /\ ∃ xs, S1.σ l = some (.list xs) /\
   (∀ x, xs[n]? = some x -> ∀ H u s', er u = x -> Rel g c H ⟨S1.m, upd S1.σ it (litO l (n + 1))⟩ s' -> P u s') /\ (xs[n]? = none -> ∀ H s' e, Fly0 g c H ⟨S1.m, upd S1.σ it (.raw fun _ => True)⟩ s' e (.type "StopIteration") -> E (.ref e) s')) -/
theorem WXF_TryNext {x : Str} {xp sp cp apos bp tp hpos pos : Pos} {o i : Expr} {b0 : Stmt} {suite : List Stmt} {Q : Flow -> St Str -> Prop} {sc : Scope} (hsc : c.env.scope = sc) (hext : c.ext = fun _ => false) (hx : isOwn sc x = true)
  (hstop : isGlob sc (ofString "StopIteration") = true) (hg : nsIn g.K mainGlobals (ofString "StopIteration") = some none)
  (hsw : ∀ env, swapsWith (.Call (.Subscript o i sp) [] [] cp) (some (.Name x xp)) apos.line env = pure false)
  (h : WE g c (.Subscript o i sp) S fun v S1 => ∃ mw it l n, v = .ref mw /\ S1.σ mw = some (mwO it) /\ S1.σ it = some (litO l n) /\ ∃ xs, S1.σ l = some (.list xs) /\
   (∀ y, xs[n]? = some y -> Q .brk ⟨setv S1.m x y, upd S1.σ it (litO l (n + 1))⟩) /\ (xs[n]? = none -> WXsM g c (b0 :: suite) ⟨S1.m, upd S1.σ it (.raw fun _ => True)⟩ Q)) :
  WXF g c (.Try [.Assign [.Name x xp] (.Call (.Subscript o i sp) [] [] cp) apos, .Break bp] [.ExceptHandler (some (.Name (ofString "StopIteration") tp)) none (b0 :: suite) hpos] [] [] pos) S Q := by
 intro F H s Fo R
 o_shape
 refine wpAny_Try_except (wpAny_execs_cons (wpAny_Assign_Name (Call_ (goK (h H s R) (fun u s1 S1 R1 q_ => ?_))) (hsw _)))
 refine el_EEEEAAAEAA q_ ?_; clear q_; intro mw it l n hu hmw hit xs hl h1 h2
 obtain rfl := zH hu
 refine zB (R1.raw hmw) ?_; intro omw gmw rfl_159; subst rfl_159
 refine zJ (R1.raw hit) ?_; intro oit git hc hd
 refine zE (R1.list hl) ?_; intro arr k l1 l2 l3 l4
 refine callWith_mw gmw (wpAny_call (mw_call gmw (codeAny_builtin entry_listiter_next ?_)))
 cases hn : xs[n]? with
 | some y =>
  refine zB (get_er (arr := arr) (by rw [l3]; exact hn)) ?_; intro z e1 e2
  refine next_item ⟨oit, git, hc, hd⟩ l2 e1 fun h' hit' hs => ?_
  refine zJ hit' ?_; (try clear hit'); intro ob' g1 g2 g3
  have R2 := R1.put (tk := s1.toks) (o := litO l (n + 1)) hs.extBut hit g1 ⟨g2, g3⟩
  refine goK (zo (c := c) hsc hext hx (h1 y hn) z e2 H _ R2) (fun _ s3 S3 R3 q => ?_)
  exact wpAny_execs_cons (wpAny_Break ⟨H, Fo.refl, S3, R3, q⟩)
 | none =>
  refine next_end R1.ac.hd ⟨oit, git, hc, hd⟩ l2 (nthNone (by rw [l3]; exact hn)) fun h' e vs hk ⟨ob', hob'⟩ hfr he hvs => ?_
  have R2 : Rel g c H ⟨S1.m, upd S1.σ it (.raw fun _ => True)⟩ { s1 with heap := h' } := R1.put (tk := s1.toks) (fun b o' hb eo => hk b o' hb eo) hit hob' trivial
  have fr := R1.fresh hfr
  have hne : e ≠ it := fun q => by rw [q, git] at hfr; exact Mine.sn hfr
  have R3 : Rel g c (H.put e { cls := .type "StopIteration", data := .fields vs }) ⟨S1.m, upd S1.σ it (.raw fun _ => True)⟩ { s1 with heap := h' } := by
   refine zK R2.role ?_; intro ρ r0 r1 r2 r3 r4
   refine { R2 with hid := fun b o' eo => ?_, fre := fun y b k1 k2 v ev => ?_, role := ⟨fun b => if b = e then 3 else ρ b, fun b o' eo => ?_, ?_, fun y b k1 k2 => ?_, fun b o' eo => ?_, fun b o' eo => ?_⟩ }
   ·unfold Hid.put at eo
    dsimp only at eo
    split at eo
    ·rename_i q; subst q; (replace eo := Option.some.inj eo; subst eo); exact he
    exact R2.hid b o' eo
   ·(refine zD (R2.fre y b k1 k2 v ev) ?_; intro ob u k3 k4 k5)
    refine ⟨ob, u, (if_neg ?_).trans k3, k4, k5⟩
    rintro rfl
    rw [fr.hH] at k3; exact Mine.ns k3
   ·dsimp only; rw [if_neg (by rintro rfl; rw [fr.h0] at eo; exact Mine.ns eo)]; exact r0 b o' eo
   ·dsimp only; rw [if_neg (Ne.symm fr.hl)]; exact r1
   ·dsimp only; rw [if_neg (fr.hc y b k1 k2)]; exact r2 y b k1 k2
   ·dsimp only
    split
    ·rfl
    rename_i q
    refine r3 b o' ?_
    unfold Hid.put at eo
    dsimp only at eo
    rwa [if_neg q] at eo
   dsimp only
   rw [if_neg ?_]
   ·exact r4 b o' eo
   rintro rfl
   have eo : upd S1.σ it _ b = some o' := eo
   unfold upd at eo
   rw [if_neg hne, fr.hS] at eo
   exact Mine.ns eo
  refine note0 rfl Fo ⟨fr.hH, _, vs, rfl, rfl, hvs, R3⟩ fun H1 s3 up fly => ?_
  refine wpAny_handleBy_builtin stop_exc stop_meta stop_self ?_
  have R4 := fly.land
  refine zL (isGlob_kind (sc := c.env.scope) (by rw [hsc]; exact hstop)) ?_; intro kk kd
  refine Name_function_global R4.ac.kind kk (loadGlobal_builtin (by rw [R4.ac.gl]; exact R4.ok.gl.keeps R4.keep) (mg_none_of R4.ok.k R4.ok.gl hg) (by rw [R4.ac.bl]; exact R4.ok.bl.keeps R4.keep) ((R4.ok.bi _ (by decide)).trans boot_stop) ?_) kd
  have fly' := fly
  obtain ⟨hno, oe, vs', T, oT, ts, q1, q2, q3, q4, q5, q6, q7, q8, R5⟩ := fly'
  have ge : ((H1.put e oe).put T oT).objs e = some oe := (if_neg (Ne.symm q2)).trans (H1.put_self e oe)
  refine ⟨rfl, ⟨oe, R5.hid _ _ ge, q3⟩, ?_⟩
  rw [if_pos rfl]
  refine setFlight1 fly fun sa fly5 => ?_
  have R6 := fly5.land
  refine goK (h2 hn e H1 sa R6) (fun f s6 S6 R7 q => ⟨H1, up, S6, R7, q⟩)
end
end
section
open Sem (wp)
section
variable {F : List Addr} {H H' H'' : Hid} {s : Shared}
noncomputable def WMX (g : Gl Str) (c : Ac) {α : Type} (cls : Value) (t : Sem α) (S : St Str) (Q : α -> St Str -> Prop) (QE : St Str -> Prop) : Prop :=
 ∀ F H s, FrOk g c F H -> Rel g c H S s -> wpAny (model g.prog g.w) c.A t (fun a s' => ∃ H', UpTo F H H' /\ ∃ S', Rel g c H' S' s' /\ Q a S')
  (fun e s' => ∃ ea H' S', e = .ref ea /\ UpTo F H H' /\ Fly0 g c H' S' s' ea cls /\ QE S') s
theorem WMX.of {α : Type} {cls : Value} {t : Sem α} {Q : α -> St Str -> Prop} {QE : St Str -> Prop} (h : WMF g c t S Q) : WMX g c cls t S Q QE := fun F H s Fo R => wpAny_mono (h F H s Fo R) (fun _ _ q => q) fun _ _ x => x.elim
noncomputable def WXsX (g : Gl Str) (c : Ac) (cls : Value) (ss : List Stmt) (S : St Str) (Q : Flow -> St Str -> Prop) (QE : St Str -> Prop) : Prop := WMX g c cls (execs ss c.env) S (fun f S' => Q (erF f) S') QE
theorem WXsX.of {cls : Value} {ss : List Stmt} {Q : Flow -> St Str -> Prop} {QE : St Str -> Prop} (h : WXsF g c ss S Q) : WXsX g c cls ss S Q QE := WMX.of h
noncomputable def WDX (g : Gl Str) (c : Ac) (cls : Value) (f : Value) (as : List Value) (S : St Str) (Q : Value -> St Str -> Prop) (QE : St Str -> Prop) : Prop :=
 ∀ us, us.map er = as -> ∀ F H s, FrOk g c F H -> Rel g c H S s -> codeAny (model g.prog g.w) c.A (.call f ⟨us, []⟩) (fun r s' => match r with
  | .ok (.ret v) => ∃ H', UpTo F H H' /\ ∃ S', Rel g c H' S' s' /\ Q (er v) S'
  | .ok _ => False
  | .error e => ∃ ea H' S', e = .ref ea /\ UpTo F H H' /\ Fly1 g c H' S' s' ea cls /\ QE S') s
noncomputable def WCX (g : Gl Str) (c : Ac) (cls : Value) (f : Value) (as : List Value) (S : St Str) (Q : Value -> St Str -> Prop) (QE : St Str -> Prop) : Prop :=
 ∀ us, us.map er = as -> ∀ F H s, FrOk g c F H -> Rel g c H S s -> wpAny (model g.prog g.w) c.A (call f us) (fun v s' => ∃ H', UpTo F H H' /\ ∃ S', Rel g c H' S' s' /\ Q (er v) S')
  (fun e s' => ∃ ea H' S', e = .ref ea /\ UpTo F H H' /\ Fly1 g c H' S' s' ea cls /\ QE S') s
theorem WCX.ofD {cls f : Value} {as : List Value} {QE : St Str -> Prop} (h : WDX g c cls f as S Q QE) : WCX g c cls f as S Q QE := fun us hu F H s Fo R => wpAny_call (codeAny_mono (h us hu F H s Fo R) fun r s' q => by
 rcases r with e | (v | _ | _ | _) <;> first | exact q | exact q.elim)
theorem WCX.drop {cls f : Value} {as : List Value} {QE : St Str -> Prop} (h : WCX g c cls f as S (fun v S' => ∃ S'', Le S'' S' /\ Q v S'') (fun S' => ∃ S'', Le S'' S' /\ QE S'')) : WCX g c cls f as S Q QE := fun us hu F H s Fo R =>
 wpAny_mono (h us hu F H s Fo R) (fun v s' ⟨H', u, S1, R1, S2, l, q⟩ => ⟨H', u, S2, R1.le l.m l.s, q⟩) fun e s' ⟨ea, H', S1, e', u, fly, S2, l, q⟩ => ⟨ea, H', S2, e', u, by
  obtain ⟨hn, oe, vs, T, oT, ts, h1, h2, h3, h4, h5, h6, h7, h8, R⟩ := fly
  exact ⟨hn, oe, vs, T, oT, ts, h1, h2, h3, h4, h5, h6, h7, h8, R.le l.m l.s⟩, q⟩
theorem WDX_def {cls : Value} {f : Addr} {as : List Value} {B : List (Str × Value)} {body : List Stmt} {scope : Scope} {fd : FuncData} {n : Nat} {QE : St Str -> Prop} (hd : c.Deep (n + 1)) (Fn : FnIs g.K f body scope fd) (hsc : scopeOk scope = true)
  (hbind : ∀ us, us.map er = as -> ∃ bs, bindArgs fd ⟨us, []⟩ = pure bs /\ bs.map (fun p => (p.1, er p.2)) = B)
  (hkind : (B.all fun y => scope.names.lookup y.1 == some .local || scope.names.lookup y.1 == some .cell) = true)
  (h : ∀ c' : Ac, c'.env.scope = scope -> c'.ext = (fun _ => false) -> c'.Deep n -> WXsX g c' cls body ⟨bindM B fun _ => none, S.σ⟩ (fun fl S' => Q (retV fl) ⟨S.m, S'.σ⟩) (fun S' => QE ⟨S.m, S'.σ⟩)) : WDX g c cls (.ref f) as S Q QE := by
 intro us hus F H s Fo R
 o_shape
 refine zB (hbind us hus) ?_; intro bs hb rfl_162; subst rfl_162
 refine el_EEE Fn.at_ ?_; intro oc od osl ho
 obtain ⟨k1, k2, k3⟩ : scope.kind = .function /\ scope.isCoroutine = false /\ scope.isGenerator = false := by
  simp only [scopeOk, Bool.and_eq_true, beq_iff_eq, Bool.not_eq_true'] at hsc
  exact ⟨hsc.1.1.1, hsc.1.1.2, hsc.1.2⟩
 have hfs := Fn.scope
 refine codeAny_call_cells R.room (R.in_K _ _ ho) rfl R.nolimit (codeRec_of R.in_K Fn.cd) Fn.body hb Fn.clo (fun y hy => ?_) (fun s1 x => ?_) (by rw [hfs]; exact k2) (by rw [hfs]; exact k3) (by rw [hfs]; exact k1)
 ·rw [hfs]
  have := List.all_eq_true.mp hkind (y.1, er y.2) (List.mem_map.mpr ⟨y, hy, rfl⟩)
  rcases Bool.or_eq_true_iff.mp this with q | q
  ·exact .inl (by simpa using q)
  have q' : scope.names.lookup y.1 = some .cell := by simpa using q
  exact .inr ⟨q', cellsFrom_some _ _ _ (.inl q')⟩
 refine el_EAAA (enterF R Fo hd hsc hfs Fn.gl Fn.bl x) ?_; intro H' R' Fo' incl back
 refine wpAny_mono (h ⟨c.A.deeper (callEnvC fd s.heap.objs.size f), callEnvC fd s.heap.objs.size f, fun _ => false⟩ hfs rfl ?_ _ H' s1 Fo' R') (fun fl s' q_ => ?_) fun e s' q_ => ?_
 ·unfold Ac.Deep at hd ⊢
  simp only [Around.deeper]
  exact om01 ‹_›
 ·(refine el_EAEA q_ ?_; clear q_; intro H1 ub S' R2 q)
  refine zJ (back H1 ub) ?_; intro H2 ua fresh bk
  refine ⟨H2, ua, ⟨S.m, S'.σ⟩, bk H1 H2 S' s' (fun _ _ e => e) (fun _ _ e => .inl e) (fun _ _ e => e) rfl rfl R2, ?_⟩
  cases fl <;> exact q
 refine zN q_ ?_; clear q_; intro ea H1 S' e' ub fly q
 subst e'
 unfold leaving
 refine wpAny_bind (note0 (c := ⟨c.A.deeper (callEnvC fd s.heap.objs.size f), callEnvC fd s.heap.objs.size f, fun _ => false⟩) rfl (Fo'.upTo ub) fly fun H2 s2 ua fly2 => ?_)
 obtain ⟨hn, oe, vs, T, oT, ts, h1, h2, h3, h4, h5, h6, h7, h8, R3⟩ := fly2
 refine zJ (back H2 (ub.trans ua)) ?_; intro H3 uf fresh bk
 have none' : ∀ z, H2.objs z = none -> H'.objs z = none := fun z hz => by
  by_cases q : z ∈ c.env.locals :: F
  ·(refine zg ((ub.trans ua).in_ z q) ?_; intro o sl _ e2)
   rw [hz] at e2; exact Mine.ns e2
  rw [← (ub.trans ua).out z q]; exact hz
 have none2 : ∀ z, H2.objs z = none -> H.objs z = none := fun z hz => by
  cases q : H.objs z with
  | none => rfl
  | some o => have := none' z hz; rw [incl z o q] at this; exact Mine.sn this
 have hnb : H3.objs ea = none := fresh _ (none2 _ hn)
 have hT3 : H3.objs T = none := fresh _ (none2 _ h1)
 refine ⟨ea, H3, ⟨S.m, S'.σ⟩, rfl, uf, ⟨hnb, oe, vs, T, oT, ts, hT3, h2, h3, h4, h5, h6, h7, h8, ?_⟩, q⟩
 refine bk ((H2.put ea oe).put T oT) ((H3.put ea oe).put T oT) S' s2 (fun b o e => ?_) (fun b o e => ?_) (fun b o e => ?_) rfl rfl R3
 ·have n1 : b ≠ T := by rintro rfl; rw [h1] at e; exact Mine.ns e
  have n2 : b ≠ ea := by rintro rfl; rw [hn] at e; exact Mine.ns e
  exact (if_neg n1).trans ((if_neg n2).trans e)
 ·by_cases n1 : b = T
  ·subst n1
   rw [Hid.put_self] at e
   exact .inr ⟨h1, none' _ h1, by rw [Hid.put_self]; exact e⟩
  by_cases n2 : b = ea
  ·subst n2
   have e : (H3.put b oe).objs b = some o := (if_neg n1).symm.trans e
   rw [Hid.put_self] at e
   exact .inr ⟨hn, none' _ hn, (if_neg n1).trans ((Hid.put_self _ _ _).trans e)⟩
  exact .inl ((if_neg n2).symm.trans ((if_neg n1).symm.trans e))
 have n1 : b ≠ T := by rintro rfl; rw [hT3] at e; exact Mine.ns e
 have n2 : b ≠ ea := by rintro rfl; rw [hnb] at e; exact Mine.ns e
 exact (if_neg n1).trans ((if_neg n2).trans e)
theorem WEF_Meth {o : Expr} {name : Str} {apos pos : Pos} {args : List Expr} {pl : Env -> Sem Bool}
  (he : ∀ env, eval (.Call (.Attribute o name apos) args [] pos) env = (do
   let ov ← eval o env
   standAt apos.atName
   let (f, first) ← holding [ov] (getMethod ov name (pl env))
   callWith pos f first (backTo pos (starEach args env)) [])) (hargs : args = [])
  (h : WE g c o S fun ov S1 => WGM g c ov name S1 fun f first S2 => Keeps g.K f = true /\ WCX g c .none f first S2 Q fun _ => False) : WEF g c (.Call (.Attribute o name apos) args [] pos) S Q := by
 subst hargs
 exact fun F H s Fo R => MethodCall_ (pl := pl c.env) (wpAny_mono (h H _ R) (fun _ _ ⟨_, R1, hJ⟩ => wpAny_mono (hJ _ _ rfl H _ R1) (fun fx s2 ⟨S2, R2, hk, hV⟩ => by
  obtain ⟨f, first⟩ := fx
  have e : er f = f := (keeps_er hk f rfl).symm
  have hV : WCX g c .none (er f) (first.map er) S2 Q fun _ => False := hV
  have hk : Keeps g.K (er f) = true := hk
  rw [e] at hV hk
  refine keeps_cw hk rfl (evalArgs_nil3 ⟨R2.in_K, ?_⟩)
  rw [List.append_nil]
  exact wpAny_mono (hV first rfl F H s2 Fo R2) (fun _ _ q => q) fun e s' ⟨_, _, _, _, _, _, q⟩ => q.elim) fun _ _ x => x.elim) fun _ _ x => x.elim) (he _)
theorem WEF_Call {f : Str} {p pos : Pos} {e : Expr} {rest : List Expr} (hs : (e :: rest).all notStar = true) (h : WE g c (.Name f p) S fun fv S1 => Keeps g.K fv = true /\ WEs g c (e :: rest) S1 fun vs S2 => WCX g c .none fv vs S2 Q fun _ => False) : WEF g c (.Call (.Name f p) (e :: rest) [] pos) S Q :=
 fun F H s Fo R => wpAny_Call_NameR (wpAny_mono (h H _ R) (fun fv s1 ⟨S1, R1, hk, hJ⟩ => by
  have e' : er fv = fv := (keeps_er hk fv rfl).symm
  rw [e'] at hk hJ
  refine zL (Bool.and_eq_true_iff.mp (by simpa using hs : (notStar e && rest.all notStar) = true)) ?_; intro h1 h2
  have hp := z2 (pos := pos) (env := c.env) hs
  have := hJ pos H s1 R1
  rw [zb h1] at this hp ⊢
  exact keeps_cw hk hp (evalArgs_plain (goK this (fun vs s2 S2 R2 q => ⟨R2.in_K, wpAny_mono (q vs rfl F H s2 Fo R2) (fun _ _ q => q) fun e s' ⟨_, _, _, _, _, _, q⟩ => q.elim⟩)))) fun _ _ x => x.elim)
end
end
section
open Sem (wp)
section
variable {F : List Addr} {H H' H'' : Hid} {s : Shared}
end
end
section
open Sem (wp)
section
variable {F : List Addr} {H H' H'' : Hid} {s : Shared}
theorem WX_Assign2 {td te value : Expr} {pos : Pos} {Q : Flow -> St Str -> Prop} (he : ∀ env, (assignEach [td, te] env).map (·.2) = [assign td env, assign te env]) (hw : ∀ env, swappedStores [td, te] value env = pure none)
  (h : WE g c value S fun v S1 => WAsg g c td v S1 fun S2 => WAsg g c te v S2 (Q .next)) : WX g c (.Assign [td, te] value pos) S Q :=
 fun H s R => wpAny_Assign_two (goK (h H s R) (fun u _ _ R1 hJ => goK (hJ u rfl H _ R1) (fun _ _ _ R2 hV => hV u rfl H _ R2))) (he _) (hw _)
theorem WAsg_Sub {o i : Expr} {p : Pos} {v : Value} {Q : St Str -> Prop} (hi : ∀ (l u : Option Expr) (q : Pos), i ≠ .Slice l u none q) (h : WE g c o S fun ov S1 => WE g c i S1 fun iv S2 => WSetItem g c ov iv v S2 Q) : WAsg g c (.Subscript o i p) v S Q := by
 intro u hu H s R
 o_shape
 rw [assign_Subscript]
 refine wpAny_bind (wpAny_holding (goK (h H s R) (fun ov s1 S1 R1 hJ => wpAny_bind (wpAny_holding (goK (hJ H _ R1) (fun iv s2 S2 R2 hV => wpAny_bind (wpAny_standAt (wpAny_bind (wpAny_holding (wpAny_mono (hV ov iv u rfl rfl hu H _ R2) (fun _ s3 q => ?_) fun _ _ x => x.elim))))))))))
 exact wpAny_releaseD q
theorem meets_bool_list (a : Addr) (arr : Array Value) (hz : (arr.size : Int) < 2 ^ 63) :
  Meets (Builtin.«bool.__new__» ⟨[.type "bool", .ref a], []⟩) (fun _ R s => s.heap.IsList a arr /\ R (.ok (.ret (.bool (!arr.isEmpty)))) { s with toks := s.toks + 1 + 1 }) :=
 Meets.of_wp fun prog w A R s hs => by
  refine zL hs ?_; (try clear hs); intro hl hs
  obtain ⟨hp, g, d, tk, os⟩ := s
  have f1 := F.conv_sub_bool
  repeat (any_goals (first | assumption | with_reducible apply wpAny_truthy_list hl hz | wp_step))
  all_goals first | exact ⟨_, rfl, hs⟩ | skip
theorem WC_boolL (ha : S.σ a = some (.list xs)) (hz : (xs.length : Int) < 2 ^ 63) (h : Q (.bool (!xs.isEmpty)) S) : WC g c (.type "bool") [.ref a] S Q := by
 intro us hu H s R
 o_shape
 refine zB (z3 hu) ?_; intro u rfl_181 hu1; subst rfl_181
 obtain rfl := zH hu1
 refine zE (R.list ha) ?_; intro arr n h1 h2 h3 h4
 refine call_bool_1 (meets_bool_list a arr (by rw [h4]; exact hz)) ⟨h2, rfl, S, R.toks, ?_⟩
 have : arr.isEmpty = xs.isEmpty := by rw [← h3]; cases arr with | mk l => cases l <;> rfl
 rw [this]; exact h
theorem WC_clear' (ha : S.σ a = some (.list xs)) (hz : xs.length ≤ sizeLine) (h : Q .none ⟨S.m, upd S.σ a (.list [])⟩) : WC g c (.builtin "list.clear") [.ref a] S Q := by
 intro us hu H s R
 o_shape
 refine zB (z3 hu) ?_; intro u rfl_180 hu1; subst rfl_180
 obtain rfl := zH hu1
 refine zE (R.list ha) ?_; intro arr n h1 h2 h3 h4
 obtain ⟨n', hn'⟩ : ∃ n', Obj.mapSeq (fun _ => #[]) (listOf arr n) = listOf #[] n' := ⟨_, rfl⟩
 have R' := R.put (tk := s.toks) (h' := s.heap.update a (Obj.mapSeq fun _ => #[])) (Heap.SameBut.update ..).extBut ha (Heap.get?_update_self _ h1 (by rw [hn']; rfl)) (o := .list []) ⟨#[], n', hn', rfl⟩
 exact call_meets PySem.F.slot_list_clear ⟨_, h1, rfl⟩ PySem.F.entry_list_clear (PySem.F.args_list_clear_1 _) (PySem.AutoSeq1.list_clear_list_0 a arr n (by rw [h4]; exact hz)) ⟨h1, _, R', h⟩
end
end
theorem W_CW0S {K : Frag} {f : Value} {first : List Value} {Q : Value -> St Str -> Prop} (hK : g.K = K) (hk : Keeps K f = true) (h : WC g c f first S Q) : WCW g c f first [] S Q := W_CW0 (by rw [hK]; exact hk) h
section
open Sem (wp)
section
variable {M : Model} {A : Around} {Φ : End -> Shared -> Prop} {c : Code} {fs : List Frame} {s : Shared}
noncomputable def Seg1 (M : Model) (A : Around) (Φ : End -> Shared -> Prop) (c : Code) (t : Sem Fin) (fs : List Frame) (s : Shared) : Prop :=
 ∀ Γ p, Γ.code = c -> Γ.Woken A -> ∃ e s', Runs M Γ p t fs s e s' /\ e.quiet = true /\ Φ e s'
theorem zT {α : Type} {m : Sem α} {K : α -> Sem Fin} {H : Value -> Sem Fin} {gd lv}
  (h : wpAny M (A.over c fs) m (fun a s' => Seg1 M A Φ c (K a) fs s') (fun x s' => Seg1 M A Φ c (H x) fs s') s) : Seg1 M A Φ c (m.wrap K H gd lv) fs s := by
 rintro Γ p rfl hΓ
 exact runs_wrap_of_wp K H gd lv m (Φ := fun e s' => e.quiet = true /\ Φ e s') (h (Γ.over fs) p (hΓ.over fs)) (fun a p' s' h' => h' Γ p' rfl hΓ) (fun x p' s' h' => h' Γ p' rfl hΓ)
theorem seg1_at {p' : Pos} {k : Unit -> Sem Fin} (h : Seg1 M A Φ c (k ()) fs s) : Seg1 M A Φ c (.at p' k) fs s :=
 zT (m := standAt p') (K := k) (H := .raise) (gd := id) (lv := id) (wpAny_standAt h)
theorem seg1_point {l : List Value} {k : Unit -> Sem Fin} (h : Seg1 M A Φ c (k ()) fs s) : Seg1 M A Φ c (.point l k) fs s :=
 zT (m := point) (K := k) (H := .raise) (gd := id) (lv := fun _ => l) (wpAny_point h)
theorem seg1_call {c' : Code} {h g l} {k : Result -> Sem Fin} (hc : ∀ p, Seg1 M A Φ c' (M.den c') (.ret k h g l c p [] :: fs) s) : Seg1 M A Φ c (.call c' h g l k) fs s := by
 rintro Γ p rfl hΓ
 refine zg (hc p (Γ.goto c') p rfl (hΓ.goto c')) ?_; intro e s' hr he
 exact ⟨e, s', runs_call_seg hr, he⟩
theorem seg1_leaf {k h g l c₁ pb kp} (r : Result) (hk : Seg1 M A Φ c₁ (k r) fs s) : Seg1 M A Φ c (leafOf r) (.ret k h g l c₁ pb kp :: fs) s := by
 rintro Γ p rfl hΓ
 refine zg (hk (Γ.goto c₁) pb rfl (hΓ.goto c₁)) ?_; intro e s' hr he
 exact ⟨e, s', Runs.pop r hr, he⟩
theorem seg1_again {c' : Code} (hq : c'.quiet = true) (hc : Seg1 M A Φ c' (M.den c') fs s) : Seg1 M A Φ c (.pure (.again c')) fs s := by
 rintro Γ p rfl hΓ
 refine zg (hc (Γ.goto c') p rfl (hΓ.goto c')) ?_; intro e s' hr he
 exact ⟨e, s', Runs.head (c₁ := c') (fun _ _ x => .again hq x) hr, he⟩
theorem seg1_end (r : Result) (h : Φ (.ret r) s) : Seg1 M A Φ c (leafOf r) [] s := by
 rintro Γ p rfl _
 exact ⟨.ret r, s, Runs.leaf r, rfl, h⟩
theorem seg1_yield {v g l} {k : Resume -> Sem Fin} (hfs : splitAtGen fs = none) (hg : g = false) (hfg : fs.any Frame.guarded = false)
  (h : ∀ p, Φ (.susp v g l k c p fs) s) : Seg1 M A Φ c (.yield v g l k) fs s := by
 rintro Γ p rfl _
 exact ⟨_, s, Runs.yield' fs hfs, by simp [End.quiet, hg, hfg], h p⟩
theorem Seg1.mono {Φ' : End -> Shared -> Prop} {t : Sem Fin} (h : Seg1 M A Φ c t fs s) (hΦ : ∀ e s', Φ e s' -> Φ' e s') : Seg1 M A Φ' c t fs s := fun Γ p h1 h2 =>
 let ⟨e, s', h3, h4, h5⟩ := h Γ p h1 h2; ⟨e, s', h3, h4, hΦ e s' h5⟩
noncomputable def Run1 (M : Model) (A : Around) (gs : GenState) (r : Resume) (Φ : End -> Shared -> Prop) (s : Shared) : Prop :=
 match gs with
 | .fresh c => r = .send .none /\ Seg1 M A Φ c (M.den c) [] s
 | .suspended k _ c _ fs _ => Seg1 M A Φ c (k r) fs s
 | _ => False
theorem resume1 {E : Value -> Shared -> Prop} {g : Nat} {gs : GenState} {r : Resume} {l : List Value} {α : Type} {k : GenResult -> Sem α} {Q : α -> Shared -> Prop} (hg : s.gens[g]? = some gs)
  (hgo : Run1 M A gs r Φ (s.setGen g .running))
  (h : ∀ e s1, e.quiet = true -> Φ e s1 -> wpAny M A (k e.result) Q E (s1.setGen g e.genState)) : wpAny M A (.resume g r l k) Q E s := by
 intro Γ p hΓ
 rw [Sem.wp_resume]
 cases gs with
 | fresh c =>
  refine zL hgo ?_; (try clear hgo); intro rfl_182 hs; subst rfl_182
  refine zD (hs (Γ.wake c p) p rfl (hΓ.wake c p)) ?_; intro ec s1 hr hq he
  exact ⟨_, _, by unfold Wakes; rw [hg]; exact ⟨ec, s1, hr, hq, rfl, rfl⟩, h ec s1 hq he Γ p hΓ⟩
 | suspended k0 l0 c0 pd fs0 cl =>
  refine zD (hgo (Γ.wake c0 p) pd rfl (hΓ.wake c0 p)) ?_; intro ec s1 hr hq he
  exact ⟨_, _, by unfold Wakes; rw [hg]; exact ⟨ec, s1, hr, hq, rfl, rfl⟩, h ec s1 hq he Γ p hΓ⟩
 | running => exact hgo.elim
 | finished => exact hgo.elim
end
section
variable {prog : Program} {w : World} {A : Around} {E : Value -> Shared -> Prop} {s : Shared} {Φ : End -> Shared -> Prop}
theorem next_gen {a : Addr} {g : Nat} {gs : GenState} {Q : Option Value -> Shared -> Prop} (hh : A.handled = none) (hl : s.heap.NoLimit) (hroom : A.depth < recursionLimit)
  (hg : s.heap.IsGen a g) (hgs : s.gens[g]? = some gs) (hgo : Run1 (model prog w) A.in1 gs (.send .none) Φ (s.setGen g .running))
  (hΦ : ∀ e s1, e.quiet = true -> Φ e s1 -> (∃ v l k c p fs g', e = .susp v g' l k c p fs /\ Q (some v) (s1.setGen g e.genState)) ∨
   (e = .ret (.ok (.ret .none)) /\ ∀ h', (∀ b o, s1.heap.get? b = some o -> h'.get? b = some o) -> Q none { s1.setGen g .finished with heap := h' })) :
  wpAny (model prog w) A (pyNext (.ref a)) Q E s := by
 unfold pyNext
 refine wpAny_bind (wpAny_attempt (wpAny_callSpecial?_slot (name := ofString "__next__") hg.typeIs slot_gen_next
  (wpAny_call_entry slot_gen_next hg.typeIs entry_gen_next ?_ (args_gen_next _))))
 show wpAny _ _ (Builtin.Generator.genWake (.ref a) (.send .none)) _ _ s
 unfold Builtin.Generator.genWake
 refine wpAny_bind (wpAny_holding (wpAny_genNumber hg (wpAny_bind (wpAny_genState hgs ?_))))
 cases gs with
 | running => exact hgo.elim
 | finished => exact hgo.elim
 | _ =>
  refine wpAny_bind (wpAny_roomToWake hl hroom ?_)
  show wpAny _ _ (.resume g (.send .none) [] _) _ _ s
  refine resume1 hgs hgo fun e s1 hq hφ => ?_
  rcases hΦ e s1 hq hφ with ⟨v, l, k, c, p, fs, g', rfl, hQ⟩ | ⟨rfl, hQ⟩
  ·exact wpAny_pure ⟨v, rfl, wpAny_pure hQ⟩
  show wpAny _ _ (newExc (.type "StopIteration") [] >>= _) _ _ _
  refine wpAny_bind ?_
  simp only [newExc, newTuple]
  refine wpAny_bind (wpAny_newObj_type ?_ (by size_fits))
  refine wpAny_bind (m := firstArgMember _ _) (wpAny_of_eq (a := Value.none) (by first | rfl | (simp only [firstArgMember]; rfl)) ?_)
  refine wpAny_newObj_type ?_ (by size_fits)
  simp only [raiseNew]
  refine wpAny_bind (wpAny_bind (wpAny_handled ?_))
  rw [show A.in1.handled = none from hh]
  refine wpAny_throw ?_
  refine wpAny_bind (wpAny_isInstance (T := "StopIteration") (b := true) ⟨_, Heap.get?_push_size _ rfl, rfl⟩ isSubtype_stop ?_)
  exact wpAny_pure (hQ _ fun b o hb => Heap.get?_push_of_some _ (Heap.get?_push_of_some _ hb))
end
end
section
open Sem (wp)
section
variable {M : Model} {A : Around} {Φ : End -> Shared -> Prop} {c : Code} {fs : List Frame} {s : Shared} {env : Env}
 {K : Flow -> Sem Fin} {H : Value -> Sem Fin} {gd : Bool -> Bool} {lv : List Value -> List Value}
theorem seg1_execs_nil (h : Seg1 M A Φ c (K .next) fs s) : Seg1 M A Φ c ((execs [] env).wrap K H gd lv) fs s := h
theorem zQ {st : Stmt} {rest : List Stmt}
  (h : Seg1 M A Φ c ((exec st env).wrap (fun f => match f with | .next => (execs rest env).wrap K H gd lv | f => K f) H gd lv) fs s) :
  Seg1 M A Φ c ((execs (st :: rest) env).wrap K H gd lv) fs s := by rw [execs_cons_wrap]; exact h
theorem seg1_plain {st : Stmt} (h : wpAny M (A.over c fs) (exec st env) (fun f s' => Seg1 M A Φ c (K f) fs s') (fun _ _ => False) s) : Seg1 M A Φ c ((exec st env).wrap K H gd lv) fs s :=
 zT (wpAny_mono h (fun _ _ x => x) fun _ _ x => x.elim)
theorem seg1_If {test : Expr} {body orelse : List Stmt} {pos : Pos}
  (h : wpAny M (A.over c fs) (isTrue test env (eval test env)) (fun b s' => Seg1 M A Φ c ((execs (if b = true then body else orelse) env).wrap K H gd lv) fs s') (fun _ _ => False) s) :
  Seg1 M A Φ c ((exec (.If test body orelse pos) env).wrap K H gd lv) fs s := by
 rw [exec_If]
 show Seg1 M A Φ c (.at pos fun _ => (isTrue test env (eval test env) >>= fun b => if b = true then execs body env else execs orelse env).wrap K H gd lv) fs s
 refine seg1_at ?_
 rw [Sem.bind_eq_wrap', Sem.wrap_wrap]
 refine zT (wpAny_mono h (fun b s' hb => ?_) fun _ _ x => x.elim)
 cases b with
 | true => exact hb
 | false => exact hb
theorem seg1_Yield {e : Expr} {ypos pos : Pos} (hfs : splitAtGen fs = none) (hgd : gd false = false) (hfg : fs.any Frame.guarded = false)
  (h : wpAny M (A.over c fs) (eval e env) (fun v s' => ∀ k : Resume -> Sem Fin, (∀ x, (∀ a, x ≠ .ref a) -> k (.send x) = K .next) -> ∀ l p, Φ (.susp v false l k c p fs) s') (fun _ _ => False) s)
  (hco : env.scope.isCoroutine = false) (hi : interactive env = false) :
  Seg1 M A Φ c ((exec (.Expr (.Yield (some e) ypos) pos) env).wrap K H gd lv) fs s := by
 rw [exec_Expr env _ pos hi rfl]
 show Seg1 M A Φ c (.at pos fun _ => ((eval e env >>= fun v => (standAt ypos >>= fun _ => yieldOut env v)) >>= fun x =>
  dropValue (.Yield (some e) ypos) pos x).wrap K H gd lv) fs s
 have hy : ∀ v, yieldOut env v = yieldValue v := fun v => by simp only [yieldOut, hco, Bool.false_eq_true, if_false]
 simp only [hy]
 refine seg1_at ?_
 rw [Sem.bind_eq_wrap', Sem.bind_eq_wrap', Sem.wrap_wrap, Sem.wrap_wrap]
 refine zT (wpAny_mono h (fun v s' h' => ?_) fun _ _ x => x.elim)
 refine seg1_at ?_
 refine seg1_yield hfs hgd hfg fun p => ?_
 show Φ (.susp v (gd false) _ _ c p fs) s'
 rw [hgd]
 refine h' _ (fun x hx => ?_) _ p
 cases x <;> first | rfl | exact absurd rfl (hx _)
theorem seg1_For {target iter : Expr} {body orelse : List Stmt} {pos : Pos} (hs : ∀ x, foldedSetIterable iter env x = pure x)
  (h : wpAny M (A.over c fs) (eval iter env) (fun x s1 => wpAny M (A.over c fs) (pyIter x) (fun it s2 =>
   ∀ (k : Result -> Sem Fin) p, (∀ f, k (.ok f) = K f) -> Seg1 M A Φ (.forLoop target it body orelse env) (M.den (.forLoop target it body orelse env)) (.ret k none (gd false) (lv []) c p [] :: fs) s2) (fun _ _ => False) s1) (fun _ _ => False) s) :
  Seg1 M A Φ c ((exec (.For target iter body orelse pos) env).wrap K H gd lv) fs s := by
 rw [exec_For]
 rw [Sem.bind_eq_wrap', Sem.wrap_wrap]
 refine zT (wpAny_standAt ?_)
 rw [Sem.bind_eq_wrap', Sem.wrap_wrap]
 refine zT (wpAny_mono h (fun x s1 hJ => ?_) fun _ _ x => x.elim)
 rw [hs, Sem.bind_eq_wrap', Sem.wrap_wrap]
 refine zT (wpAny_pure ?_)
 rw [Sem.bind_eq_wrap', Sem.wrap_wrap]
 refine zT (wpAny_standAt ?_)
 rw [Sem.bind_eq_wrap', Sem.wrap_wrap]
 refine zT (wpAny_holding (wpAny_mono hJ (fun it s2 hV => ?_) fun _ _ x => x.elim))
 exact seg1_call fun p => hV _ p fun f => rfl
end
section
variable {prog : Program} {w : World} {A : Around} {Φ : End -> Shared -> Prop} {fs : List Frame} {s : Shared} {env : Env}
noncomputable abbrev turnK (target : Expr) (it : Value) (body orelse : List Stmt) (env : Env) (f : Flow) : Sem Fin := match f with
 | .next | .cont => .pure (.again (.forLoop target it body orelse env))
 | .brk => .pure (.done .next)
 | .ret v => .pure (.done (.ret v))
theorem seg1_forLoop {target : Expr} {it : Value} {body orelse : List Stmt}
  (h : wpAny (model prog w) (A.over (.forLoop target it body orelse env) fs) (pyNext it) (fun r s1 => match r with
   | none => ∀ (Hx : Value -> Sem Fin), Seg1 (model prog w) A Φ (.block orelse env) ((execs orelse env).wrap (fun f => .pure (.done f)) Hx id id) fs s1
   | some v => wpAny (model prog w) (A.over (.forLoop target it body orelse env) fs) (letOwnedTupleGo target it v) (fun _ s2 => wpAny (model prog w) (A.over (.forLoop target it body orelse env) fs) (assign target env v) (fun _ s3 =>
     ∀ (Hx : Value -> Sem Fin), Seg1 (model prog w) A Φ (.forLoop target it body orelse env) ((execs body env).wrap (turnK target it body orelse env) Hx id id) fs s3) (fun _ _ => False) s2) (fun _ _ => False) s1) (fun _ _ => False) s) :
  Seg1 (model prog w) A Φ (.forLoop target it body orelse env) ((model prog w).den (.forLoop target it body orelse env)) fs s := by
 show Seg1 _ A Φ _ ((forTurn target it body orelse env).onRaise (fun x => do noteFrame x env; theTreesLotGoes x)) fs s
 unfold forTurn
 rw [Sem.onRaise_eq_wrap]
 show Seg1 _ A Φ _ (.at target.pos fun _ => (((pyNext it).onRaise (fun _ => standAt { target.pos with line := 0 }) >>= fun r => _).wrap _ _ id id)) fs s
 refine seg1_at ?_
 rw [Sem.bind_eq_wrap', Sem.wrap_wrap]
 refine zT (wpAny_onRaise (wpAny_mono h (fun r s1 hJ => ?_) fun _ _ x => x.elim))
 cases r with
 | none =>
  refine seg1_again rfl ?_
  show Seg1 _ A Φ _ (((execs orelse env).onRaise (fun x => do noteFrame x env; theTreesLotGoes x)) >>= fun f => pure (Fin.done f)) fs s1
  rw [Sem.onRaise_eq_wrap, Sem.bind_eq_wrap', Sem.wrap_wrap]
  exact hJ _
 | some v =>
  show Seg1 _ A Φ _ ((letOwnedTupleGo target it v >>= fun _ => assign target env v >>= fun _ => execs body env >>= fun f => _).wrap _ _ id id) fs s1
  rw [Sem.bind_eq_wrap', Sem.wrap_wrap]
  refine zT (wpAny_mono hJ (fun _ s2 hV => ?_) fun _ _ x => x.elim)
  rw [Sem.bind_eq_wrap', Sem.wrap_wrap]
  refine zT (wpAny_mono hV (fun _ s3 hW => ?_) fun _ _ x => x.elim)
  rw [Sem.bind_eq_wrap', Sem.wrap_wrap]
  rw [Sem.wrap_congr (execs body env) _ _ (K' := turnK target it body orelse env) (fun f => by cases f <;> rfl) (fun _ => rfl)]
  exact hW _
end
end
noncomputable def siO (x : Str) : AO Str := .raw fun ob => ob.cls = .type "str_ascii_iterator" /\ ∃ t, ob.data = .fields #[.str x t, .int 0 0]
theorem WC_enumS {x : Str} (hx : x.cps.all (· < 128) = true) (h : ∀ e it, S.σ e = none -> S.σ it = none -> e ≠ it -> Q (.ref e) ⟨S.m, upd (upd S.σ it (siO x)) e (enumO it)⟩) : WC g c (.type "enumerate") [.str x 0] S Q := by
 intro us hu H s R
 o_shape
 refine zB (z3 hu) ?_; intro u rfl_188 hu1; subst rfl_188
 refine zI (zZ hu1) ?_; intro t rfl_187; subst rfl_187
 refine call_enumerate_str fun h' hE hI hz hk => ?_
 refine zJ hI ?_; (try clear hI); intro obI g1 g2 g3
 have g2 : obI.cls = .type "str_ascii_iterator" := by rw [g2]; unfold strIterType; rw [if_pos hx]
 have n1 : s.heap.get? (s.heap.objs.size + 1) = none := by
  cases q : s.heap.get? (s.heap.objs.size + 1) with
  | none => rfl
  | some o => exact absurd (Heap.lt_size q) (Nat.not_lt.mpr (Nat.le_succ _))
 -- both are new at once: hide both, then reveal them
 have R1 : Rel g c ((H.put s.heap.objs.size obI).put (s.heap.objs.size + 1) (enumOb s.heap.objs.size 0 .none)) S { s with heap := h', toks := s.toks } := by
  refine R.rehide (fun b o hb q => hk b o q) (fun b o q => ?_) (fun b o q hb => ?_) (fun p hp => hp) (fun b o u q hu => ?_)
  ·have q : (if b = s.heap.objs.size + 1 then some (enumOb s.heap.objs.size 0 .none) else if b = s.heap.objs.size then some obI else H.objs b) = some o := q
   by_cases q1 : b = s.heap.objs.size + 1
   ·rw [if_pos q1] at q; (replace q := Option.some.inj q; subst q); rw [q1]; exact hE
   rw [if_neg q1] at q
   by_cases q2 : b = s.heap.objs.size
   ·rw [if_pos q2] at q; (replace q := Option.some.inj q; subst q); rw [q2]; exact g1
   rw [if_neg q2] at q; exact hk b o (R.hid b o q)
  ·have q : (if b = s.heap.objs.size + 1 then some (enumOb s.heap.objs.size 0 .none) else if b = s.heap.objs.size then some obI else H.objs b) = some o := q
   by_cases q1 : b = s.heap.objs.size + 1
   ·rw [q1]; exact n1
   rw [if_neg q1] at q
   by_cases q2 : b = s.heap.objs.size
   ·rw [q2]; exact zG _
   rw [if_neg q2, hb] at q; exact Mine.ns q
  show (if b = s.heap.objs.size + 1 then some (enumOb s.heap.objs.size 0 .none) else if b = s.heap.objs.size then some obI else H.objs b) = some o
  have := Heap.lt_size (R.hid b o q)
  rw [if_neg (Nat.ne_of_lt (Nat.lt_succ_of_lt this)), if_neg (Nat.ne_of_lt this)]; exact q
 refine zL (R1.reveal (o := enumO s.heap.objs.size) (Hid.put_self _ _ _) (fun u q => by cases q) rfl) ?_; intro d1 R2
 have f2 : ((H.put s.heap.objs.size obI).put (s.heap.objs.size + 1) (enumOb s.heap.objs.size 0 .none)).cut (s.heap.objs.size + 1) = H.put s.heap.objs.size obI := by
  refine Hid.put_cut _ _ _ ?_
  show (if s.heap.objs.size + 1 = s.heap.objs.size then some obI else H.objs (s.heap.objs.size + 1)) = none
  rw [if_neg (Nat.succ_ne_self _)]; exact R.free_hid n1
 rw [f2] at R2
 refine zL (R2.reveal (o := siO x) (Hid.put_self _ _ _) (fun u q => by rw [g3] at q; cases q) ⟨g2, t, g3⟩) ?_; intro d2 R3
 rw [Hid.put_cut _ _ _ (R.free_hid (zG _))] at R3
 have d2 : S.σ s.heap.objs.size = none := by
  have : upd S.σ (s.heap.objs.size + 1) (enumO s.heap.objs.size) s.heap.objs.size = none := d2
  unfold upd at this
  rwa [if_neg (Ne.symm (Nat.succ_ne_self _))] at this
 refine ⟨⟨S.m, upd (upd S.σ s.heap.objs.size (siO x)) (s.heap.objs.size + 1) (enumO s.heap.objs.size)⟩, R3.le (fun _ _ q => q) (fun b o q => ?_), h (s.heap.objs.size + 1) s.heap.objs.size d1 d2 (Nat.succ_ne_self _)⟩
 show upd (upd S.σ (s.heap.objs.size + 1) _) s.heap.objs.size _ b = some o
 have q : upd (upd S.σ s.heap.objs.size _) (s.heap.objs.size + 1) _ b = some o := q
 unfold upd at q ⊢
 by_cases q1 : b = s.heap.objs.size
 ·rw [if_pos q1]; rw [q1, if_neg (Ne.symm (Nat.succ_ne_self _)), if_pos rfl] at q; exact q
 rw [if_neg q1] at q ⊢; exact q
noncomputable def enumStepS (x y : Str) (z : Str) (i : Nat) (S : St Str) : St Str := ⟨setv (setv S.m x (.int i 0)) y (.str ⟨#[z.cps.getD i 0]⟩ 0), S.σ⟩
noncomputable def turnsEnumS (g : Gl Str) (c : Ac) (H : Hid) (x y : Str) (px py pt : Pos) (k : Nat) (e it : Addr) (z : Str) (he : H.objs e = none) (hi : H.objs it = none) (hne : e ≠ it)
  (hx : isOwn c.env.scope x = true) (hy : isOwn c.env.scope y = true) (ex : c.ext x = false) (ey : c.ext y = false) : Turns g c H (.Tuple [.Name x px, .Name y py] k pt) (.ref e) z.cps.size (enumStepS x y z) (fun _ => True) where
 P i H' := ∃ old obI, H'.objs e = some (enumOb it i old) /\ H'.objs it = some obI /\ obI.cls = .type "str_ascii_iterator" /\ (∃ t, obI.data = .fields #[.str z t, .int i 0]) /\ (∀ b, b ≠ e -> b ≠ it -> H'.objs b = H.objs b) /\ H'.gens = H.gens
 back i H' S s hP R := by
  refine zk hP ?_; (try clear hP); intro old obI h1 h2 h3 nn_186 h5 h6; obtain ⟨t, h4⟩ := nn_186
  refine R.drop (fun a o q => ?_) (fun p hp => by rw [h6]; exact hp) (fun a ob u q hu => ?_)
  ·rw [h5 a (by rintro rfl; rw [he] at q; exact Mine.ns q) (by rintro rfl; rw [hi] at q; exact Mine.ns q)]; exact q
  by_cases q1 : a = e
  ·rw [q1, h1] at q; (replace q := Option.some.inj q; subst q); exact (nomatch hu)
  by_cases q2 : a = it
  ·rw [q2, h2] at q; (replace q := Option.some.inj q; subst q); rw [h4] at hu; exact (nomatch hu)
  rw [← h5 a q1 q2]; exact q
 turn i H' S s hlt hP R ok := by
  refine zk hP ?_; (try clear hP); intro old obI h1 h2 h3 nn_185 h5 h6; obtain ⟨t, h4⟩ := nn_185
  refine wpAny_pyNext_enum_itemD (Draws.strAscii (A := c.A.in1) R.ac.hd it z t) (R.hid _ _ h1) ⟨obI, R.hid _ _ h2, h3, h4⟩ hlt hne (by simp [hne]) fun v h' tk hv hE hSt hT hz hk => ?_
  refine ⟨_, rfl, wpAny_letOwnedTupleGo_enum hE fun h'' hE' hs => ?_⟩
  refine zJ hSt ?_; (try clear hSt); intro obI' g1 g2 g3
  refine zg hv ?_; (try clear hv); intro ch tc hv rfl_184; subst rfl_184
  have hse : s.heap.objs.size ≠ e := Nat.ne_of_gt (Heap.lt_size (R.hid _ _ h1))
  have R' : Rel g c ((H'.put e (enumOb it (i + 1 : Nat) (.str ⟨#[ch]⟩ tc))).put it obI') S { s with heap := h'', toks := tk + 1 } := by
   refine R.rehide (fun b o hb q => ?_) (fun b o q => ?_) (fun b o q hb => ?_) (fun p hp => hp) (fun b o u q hu => ?_)
   ·have q1 : b ≠ e := by rintro rfl; rw [h1] at hb; exact Mine.sn hb
    have q2 : b ≠ it := by rintro rfl; rw [h2] at hb; exact Mine.sn hb
    exact hs.extBut b o q1 (hk b o q1 q2 q)
   ·have q : (if b = it then some obI' else if b = e then some (enumOb it (i + 1 : Nat) (.str ⟨#[ch]⟩ tc)) else H'.objs b) = some o := q
    by_cases q1 : b = it
    ·rw [if_pos q1] at q; (replace q := Option.some.inj q; subst q); rw [q1]; exact hs.extBut it _ (Ne.symm hne) g1
    rw [if_neg q1] at q
    by_cases q2 : b = e
    ·rw [if_pos q2] at q; (replace q := Option.some.inj q; subst q); rw [q2]; exact hE'
    rw [if_neg q2] at q
    exact hs.extBut b o q2 (hk b o q2 q1 (R.hid b o q))
   ·have q : (if b = it then some obI' else if b = e then some (enumOb it (i + 1 : Nat) (.str ⟨#[ch]⟩ tc)) else H'.objs b) = some o := q
    by_cases q1 : b = it
    ·rw [q1, h2] at hb; exact Mine.sn hb
    rw [if_neg q1] at q
    by_cases q2 : b = e
    ·rw [q2, h1] at hb; exact Mine.sn hb
    rw [if_neg q2, hb] at q; exact Mine.ns q
   show (if b = it then some obI' else if b = e then some (enumOb it (i + 1 : Nat) (.str ⟨#[ch]⟩ tc)) else H'.objs b) = some o
   by_cases q1 : b = it
   ·rw [q1, h2] at q; (replace q := Option.some.inj q; subst q); rw [h4] at hu; exact (nomatch hu)
   rw [if_neg q1]
   by_cases q2 : b = e
   ·rw [q2, h1] at q; (replace q := Option.some.inj q; subst q); exact (nomatch hu)
   rw [if_neg q2]; exact q
  have ht'' : h''.IsTuple s.heap.objs.size #[.int i tk, .str ⟨#[ch]⟩ tc] := ⟨_, hs.extBut _ _ hse hT, rfl, _, rfl⟩
  refine wpAny_assign_Tuple R.ac.hd ht'' rfl rfl fun hW hka => ?_
  have R'' : Rel g c ((H'.put e (enumOb it (i + 1 : Nat) (.str ⟨#[ch]⟩ tc))).put it obI') S { s with heap := hW, toks := tk + 1 } := R'.grow (tk := tk + 1) fun b o q => hka b o (Nat.ne_of_lt (Heap.lt_size q)) q
  have hvx : er (.str ⟨#[ch]⟩ tc) = .str ⟨#[z.cps.getD i 0]⟩ 0 := by
   rw [show z.cps.getD i 0 = ch by rw [Array.getD_eq_getD_getElem?, hv]; rfl]; rfl
  show wpAny _ _ (assignInOrder [fun v => assign (.Name x px) c.env v, fun v => assign (.Name y py) c.env v] [.int i tk, .str ⟨#[ch]⟩ tc]) _ _ _
  refine assignInOrder_cons (goK (ze (Q := fun S1 => S1 = ⟨setv S.m x (.int i 0), S.σ⟩) (W_Store hx ex rfl) (.int i tk) rfl _ _ R'') (fun _ s1 S1 R1 q => ?_))
  subst q
  refine assignInOrder_cons (goK (ze (Q := fun S1 => S1 = enumStepS x y z i S) (W_Store hy ey rfl) (.str ⟨#[ch]⟩ tc) hvx _ _ R1) (fun _ s2 S2 R2 q => ?_))
  subst q
  refine assignInOrder_nil ⟨(H'.put e (enumOb it (i + 1 : Nat) (.str ⟨#[ch]⟩ tc))).put it obI', ⟨.str ⟨#[ch]⟩ tc, obI', ?_, Hid.put_self _ _ _, g2, ⟨t, g3⟩, fun b q1 q2 => ?_, h6⟩, R2⟩
  ·show (if e = it then some obI' else (H'.put e _).objs e) = _
   rw [if_neg hne, Hid.put_self]
  show (if b = it then some obI' else if b = e then some (enumOb it (i + 1 : Nat) (.str ⟨#[ch]⟩ tc)) else H'.objs b) = _
  rw [if_neg q2, if_neg q1]; exact h5 b q1 q2
 done H' S s hP R ok := by
  refine zk hP ?_; (try clear hP); intro old obI h1 h2 h3 nn_183 h5 h6; obtain ⟨t, h4⟩ := nn_183
  refine wpAny_pyNext_enum_endD (Draws.strAscii (A := c.A.in1) R.ac.hd it z t) (R.hid _ _ h1) ⟨obI, R.hid _ _ h2, h3, h4⟩ fun h' hk => ⟨rfl, ?_⟩
  have := R.rehide (H' := H) (tk := s.toks) (h' := h') (fun b o hb q => ?_) (fun b o q => ?_) (fun b o q hb => ?_) (fun p hp => by rw [h6]; exact hp) (fun b o u q hu => ?_)
  ·exact this
  ·exact hk b o (by rintro rfl; rw [h2] at hb; exact Mine.sn hb) q
  ·have q1 : b ≠ e := by rintro rfl; rw [he] at q; exact Mine.ns q
   have q2 : b ≠ it := by rintro rfl; rw [hi] at q; exact Mine.ns q
   exact hk b o q2 (R.hid b o (by rw [h5 b q1 q2]; exact q))
  ·have q1 : b ≠ e := by rintro rfl; rw [he] at q; exact Mine.ns q
   have q2 : b ≠ it := by rintro rfl; rw [hi] at q; exact Mine.ns q
   rw [h5 b q1 q2, q] at hb; exact Mine.sn hb
  have q1 : b ≠ e := by rintro rfl; rw [h1] at q; (replace q := Option.some.inj q; subst q); exact (nomatch hu)
  have q2 : b ≠ it := by rintro rfl; rw [h2] at q; (replace q := Option.some.inj q; subst q); rw [h4] at hu; exact (nomatch hu)
  rw [← h5 b q1 q2]; exact q
section
open Sem (wp)
section
variable {A : Around} {env : Env} {ext : Str -> Bool}
theorem okG_func {body : List Stmt} {env₂ : Env} (h : Ac.Ok ⟨A, env, ext⟩) (hd : Ac.Deep ⟨A, env, ext⟩ 1) : Ac.Ok ⟨A.over (.func body env₂) [], env, ext⟩ := by
 refine ⟨h.kind, h.gl, h.bl, h.hd, ?_, h.cells, h.frees⟩
 have w : Code.weight (.func body env₂) = 1 := rfl
 have u : Code.cUnits (.func body env₂) = 3 := rfl
 unfold Ac.Deep at hd ⊢
 show A.depth + 0 + Code.weight (.func body env₂) + 4 * 0 + 20 < _ /\ A.units + 0 + Code.cUnits (.func body env₂) + 20 * 0 + 100 < _
 rw [w, u]
 dsimp only at hd
 lia
theorem okG_loop {body body2 orelse : List Stmt} {target : Expr} {it : Value} {env₂ : Env} {k : Result -> Sem Fin} {gd : Bool} {l kp : List Value} {p : Pos} (h : Ac.Ok ⟨A, env, ext⟩) (hd : Ac.Deep ⟨A, env, ext⟩ 1) :
  Ac.Ok ⟨A.over (.forLoop target it body2 orelse env₂) [.ret k none gd l (.func body env₂) p kp], env, ext⟩ := by
 refine ⟨h.kind, h.gl, h.bl, ?_, ?_, h.cells, h.frees⟩
 ·exact h.hd
 have w : Code.weight (.func body env₂) = 1 := rfl
 have u : Code.cUnits (.func body env₂) = 3 := rfl
 have w2 : Code.weight (.forLoop target it body2 orelse env₂) = 0 := rfl
 have u2 : Code.cUnits (.forLoop target it body2 orelse env₂) = 0 := rfl
 unfold Ac.Deep at hd ⊢
 show A.depth + frameCount [((.func body env₂ : Code), p)] + Code.weight (.forLoop target it body2 orelse env₂) + 4 * 0 + 20 < _ /\ A.units + unitsOf [((.func body env₂ : Code), p)] + Code.cUnits (.forLoop target it body2 orelse env₂) + 20 * 0 + 100 < _
 rw [frameCount_cons, unitsOf_cons, w, u, w2, u2]
 show A.depth + (1 + 0) + 0 + 4 * 0 + 20 < _ /\ A.units + (3 + 0) + 0 + 20 * 0 + 100 < _
 dsimp only at hd
 lia
theorem seg1_func {prog : Program} {w : World} {Φ : End -> Shared -> Prop} {fs : List Frame} {s : Shared} {body : List Stmt}
  (h : ∀ Hx : Value -> Sem Fin, Seg1 (model prog w) A Φ (.func body env) ((execs body env).wrap (fun f => .pure (.done (.ret (match f with | .ret v => v | _ => .none)))) Hx id id) fs s) :
  Seg1 (model prog w) A Φ (.func body env) ((model prog w).den (.func body env)) fs s := by
 show Seg1 (model prog w) A Φ (.func body env) (.point [] fun _ => ((execs body env).onRaise (leaving env)) >>= _) fs s
 refine seg1_point ?_
 rw [Sem.onRaise_eq_wrap, Sem.bind_eq_wrap', Sem.wrap_wrap]
 rw [Sem.wrap_congr (execs body env) _ _ (K' := fun f => .pure (.done (.ret (match f with | .ret v => v | _ => .none)))) (fun f => by cases f <;> rfl) (fun _ => rfl)]
 exact h _
end
end
section
open Sem (wp)
noncomputable def EP (z : Str) (e it : Addr) (i : Nat) (H H' : Hid) : Prop :=
 ∃ old obI, H'.objs e = some (enumOb it i old) /\ H'.objs it = some obI /\ obI.cls = .type "str_ascii_iterator" /\ (∃ t, obI.data = .fields #[.str z t, .int i 0]) /\ (∀ b, b ≠ e -> b ≠ it -> H'.objs b = H.objs b) /\ H'.gens = H.gens
structure GI where
 n : Nat
 pos : Nat -> Nat
 txt : Nat -> Str
 at_ : Nat -> Nat
noncomputable def GI.yv (J : GI) (i : Nat) : List Value := [.int (J.pos i) 0, .str (J.txt i) 0]
noncomputable def stepI (x y : Str) (J : GI) (i : Nat) (S : St Str) : St Str := ⟨setv (setv S.m x (.int (J.pos i) 0)) y (.str (J.txt i) 0), S.σ⟩
noncomputable def GPost (g : Gl Str) (A : Around) (env : Env) (MOK : Nat -> St Str -> Prop) (z : Str) (J : GI) (e it : Addr) : Nat -> Hid -> End -> Shared -> Prop
 | 0, H, en, s' => en = .ret (.ok (.ret .none)) /\ ∃ S' : St Str, Rel g ⟨A, env, fun _ => false⟩ H S' s'
 | k + 1, H, en, s' => (∃ T l kk c p fs, en = .susp (.ref T) false l kk c p fs /\ ∃ (H'' : Hid) (S' : St Str), EP z e it (J.at_ (J.n - k)) H H'' /\ Rel g ⟨A, env, fun _ => false⟩ H'' S' s' /\ MOK (J.n - k) S' /\ S'.σ T = some (.tup (J.yv (J.n - (k + 1))))) /\
   ∀ (H2 H2' : Hid) (s2 : Shared) (S2 : St Str), H2.objs e = none -> H2.objs it = none -> EP z e it (J.at_ (J.n - k)) H2 H2' -> Rel g ⟨A, env, fun _ => false⟩ H2' S2 s2 -> MOK (J.n - k) S2 -> Run1 (model g.prog g.w) A en.genState (.send .none) (GPost g A env MOK z J e it k H2) s2
end
section
open Sem (wp)
section
variable {S S' SG : St Str} {H H' H1 : Hid} {s s1 : Shared} {A : Around} {env : Env} {gi : Nat} {gs gs' : GenState}
noncomputable def HB (g : Gl Str) (s : Shared) (O : Addr -> Prop) [DecidablePred O] (gens : List (Nat × GenState)) : Hid := ⟨fun b => if O b ∨ (g.hU.get? b).isSome = true then none else s.heap.get? b, gens⟩
theorem AllBare.set {gens : Array GenState} (x : AllBare gens) (hb : gs.bare = true) : AllBare (gens.setIfInBounds gi gs) := fun y hy => by
 obtain ⟨i, hi, rfl⟩ := Array.mem_iff_getElem.mp hy
 rw [Array.getElem_setIfInBounds (by simpa using hi)]
 split
 ·exact hb
 exact x _ (Array.getElem_mem _)
theorem gens_other {k : Nat} (h : k ≠ gi) : (s.setGen gi gs).gens[k]? = s.gens[k]? := by simp [Shared.setGen, Ne.symm h]
theorem Rel.intoGen (R : Rel g c H' S s) (ok : Ac.Ok ⟨A, env, fun _ => false⟩) (hc : env.cells = []) (above : g.hU.objs.size ≤ env.locals) {m : Str -> Option Value}
  (hL : ∃ m0, s.heap.Ns env.locals m0 /\ ∀ x v, m x = some v -> env.kindOf x = some .local -> ∃ u, m0 x = some u /\ er u = v) (hgi : s.gens[gi]? = some gs) {gensR : List (Nat × GenState)} (hg : ∀ p ∈ gensR, s.gens[p.1]? = some p.2 /\ p.1 ≠ gi) :
  Rel g ⟨A, env, fun _ => false⟩ (HB g s (fun b => b = env.locals) ((gi, .running) :: gensR)) ⟨m, fun _ => none⟩ (s.setGen gi .running) := by
 have hlk : ∀ x a, env.cells.lookup x = some a -> False := fun x a e => by rw [hc] at e; exact Mine.ns e
 refine { ok := R.ok, ac := ok, above := above, keep := R.keep, os := R.os, bare := AllBare.set R.bare rfl, gen := fun p hp => ?_, hid := fun b o e => ?_, loc := hL, cel := fun x a e => (hlk x a e).elim, inj := fun x y a e => (hlk x a e).elim, fre := fun x a e => (hlk x a e).elim, sto := (fun b o e => nomatch e), role := ⟨fun b => if (g.hU.get? b).isSome = true then 0 else if b = env.locals then 1 else 3, fun b o e => ?_, ?_, fun x a e => (hlk x a e).elim, fun b o e => ?_, (fun b o e => nomatch e)⟩ }
 ·rcases List.mem_cons.mp hp with rfl | hp
  ·exact setGen_self hgi
  refine zL (hg p hp) ?_; intro h1 h2
  rw [gens_other h2]; exact h1
 ·unfold HB at e
  dsimp only at e
  split at e
  ·exact Mine.ns e
  exact e
 ·dsimp only; rw [if_pos (by rw [e]; rfl)]
 ·dsimp only
  rw [if_neg (by rw [Heap.get?_none_of_le above]; decide), if_pos rfl]
 unfold HB at e
 dsimp only at e ⊢
 split at e
 ·exact Mine.ns e
 rename_i q
 rw [not_or] at q
 rw [if_neg q.2, if_neg q.1]
theorem Rel.outGen (R : Rel g c H' S s) (R1 : Rel g ⟨A, env, fun _ => false⟩ H1 SG s1) (hc : env.cells = []) {O : Addr -> Prop} [DecidablePred O] {e it T : Addr} {o : AO Str} {gensR : List (Nat × GenState)}
  (hO : ∀ b, O b -> (H'.objs b).isSome = true /\ ∀ ob u, H'.objs b = some ob -> ob.data = .cell u -> False) (hOL : O env.locals)
  (hJ : ∀ b, b ≠ e -> b ≠ it -> H1.objs b = (HB g s O ((gi, .running) :: gensR)).objs b) (hV : H1.gens = (gi, .running) :: gensR) (he : (H1.objs e).isSome = true) (hi : (H1.objs it).isSome = true)
  (hne : ∀ b, b = e ∨ b = it -> O b ∨ s.heap.get? b = none) (hT : SG.σ T = some o) (hgs : gs'.bare = true) (hgr : ∀ p ∈ gensR, p.1 ≠ gi) :
  S.σ T = none /\ Rel g c ⟨fun b => if b = env.locals ∨ b = e ∨ b = it then s1.heap.get? b else if O b then none else H'.objs b, (gi, gs') :: gensR⟩ ⟨S.m, upd S.σ T o⟩ (s1.setGen gi gs') := by
 refine zK R.role ?_; intro ρ r0 r1 r2 r3 r4
 refine zK R1.role ?_; intro q q0 q1 q2 q3 q4
 have O3 : ∀ b, O b -> ρ b = 3 := fun b hb => by
  refine zI (Option.isSome_iff_exists.mp (hO b hb).1) ?_; intro ob h
  exact r3 b ob h
 have own3 : ∀ b, (b = env.locals ∨ b = e ∨ b = it) -> ∀ ob, s.heap.get? b = some ob -> ρ b = 3 := fun b hb ob hob => by
  rcases hb with rfl | hb
  ·exact O3 _ hOL
  rcases hne b hb with h | h
  ·exact O3 b h
  rw [hob] at h; cases h
 -- what is not the generator's own stands
 have keep : ∀ b ob, ρ b ≠ 3 ∨ ¬ (b = env.locals ∨ b = e ∨ b = it) /\ ¬ O b -> s.heap.get? b = some ob -> s1.heap.get? b = some ob := fun b ob hb hob => by
  have hno : ¬ O b := fun h => by
   rcases hb with hb | hb
   ·exact hb (O3 b h)
   exact hb.2 h
  have hn2 : ¬ (b = env.locals ∨ b = e ∨ b = it) := fun h => by
   rcases hb with hb | hb
   ·exact hb (own3 b h ob hob)
   exact hb.1 h
  rw [not_or, not_or] at hn2
  cases h0 : g.hU.get? b with
  | some ob' =>
   have := R.keep b ob' h0
   rw [hob] at this; (replace this := Option.some.inj this; subst this)
   exact R1.keep b _ h0
  | none =>
   refine R1.hid b ob ?_
   rw [hJ b hn2.2.1 hn2.2.2]
   unfold HB
   dsimp only
   rw [if_neg (by rw [h0]; rintro (h | h); exact hno h; exact Mine.ft h)]; exact hob
 have eT : T ≠ e := fun h => by
  refine zI (Option.isSome_iff_exists.mp he) ?_; intro ob h'
  have := q3 e ob h'
  rw [← h, q4 T o hT] at this; cases this
 have iT : T ≠ it := fun h => by
  refine zI (Option.isSome_iff_exists.mp hi) ?_; intro ob h'
  have := q3 it ob h'
  rw [← h, q4 T o hT] at this; cases this
 have LT : T ≠ env.locals := fun h => by
  have := q4 T o hT
  rw [h, q1] at this; cases this
 have T0 : g.hU.get? T = none := by
  cases h : g.hU.get? T with
  | none => rfl
  | some ob => have := q0 T ob h; rw [q4 T o hT] at this; cases this
 have OT : s.heap.get? T = none ∨ O T := by
  cases h : s.heap.get? T with
  | none => exact .inl rfl
  | some ob =>
   by_cases hO' : O T
   ·exact .inr hO'
   exfalso
   have : H1.objs T = some ob := by
    rw [hJ T eT iT]
    unfold HB
    dsimp only
    rw [if_neg (by rw [T0]; rintro (h | h); exact hO' h; exact Mine.ft h)]; exact h
   have := q3 T ob this
   rw [q4 T o hT] at this; cases this
 have Tρ : ∀ b ob, s.heap.get? b = some ob -> ρ b ≠ 3 -> b ≠ T := fun b ob hob hb h => by
  subst h
  rcases OT with h | h
  ·rw [hob] at h; exact Mine.sn h
  exact hb (O3 _ h)
 have bound : gi < s1.gens.size := by
  have := R1.gen (gi, .running) (by rw [hV]; exact .head _)
  exact (Array.getElem?_eq_some_iff.mp this).1
 refine ⟨?_, { ok := R.ok, ac := R.ac, above := R.above, inj := R.inj, os := R1.os, bare := AllBare.set R1.bare hgs, keep := R1.keep, gen := fun p hp => ?_, hid := fun b ob h => ?_, loc := ?_, cel := fun x a h1 h2 => ?_, fre := fun x a h1 h2 v h3 => ?_, sto := (fun b o' h => ?_), role := ⟨fun b => if b = T then 4 else if b = env.locals ∨ b = e ∨ b = it then 3 else ρ b, fun b ob h => ?_, ?_, fun x a h1 h2 => ?_, fun b ob h => ?_, fun b o' h => ?_⟩ }⟩
 ·cases h : S.σ T with
  | none => rfl
  | some o' =>
   exfalso
   refine zB (R.sto T o' h) ?_; intro ob h1 _
   exact Tρ T ob h1 (by rw [r4 T o' h]; decide) rfl
 ·rcases List.mem_cons.mp hp with rfl | hp
  ·show (s1.gens.setIfInBounds gi gs')[gi]? = _
   simp [bound]
  have := R1.gen p (by rw [hV]; exact .tail _ hp)
  exact (gens_other (hgr p hp)).trans this
 ·dsimp only at h
  split at h
  ·exact h
  rename_i h1
  split at h
  ·exact Mine.ns h
  rename_i h2
  exact keep b ob (.inr ⟨h1, h2⟩) (R.hid b ob h)
 ·(refine zB R.loc ?_; intro m nn_193 hv; obtain ⟨oL, es, ep, hL, hLd, hLk, hLf⟩ := nn_193)
  exact ⟨m, ⟨oL, es, ep, keep _ _ (.inl (by rw [r1]; decide)) hL, hLd, hLk, hLf⟩, hv⟩
 ·(refine zB (R.cel x a h1 h2) ?_; intro u nn_192 hu; obtain ⟨oc, hcc, hcd⟩ := nn_192)
  exact ⟨u, ⟨oc, keep _ _ (.inl (by rw [r2 x a h1 h2]; decide)) hcc, hcd⟩, hu⟩
 ·(refine zD (R.fre x a h1 h2 v h3) ?_; intro ob u k1 k2 k3)
  have hno : ¬ O a := fun h => (hO a h).2 ob _ k1 k2
  have hn2 : ¬ (a = env.locals ∨ a = e ∨ a = it) := fun h => by
   rcases h with h | h
   ·exact hno (h ▸ hOL)
   rcases hne a h with h | h
   ·exact hno h
   have := R.hid a ob k1; rw [h] at this; exact Mine.ns this
  exact ⟨ob, u, by dsimp only; rw [if_neg hn2, if_neg hno]; exact k1, k2, k3⟩
 ·have h : (if b = T then some o else S.σ b) = some o' := h
  by_cases hb : b = T
  ·rw [if_pos hb] at h
   (replace h := Option.some.inj h; subst h)
   rw [hb]; exact R1.sto T o hT
  rw [if_neg hb] at h
  refine zB (R.sto b o' h) ?_; intro ob h1 h2
  exact ⟨ob, keep _ _ (.inl (by rw [r4 b o' h]; decide)) h1, h2⟩
 ·have hs := R.keep b ob h
  have h3 : ρ b ≠ 3 := by rw [r0 b ob h]; decide
  dsimp only
  rw [if_neg (Tρ b ob hs h3), if_neg fun h' => h3 (own3 b h' ob hs)]; exact r0 b ob h
 ·(refine zB R.loc ?_; intro m nn_191 hv; obtain ⟨oL, es, ep, hL, _⟩ := nn_191)
  have h3 : ρ c.env.locals ≠ 3 := by rw [r1]; decide
  dsimp only
  rw [if_neg (Tρ _ _ hL h3), if_neg fun h' => h3 (own3 _ h' _ hL)]; exact r1
 ·(refine zB (R.cel x a h1 h2) ?_; intro u nn_190 hu; obtain ⟨oc, hcc, hcd⟩ := nn_190)
  have h3 : ρ a ≠ 3 := by rw [r2 x a h1 h2]; decide
  dsimp only
  rw [if_neg (Tρ _ _ hcc h3), if_neg fun h' => h3 (own3 _ h' _ hcc)]; exact r2 x a h1 h2
 ·dsimp only at h ⊢
  split at h
  ·rename_i h1
   have : b ≠ T := by
    rintro rfl
    rcases h1 with h1 | h1 | h1
    ·exact LT h1
    ·exact eT h1
    exact iT h1
   rw [if_neg this, if_pos h1]
  rename_i h1
  split at h
  ·exact Mine.ns h
  rename_i h2
  have : b ≠ T := by
   rintro rfl
   rcases OT with h' | h'
   ·have := R.hid _ ob h; rw [h'] at this; exact Mine.ns this
   exact h2 h'
  rw [if_neg this, if_neg h1]; exact r3 b ob h
 have h : (if b = T then some o else S.σ b) = some o' := h
 dsimp only
 split at h
 ·rename_i hb; rw [if_pos hb]
 rename_i hb
 refine zB (R.sto b o' h) ?_; intro ob h1 h2
 have h3 : ρ b ≠ 3 := by rw [r4 b o' h]; decide
 rw [if_neg hb, if_neg fun h' => h3 (own3 _ h' _ h1)]; exact r4 b o' h
end
end
section
open Sem (wp)
section
variable {S S' SG : St Str} {H H' H1 : Hid} {s s1 : Shared} {A : Around} {env : Env} {gi : Nat} {gs gs' : GenState}
theorem Rel.outEnd {O : Addr -> Prop} [DecidablePred O] {gensR : List (Nat × GenState)} (R : Rel g c H' S s) (R1 : Rel g ⟨A, env, fun _ => false⟩ (HB g s O ((gi, .running) :: gensR)) SG s1)
  (hO : ∀ b, O b -> (H'.objs b).isSome = true /\ ∀ ob u, H'.objs b = some ob -> ob.data = .cell u -> False) (hgs : gs'.bare = true) (hgr : ∀ p ∈ gensR, p.1 ≠ gi) :
  Rel g c ⟨fun b => if O b then none else H'.objs b, gensR⟩ S (s1.setGen gi gs') := by
 refine zK R.role ?_; intro ρ r0 r1 r2 r3 r4
 have O3 : ∀ b, O b -> ρ b = 3 := fun b hb => by
  refine zI (Option.isSome_iff_exists.mp (hO b hb).1) ?_; intro ob h
  exact r3 b ob h
 have keep : ∀ b ob, ρ b ≠ 3 ∨ ¬ O b -> s.heap.get? b = some ob -> s1.heap.get? b = some ob := fun b ob hb hob => by
  have hno : ¬ O b := fun h => by
   rcases hb with hb | hb
   ·exact hb (O3 b h)
   exact hb h
  cases h0 : g.hU.get? b with
  | some ob' =>
   have := R.keep b ob' h0
   rw [hob] at this; (replace this := Option.some.inj this; subst this)
   exact R1.keep b _ h0
  | none =>
   refine R1.hid b ob ?_
   unfold HB
   dsimp only
   rw [if_neg (by rw [h0]; rintro (h | h); exact hno h; exact Mine.ft h)]; exact hob
 refine { ok := R.ok, ac := R.ac, above := R.above, inj := R.inj, os := R1.os, bare := AllBare.set R1.bare hgs, keep := R1.keep, gen := fun p hp => (gens_other (hgr p hp)).trans (R1.gen p (.tail _ hp)), hid := fun b ob h => ?_, loc := ?_, cel := fun x a h1 h2 => ?_, fre := fun x a h1 h2 v h3 => ?_, sto := (fun b o' h => ?_), role := ⟨ρ, r0, r1, r2, fun b ob h => ?_, r4⟩ }
 ·dsimp only at h
  split at h
  ·exact Mine.ns h
  rename_i h2
  exact keep b ob (.inr h2) (R.hid b ob h)
 ·(refine zB R.loc ?_; intro m nn_197 hv; obtain ⟨oL, es, ep, hL, hLd, hLk, hLf⟩ := nn_197)
  exact ⟨m, ⟨oL, es, ep, keep _ _ (.inl (by rw [r1]; decide)) hL, hLd, hLk, hLf⟩, hv⟩
 ·(refine zB (R.cel x a h1 h2) ?_; intro u nn_196 hu; obtain ⟨oc, hcc, hcd⟩ := nn_196)
  exact ⟨u, ⟨oc, keep _ _ (.inl (by rw [r2 x a h1 h2]; decide)) hcc, hcd⟩, hu⟩
 ·(refine zD (R.fre x a h1 h2 v h3) ?_; intro ob u k1 k2 k3)
  exact ⟨ob, u, by dsimp only; rw [if_neg fun h => (hO a h).2 ob _ k1 k2]; exact k1, k2, k3⟩
 ·(refine zB (R.sto b o' h) ?_; intro ob h1 h2)
  exact ⟨ob, keep _ _ (.inl (by rw [r4 b o' h]; decide)) h1, h2⟩
 dsimp only at h
 split at h
 ·exact Mine.ns h
 exact r3 b ob h
noncomputable def GStart (g : Gl Str) (A : Around) (env : Env) (MOK : Nat -> St Str -> Prop) (J : GI) (z xa : Str) (fbody : List Stmt) : Prop :=
 ∀ (H : Hid) (s : Shared) (S : St Str), Rel g ⟨A, env, fun _ => false⟩ H S s -> S.m xa = some (.str z 0) -> Run1 (model g.prog g.w) A (.fresh (.func fbody env)) (.send .none) (fun en s' => ∃ e it, e ≠ it /\ H.objs e = none /\ H.objs it = none /\ GPost g A env MOK z J e it J.n H en s') s
noncomputable def NsOb (ob : Obj) (m : Str -> Option Value) (env : Env) : Prop := ∃ es ep, ∃ m0 : Str -> Option Value, ob.data = .dict es ep /\ StrKeys es /\ (∀ name, nsFind es name = m0 name) /\ ∀ x v, m x = some v -> env.kindOf x = some .local -> ∃ u, m0 x = some u /\ er u = v
theorem NsOb.ns {ob : Obj} {m : Str -> Option Value} {L : Addr} {h : Heap} (x : NsOb ob m env) (ho : h.get? L = some ob) : ∃ m0, h.Ns L m0 /\ ∀ x v, m x = some v -> env.kindOf x = some .local -> ∃ u, m0 x = some u /\ er u = v :=
 let ⟨es, ep, m0, h1, h2, h3, h4⟩ := x; ⟨m0, ⟨ob, es, ep, ho, h1, h2, h3⟩, h4⟩
structure GLive (g : Gl Str) (A : Around) (env : Env) (MOK : Nat -> St Str -> Prop) (J : GI) (z : Str) (a : Addr) (gi : Nat) (H : Hid) (i : Nat) (H' : Hid) (gs : GenState) (e it : Addr) : Prop where
 ei : e ≠ it
 he : H.objs e = none
 hi : H.objs it = none
 ea : e ≠ a /\ it ≠ a
 oe : ∃ old, H'.objs e = some (enumOb it (J.at_ i) old)
 oit : ∃ ob t, H'.objs it = some ob /\ ob.cls = .type "str_ascii_iterator" /\ ob.data = .fields #[.str z t, .int (J.at_ i) 0]
 oL : ∃ ob m, H'.objs env.locals = some ob /\ NsOb ob m env /\ MOK i ⟨m, fun _ => none⟩
 rest : ∀ b, b ≠ a -> b ≠ env.locals -> b ≠ e -> b ≠ it -> H'.objs b = H.objs b
 live : ∀ (H2 H2' : Hid) (s2 : Shared) (S2 : St Str), H2.objs e = none -> H2.objs it = none -> EP z e it (J.at_ i) H2 H2' -> Rel g ⟨A, env, fun _ => false⟩ H2' S2 s2 -> MOK i S2 -> Run1 (model g.prog g.w) A gs (.send .none) (GPost g A env MOK z J e it (J.n - i) H2) s2
structure GAt (g : Gl Str) (A : Around) (env : Env) (MOK : Nat -> St Str -> Prop) (J : GI) (z xa : Str) (fbody : List Stmt) (a : Addr) (gi : Nat) (H : Hid) (i : Nat) (H' : Hid) : Prop where
 at_ : ∃ gs, H'.gens = (gi, gs) :: H.gens /\ ((i = 0 /\ gs = .fresh (.func fbody env) /\ (∃ ob m, H'.objs env.locals = some ob /\ NsOb ob m env /\ m xa = some (.str z 0)) /\ ∀ b, b ≠ a -> b ≠ env.locals -> H'.objs b = H.objs b) ∨ (1 ≤ i /\ ∃ e it, GLive g A env MOK J z a gi H i H' gs e it))
 gen : ∃ ob nm qn, H'.objs a = some ob /\ ob.cls = .type "generator" /\ ob.data = .fields #[.int gi 0, nm, qn] /\ ob.slots = #[]
 ha : H.objs a = none
 hL : H.objs env.locals = none
 aL : a ≠ env.locals
 ok : Ac.Ok ⟨A, env, fun _ => false⟩
 cells : env.cells = []
 above : g.hU.objs.size ≤ env.locals
 fresh : ∀ p ∈ H.gens, p.1 ≠ gi
variable {MOK : Nat -> St Str -> Prop} {J : GI} {z xa : Str} {fbody : List Stmt} {a : Addr} {i : Nat}
theorem GAt.sub (p : GAt g A env MOK J z xa fbody a gi H i H') : (∀ b o, H.objs b = some o -> H'.objs b = some o) /\ (∀ q ∈ H.gens, q ∈ H'.gens) /\ ∀ b ob u, H'.objs b = some ob -> ob.data = .cell u -> H.objs b = some ob := by
 refine zB p.at_ ?_; intro gs hg st
 refine zN p.gen ?_; intro oa nm qn a1 a2 a3 a4
 have hgens : ∀ q ∈ H.gens, q ∈ H'.gens := fun q hq => by rw [hg]; exact .tail _ hq
 rcases st with ⟨rfl, rfl, ⟨oL, m, l1, ⟨es, ep, m0, l2, _⟩, _⟩, rest⟩ | ⟨h1, e, it, L⟩
 ·refine ⟨fun b o h => ?_, hgens, fun b ob u h hu => ?_⟩
  ·rw [rest b (by rintro rfl; rw [p.ha] at h; exact Mine.ns h) (by rintro rfl; rw [p.hL] at h; exact Mine.ns h)]; exact h
  have n1 : b ≠ a := by rintro rfl; rw [a1] at h; (replace h := Option.some.inj h; subst h); rw [a3] at hu; exact (nomatch hu)
  have n2 : b ≠ env.locals := by rintro rfl; rw [l1] at h; (replace h := Option.some.inj h; subst h); rw [l2] at hu; exact (nomatch hu)
  rw [← rest b n1 n2]; exact h
 refine zI L.oe ?_; intro old e1
 refine zD L.oit ?_; intro oi t i1 i2 i3
 refine zD L.oL ?_; intro oL m l1 nn_195 _; obtain ⟨es, ep, m0, l2, _⟩ := nn_195
 refine ⟨fun b o h => ?_, hgens, fun b ob u h hu => ?_⟩
 ·rw [L.rest b (by rintro rfl; rw [p.ha] at h; exact Mine.ns h) (by rintro rfl; rw [p.hL] at h; exact Mine.ns h) (by rintro rfl; rw [L.he] at h; exact Mine.ns h) (by rintro rfl; rw [L.hi] at h; exact Mine.ns h)]; exact h
 have n1 : b ≠ a := by rintro rfl; rw [a1] at h; (replace h := Option.some.inj h; subst h); rw [a3] at hu; exact (nomatch hu)
 have n2 : b ≠ env.locals := by rintro rfl; rw [l1] at h; (replace h := Option.some.inj h; subst h); rw [l2] at hu; exact (nomatch hu)
 have n3 : b ≠ e := by rintro rfl; rw [e1] at h; (replace h := Option.some.inj h; subst h); exact (nomatch hu)
 have n4 : b ≠ it := by rintro rfl; rw [i1] at h; (replace h := Option.some.inj h; subst h); rw [i3] at hu; exact (nomatch hu)
 rw [← L.rest b n1 n2 n3 n4]; exact h
theorem GAt.back (p : GAt g A env MOK J z xa fbody a gi H i H') (R : Rel g c H' S s) : Rel g c H S s := R.drop p.sub.1 p.sub.2.1 p.sub.2.2
end
end
section
open Sem (wp)
section
variable {S S' SG : St Str} {H H' H1 : Hid} {s s1 : Shared} {A : Around} {env : Env} {gi : Nat} {gs gs' : GenState}
variable {MOK : Nat -> St Str -> Prop} {J : GI} {z xa : Str} {fbody : List Stmt} {a e it T : Addr} {i : Nat}
theorem gen_out (p : GAt g A env MOK J z xa fbody a gi H i H') {O : Addr -> Prop} [DecidablePred O] (hOL : O env.locals) (hOc : ∀ b, O b -> b = env.locals ∨ b = e ∨ b = it) (R : Rel g c H' S s)
  (R1 : Rel g ⟨A, env, fun _ => false⟩ H1 S' s1) (ep : EP z e it (J.at_ (i + 1)) (HB g s O ((gi, .running) :: H.gens)) H1)
  (hO : ∀ b, O b -> (H'.objs b).isSome = true /\ ∀ ob u, H'.objs b = some ob -> ob.data = .cell u -> False) (hne : ∀ b, b = e ∨ b = it -> O b ∨ s.heap.get? b = none)
  (ei : e ≠ it) (he0 : H.objs e = none) (hi0 : H.objs it = none) (ea : e ≠ a /\ it ≠ a) (rest : ∀ b, b ≠ a -> b ≠ env.locals -> b ≠ e -> b ≠ it -> H'.objs b = H.objs b)
  (hT : S'.σ T = some (.tup (J.yv i))) (mok : MOK (i + 1) ⟨S'.m, fun _ => none⟩) (hgs : gs'.bare = true)
  (live : ∀ (H2 H2' : Hid) (s2 : Shared) (S2 : St Str), H2.objs e = none -> H2.objs it = none -> EP z e it (J.at_ (i + 1)) H2 H2' -> Rel g ⟨A, env, fun _ => false⟩ H2' S2 s2 -> MOK (i + 1) S2 -> Run1 (model g.prog g.w) A gs' (.send .none) (GPost g A env MOK z J e it (J.n - (i + 1)) H2) s2) :
  ∃ H'', GAt g A env MOK J z xa fbody a gi H (i + 1) H'' /\ S.σ T = none /\ Rel g c H'' ⟨S.m, upd S.σ T (.tup (J.yv i))⟩ (s1.setGen gi gs') := by
 refine zk ep ?_; (try clear ep); intro old obI h1 h2 h3 nn_200 h5 h6; obtain ⟨t, h4⟩ := nn_200
 refine zL (R.outGen R1 p.cells hO hOL h5 h6 (by rw [h1]; rfl) (by rw [h2]; rfl) hne hT hgs p.fresh) ?_; intro T0 R2
 refine ⟨_, ⟨⟨gs', rfl, .inr ⟨Nat.le_add_left _ _, e, it, ?_⟩⟩, ?_, p.ha, p.hL, p.aL, p.ok, p.cells, p.above, p.fresh⟩, T0, R2⟩
 ·(refine zB R1.loc ?_; intro m0 nn_199 l5; obtain ⟨oL, es, ep, l1, l2, l3, l4⟩ := nn_199)
  refine ⟨ei, he0, hi0, ea, ⟨old, ?_⟩, ⟨obI, t, ?_, h3, h4⟩, ⟨oL, S'.m, ?_, ⟨es, ep, m0, l2, l3, l4, l5⟩, mok⟩, fun b b1 b2 b3 b4 => ?_, live⟩
  ·dsimp only; rw [if_pos (.inr (.inl rfl))]; exact R1.hid _ _ h1
  ·dsimp only; rw [if_pos (.inr (.inr rfl))]; exact R1.hid _ _ h2
  ·dsimp only; rw [if_pos (.inl rfl)]; exact l1
  dsimp only
  rw [if_neg (by rintro (q | q | q); exact b2 q; exact b3 q; exact b4 q), if_neg (fun q => by rcases hOc b q with q | q | q; exact b2 q; exact b3 q; exact b4 q)]
  exact rest b b1 b2 b3 b4
 refine zN p.gen ?_; intro ob nm qn a1 a2 a3 a4
 refine ⟨ob, nm, qn, ?_, a2, a3, a4⟩
 dsimp only
 have n1 := p.aL
 rw [if_neg (by rintro (q | q | q); exact n1 q; exact ea.1 q.symm; exact ea.2 q.symm), if_neg (fun q => by rcases hOc a q with q | q | q; exact n1 q; exact ea.1 q.symm; exact ea.2 q.symm)]
 exact a1
theorem EP_HB (R : Rel g c H' S s) {gensR : List (Nat × GenState)} (L : GLive g A env MOK J z a gi H i H' gs e it) (above : g.hU.objs.size ≤ env.locals) :
  EP z e it (J.at_ i) (HB g s (fun b => b = env.locals ∨ b = e ∨ b = it) gensR) (HB g s (fun b => b = env.locals) gensR) /\ (HB g s (fun b => b = env.locals ∨ b = e ∨ b = it) gensR).objs e = none /\ (HB g s (fun b => b = env.locals ∨ b = e ∨ b = it) gensR).objs it = none := by
 refine zK R.role ?_; intro ρ r0 r1 r2 r3 r4
 refine zI L.oe ?_; intro old e1
 refine zD L.oit ?_; intro oi t i1 i2 i3
 refine zD L.oL ?_; intro oL m l1 nn_198 _; obtain ⟨es, ep, m0, l2, _⟩ := nn_198
 have h0 : ∀ b ob, H'.objs b = some ob -> g.hU.get? b = none := fun b ob h => by
  cases q : g.hU.get? b with
  | none => rfl
  | some o' => have := r0 b o' q; rw [r3 b ob h] at this; cases this
 have eL : e ≠ env.locals := by rintro rfl; rw [l1] at e1; (replace e1 := Option.some.inj e1; subst e1); exact (nomatch l2)
 have iL' : it ≠ env.locals := by rintro rfl; rw [l1] at i1; (replace i1 := Option.some.inj i1; subst i1); rw [l2] at i3; exact (nomatch i3)
 refine ⟨⟨old, oi, ?_, ?_, i2, ⟨t, i3⟩, fun b b1 b2 => ?_, rfl⟩, ?_, ?_⟩
 ·unfold HB
  dsimp only
  rw [if_neg (by rw [h0 _ _ e1]; rintro (q | q); exact eL q; exact Mine.ft q)]; exact R.hid _ _ e1
 ·unfold HB
  dsimp only
  rw [if_neg (by rw [h0 _ _ i1]; rintro (q | q); exact iL' q; exact Mine.ft q)]; exact R.hid _ _ i1
 ·unfold HB
  dsimp only
  by_cases q : b = env.locals ∨ (g.hU.get? b).isSome = true
  ·rw [if_pos q, if_pos (q.elim (fun q => .inl (.inl q)) .inr)]
  rw [if_neg q, if_neg (by rintro ((q' | q' | q') | q'); exact q (.inl q'); exact b1 q'; exact b2 q'; exact q (.inr q'))]
 ·unfold HB; dsimp only; rw [if_pos (.inl (.inr (.inl rfl)))]
 unfold HB; dsimp only; rw [if_pos (.inl (.inr (.inr rfl)))]
end
end
section
open Sem (wp)
section
variable {S S' SG : St Str} {H H' H1 : Hid} {s s1 : Shared} {env : Env} {gi : Nat} {gs gs' : GenState}
variable {MOK : Nat -> St Str -> Prop} {J : GI} {z xa : Str} {fbody : List Stmt} {a e it T : Addr} {i : Nat}
theorem gen_next (hM : ∀ i S, MOK i S -> MOK i ⟨S.m, fun _ => none⟩) (start : GStart g c.A.in1 env MOK J z xa fbody) (hlt : i < J.n) (p : GAt g c.A.in1 env MOK J z xa fbody a gi H i H') (R : Rel g c H' S s) :
  wpAny (model g.prog g.w) c.A (pyNext (.ref a)) (fun r s1 => ∃ T H'', r = some (.ref T) /\ GAt g c.A.in1 env MOK J z xa fbody a gi H (i + 1) H'' /\ S.σ T = none /\ Rel g c H'' ⟨S.m, upd S.σ T (.tup (J.yv i))⟩ s1) (fun _ _ => False) s := by
 refine zB p.at_ ?_; intro gs hg st
 refine zN p.gen ?_; intro oa nm qn a1 a2 a3 a4
 have hgs : s.gens[gi]? = some gs := R.gen (gi, gs) (by rw [hg]; exact .head _)
 have hgR : ∀ q ∈ H.gens, s.gens[q.1]? = some q.2 /\ q.1 ≠ gi := fun q hq => ⟨R.gen q (by rw [hg]; exact .tail _ hq), p.fresh q hq⟩
 have isG : s.heap.IsGen a gi := ⟨oa, nm, qn, R.hid a oa a1, a2, a3, a4⟩
 have room : c.A.depth < recursionLimit := by have := R.ac.deep.1; exact om09 ‹_›
 have ha := R.hid a oa a1
 rcases st with ⟨rfl, rfl, ⟨oL, m, l1, nso, hm⟩, rest⟩ | ⟨h1, e, it, L⟩
 ·have RG := R.intoGen (A := c.A.in1) (m := m) p.ok p.cells p.above (nso.ns (R.hid _ _ l1)) hgs hgR
  refine next_gen R.ac.hd R.nolimit room isG hgs (start _ _ _ RG hm) fun en s1 hq ⟨e, it, ei, he, hi, post⟩ => .inl ?_
  obtain ⟨k, hk⟩ : ∃ k, J.n = k + 1 := ⟨J.n - 1, by exact om41 ‹_›⟩
  rw [hk] at post
  refine zL post ?_; (try clear post); intro nn_204 live; obtain ⟨T, l, kk, cc, pp, fs, rfl, H1, S', ep, R1, mok, hT⟩ := nn_204
  refine ⟨_, _, _, _, _, _, _, rfl, ?_⟩
  have hk1 : J.n - k = 0 + 1 := om51 (n := J.n) (i := 0) hk
  have hk2 : J.n - (k + 1) = 0 := om52 (n := J.n) (i := 0) hk
  have hk3 : k = J.n - (0 + 1) := om53 (n := J.n) (i := 0) hk
  rw [hk1] at ep live mok
  rw [hk2] at hT
  refine zK R1.role ?_; intro q q0 q1 q2 q3 q4
  refine zD (id ep) ?_; intro old obI e1 e2 _
  have new : ∀ b ob, H1.objs b = some ob -> (HB g s (fun b => b = env.locals) ((gi, .running) :: H.gens)).objs b = none -> s.heap.get? b = none := fun b ob hb hn => by
   have h3 := q3 b ob hb
   unfold HB at hn
   dsimp only at hn
   rwa [if_neg] at hn
   rintro (h | h)
   ·rw [h, q1] at h3; cases h3
   refine zI (Option.isSome_iff_exists.mp h) ?_; intro o' h
   rw [q0 b o' h] at h3; cases h3
  have ne := new e _ e1 he
  have ni := new it _ e2 hi
  have hH : ∀ b, s.heap.get? b = none -> H.objs b = none := fun b hb => by
   cases h : H.objs b with
   | none => rfl
   | some o => have := R.hid b o (p.sub.1 b o h); rw [hb] at this; exact Mine.ns this
  obtain ⟨H'', p', T0, R2⟩ := gen_out (gs' := (End.susp (.ref T) false l kk cc pp fs).genState) p (O := fun b => b = env.locals) rfl (fun b h => .inl h) R R1 ep (fun b hb => by
   subst hb
   refine ⟨by rw [l1]; rfl, fun ob u h hu => ?_⟩
   rw [l1] at h; (replace h := Option.some.inj h; subst h)
   refine el_EEEA nso ?_; (try clear nso); intro es ep' m0 l2 _
   rw [l2] at hu; exact (nomatch hu)) (fun b hb => by
   rcases hb with rfl | rfl
   ·exact .inr ne
   ·exact .inr ni) ei (hH _ ne) (hH _ ni) ⟨(fun h => by rw [h, ha] at ne; exact Mine.sn ne), (fun h => by rw [h, ha] at ni; exact Mine.sn ni)⟩ (fun b b1 b2 _ _ => rest b b1 b2) hT (hM _ _ mok) (End.bare_of_quiet hq) (by rw [← hk3]; exact live)
  exact ⟨T, H'', rfl, p', T0, R2⟩
 have ⟨epb, he, hi⟩ := EP_HB (gensR := (gi, GenState.running) :: H.gens) R L p.above
 refine zD L.oL ?_; intro oL m l1 nso mok0
 have RG := R.intoGen (A := c.A.in1) (m := m) p.ok p.cells p.above (nso.ns (R.hid _ _ l1)) hgs hgR
 refine next_gen R.ac.hd R.nolimit room isG hgs (L.live _ _ _ _ he hi epb RG mok0) fun en s1 hq post => .inl ?_
 obtain ⟨k, hk⟩ : ∃ k, J.n - i = k + 1 := ⟨J.n - i - 1, by exact om41 ‹_›⟩
 rw [hk] at post
 refine zL post ?_; (try clear post); intro nn_203 live; obtain ⟨T, l, kk, cc, pp, fs, rfl, H1, S', ep, R1, mok, hT⟩ := nn_203
 refine ⟨_, _, _, _, _, _, _, rfl, ?_⟩
 have hk1 : J.n - k = i + 1 := om51 hk
 have hk2 : J.n - (k + 1) = i := om52 hk
 have hk3 : k = J.n - (i + 1) := om53 hk
 rw [hk1] at ep live mok
 rw [hk2] at hT
 refine zI L.oe ?_; intro old e1
 refine zD L.oit ?_; intro oi t i1 i2 i3
 refine el_EEEA (id nso) ?_; intro es ep' m0 l2 _
 obtain ⟨H'', p', T0, R2⟩ := gen_out (gs' := (End.susp (.ref T) false l kk cc pp fs).genState) p (O := fun b => b = env.locals ∨ b = e ∨ b = it) (.inl rfl) (fun b h => h) R R1 ep (fun b hb => by
  rcases hb with rfl | rfl | rfl
  ·exact ⟨by rw [l1]; rfl, fun ob u h hu => by rw [l1] at h; (replace h := Option.some.inj h; subst h); rw [l2] at hu; exact (nomatch hu)⟩
  ·exact ⟨by rw [e1]; rfl, fun ob u h hu => by rw [e1] at h; (replace h := Option.some.inj h; subst h); exact (nomatch hu)⟩
  ·exact ⟨by rw [i1]; rfl, fun ob u h hu => by rw [i1] at h; (replace h := Option.some.inj h; subst h); rw [i3] at hu; exact (nomatch hu)⟩) (fun b hb => .inl (.inr hb)) L.ei L.he L.hi L.ea L.rest hT (hM _ _ mok) (End.bare_of_quiet hq) (by rw [← hk3]; exact live)
 exact ⟨T, H'', rfl, p', T0, R2⟩
theorem gen_done (start : GStart g c.A.in1 env MOK J z xa fbody) (p : GAt g c.A.in1 env MOK J z xa fbody a gi H J.n H') (R : Rel g c H' S s) :
  wpAny (model g.prog g.w) c.A (pyNext (.ref a)) (fun r s1 => r = none /\ Rel g c H S s1) (fun _ _ => False) s := by
 refine zB p.at_ ?_; intro gs hg st
 refine zN p.gen ?_; intro oa nm qn a1 a2 a3 a4
 have hgs : s.gens[gi]? = some gs := R.gen (gi, gs) (by rw [hg]; exact .head _)
 have hgR : ∀ q ∈ H.gens, s.gens[q.1]? = some q.2 /\ q.1 ≠ gi := fun q hq => ⟨R.gen q (by rw [hg]; exact .tail _ hq), p.fresh q hq⟩
 have isG : s.heap.IsGen a gi := ⟨oa, nm, qn, R.hid a oa a1, a2, a3, a4⟩
 have room : c.A.depth < recursionLimit := by have := R.ac.deep.1; exact om09 ‹_›
 have sub := p.sub
 rcases st with ⟨h0, rfl, ⟨oL, m, l1, nso, hm⟩, rest⟩ | ⟨h1, e, it, L⟩
 ·have RG := R.intoGen (A := c.A.in1) (m := m) p.ok p.cells p.above (nso.ns (R.hid _ _ l1)) hgs hgR
  refine next_gen R.ac.hd R.nolimit room isG hgs (start _ _ _ RG hm) fun en s1 hq ⟨e, it, ei, he, hi, post⟩ => .inr ?_
  rw [h0] at post
  refine el_AE post ?_; (try clear post); intro rfl_202 S' R1; subst rfl_202
  refine el_EEEA (id nso) ?_; intro es ep' m0 l2 _
  refine ⟨rfl, fun h' hk => ⟨rfl, ?_⟩⟩
  have R2 := R.outEnd (O := fun b => b = env.locals) (gs' := .finished) (gensR := H.gens) R1 (fun b hb => by
   subst hb
   exact ⟨by rw [l1]; rfl, fun ob u h hu => by rw [l1] at h; (replace h := Option.some.inj h; subst h); rw [l2] at hu; exact (nomatch hu)⟩) rfl p.fresh
  refine (R2.grow (tk := s1.toks) hk).drop (fun b o h => ?_) (fun q hq => hq) fun b ob u h hu => ?_
  ·dsimp only
   rw [if_neg (by rintro rfl; rw [p.hL] at h; exact Mine.ns h)]; exact sub.1 b o h
  dsimp only at h
  split at h
  ·exact Mine.ns h
  exact sub.2.2 b ob u h hu
 have ⟨epb, he, hi⟩ := EP_HB (gensR := (gi, GenState.running) :: H.gens) R L p.above
 refine zD L.oL ?_; intro oL m l1 nso mok0
 have RG := R.intoGen (A := c.A.in1) (m := m) p.ok p.cells p.above (nso.ns (R.hid _ _ l1)) hgs hgR
 refine next_gen R.ac.hd R.nolimit room isG hgs (L.live _ _ _ _ he hi epb RG mok0) fun en s1 hq post => .inr ?_
 rw [Nat.sub_self] at post
 refine el_AE post ?_; (try clear post); intro rfl_201 S' R1; subst rfl_201
 refine zI L.oe ?_; intro old e1
 refine zD L.oit ?_; intro oi t i1 i2 i3
 refine el_EEEA (id nso) ?_; intro es ep' m0 l2 _
 refine ⟨rfl, fun h' hk => ⟨rfl, ?_⟩⟩
 have R2 := R.outEnd (O := fun b => b = env.locals ∨ b = e ∨ b = it) (gs' := .finished) (gensR := H.gens) R1 (fun b hb => by
  rcases hb with rfl | rfl | rfl
  ·exact ⟨by rw [l1]; rfl, fun ob u h hu => by rw [l1] at h; (replace h := Option.some.inj h; subst h); rw [l2] at hu; exact (nomatch hu)⟩
  ·exact ⟨by rw [e1]; rfl, fun ob u h hu => by rw [e1] at h; (replace h := Option.some.inj h; subst h); exact (nomatch hu)⟩
  ·exact ⟨by rw [i1]; rfl, fun ob u h hu => by rw [i1] at h; (replace h := Option.some.inj h; subst h); rw [i3] at hu; exact (nomatch hu)⟩) rfl p.fresh
 refine (R2.grow (tk := s1.toks) hk).drop (fun b o h => ?_) (fun q hq => hq) fun b ob u h hu => ?_
 ·dsimp only
  rw [if_neg (by rintro (rfl | rfl | rfl); rw [p.hL] at h; exact Mine.ns h; rw [L.he] at h; exact Mine.ns h; rw [L.hi] at h; exact Mine.ns h)]; exact sub.1 b o h
 dsimp only at h
 split at h
 ·exact Mine.ns h
 exact sub.2.2 b ob u h hu
end
end
section
open Sem (wp)
section
variable {S S' SG : St Str} {H H' H1 : Hid} {s s1 : Shared} {env : Env} {gi : Nat} {gs gs' : GenState}
variable {MOK : Nat -> St Str -> Prop} {J : GI} {z xa : Str} {fbody : List Stmt} {a e it T : Addr} {i : Nat}
noncomputable def turnsGen (g : Gl Str) (c : Ac) (H : Hid) (x y : Str) (px py pt : Pos) (k : Nat) (a : Addr) (gi : Nat) (env : Env) (MOK : Nat -> St Str -> Prop) (J : GI) (z xa : Str) (fbody : List Stmt) (hM : ∀ i S, MOK i S -> MOK i ⟨S.m, fun _ => none⟩) (start : GStart g c.A.in1 env MOK J z xa fbody)
  (hx : isOwn c.env.scope x = true) (hy : isOwn c.env.scope y = true) (ex : c.ext x = false) (ey : c.ext y = false) : Turns g c H (.Tuple [.Name x px, .Name y py] k pt) (.ref a) J.n (stepI x y J) (fun _ => True) where
 P i H' := GAt g c.A.in1 env MOK J z xa fbody a gi H i H'
 back i H' S s hP R := hP.back R
 turn i H' S s hlt hP R _ := by
  refine wpAny_mono (gen_next hM start hlt hP R) (fun r s1 ⟨T, H'', hr, p', T0, R1⟩ => ⟨_, hr, ?_⟩) fun _ _ x => x
  refine zN p'.gen ?_; intro oa nm qn a1 a2 a3 a4
  refine zy (R1.hid _ _ a1) (by unfold plainIter; rw [a2]; rfl) ?_
  have hT : (⟨S.m, upd S.σ T (.tup (J.yv i))⟩ : St Str).σ T = some (.tup [.int (J.pos i) 0, .str (J.txt i) 0]) := zA
  refine goK (WAsg_tup2 (Q := fun S1 => S1 = ⟨setv (setv S.m x (.int (J.pos i) 0)) y (.str (J.txt i) 0), upd S.σ T (.tup (J.yv i))⟩) (px := px) (py := py) (pt := pt) (k := k) (.inl hT) (W_Store hx ex (W_Store hy ey rfl)) (.ref T) rfl H'' s1 R1) (fun _ s2 S2 R2 q => ?_)
  subst q
  exact ⟨H'', p', R2.le (fun _ _ e => e) fun b o e => zC T0 b o e⟩
 done H' S s hP R _ := gen_done start hP R
end
end
section
open Sem (wp)
section
variable {S S' SG : St Str} {H H' H1 : Hid} {s s1 : Shared} {gi : Nat}
variable {MOK : Nat -> St Str -> Prop} {J : GI} {z xa : Str} {body : List Stmt} {a f : Addr} {scope : Scope} {fd : FuncData}
structure EnvOk (env : Env) (scope : Scope) : Prop where
 scope : env.scope = scope
 cells : env.cells = []
 gl : env.globals = mainGlobals
 bl : env.builtins = builtinsNs
noncomputable def scopeGen (scope : Scope) : Bool := scope.kind == .function && !scope.isCoroutine && scope.isGenerator && scope.names.all (fun x => x.2 != .free && x.2 != .cell)
theorem cellsFrom_nil : ∀ (l : List (Str × NameKind)) (n : Addr), l.all (fun x => x.2 != .free && x.2 != .cell) = true -> cellsFrom n l [] = []
 | [], n, _ => rfl
 | (x, k) :: l, n, h => by
  have h1 := List.all_eq_true.mp h (x, k) (.head _)
  have h2 : l.all (fun x => x.2 != .free && x.2 != .cell) = true := List.all_eq_true.mpr fun y hy => List.all_eq_true.mp h y (.tail _ hy)
  have ih := cellsFrom_nil l n h2
  unfold cellsFrom
  cases k <;> first | exact ih | (simp at h1)
theorem gen_make (Fn : FnIs g.K f body scope fd) (hsc : scopeGen scope = true) (hbind : ∀ u, er u = .str z 0 -> bindArgs fd ⟨[u], []⟩ = pure [(xa, u)]) (hloc : scope.names.lookup xa = some .local) (hd : c.Deep 1) (R : Rel g c H S s) {u : Value} (hu : er u = .str z 0) :
  wpAny (model g.prog g.w) c.A (call (.ref f) [u]) (fun v s1 => ∃ a gi env H', v = .ref a /\ EnvOk env scope /\ GAt g c.A.in1 env MOK J z xa body a gi H 0 H' /\ Rel g c H' S s1) (fun _ _ => False) s := by
 refine el_EEE Fn.at_ ?_; intro oc od osl ho
 simp only [scopeGen, Bool.and_eq_true, beq_iff_eq, Bool.not_eq_true'] at hsc
 refine zL hsc ?_; (try clear hsc); intro nn_210 k4; obtain ⟨⟨k1, k2⟩, k3⟩ := nn_210
 have hfs := Fn.scope
 refine wpAny_call (codeAny_call_generator (by have := R.ac.deep.1; exact om09 ‹_›) (R.in_K _ _ ho) rfl (by rw [hfs]; exact k2) (by rw [hfs]; exact k3) Fn.body (codeRec_of R.in_K Fn.cd) ?_)
 rw [hbind u hu, Fn.clo]
 refine wpAny_pure (wpAny_newFunctionEnv_cells (by rw [hfs]; exact k1) (fun y hy => ?_) fun env he s2 x => ?_)
 ·rw [List.mem_singleton.mp hy, hfs]; exact .inl hloc
 have hcells : env.cells = [] := by rw [he]; show cellsFrom _ _ _ = _; rw [hfs]; exact cellsFrom_nil _ _ k4
 have hL : env.locals = s.heap.objs.size := by rw [he]; rfl
 have eok : EnvOk env scope := ⟨by rw [he]; exact hfs, hcells, by rw [he]; exact Fn.gl, by rw [he]; exact Fn.bl⟩
 have hns := x.toInCall.ns
 refine zg x.done ?_; intro hJ tk rfl_209 hk; subst rfl_209
 refine zN hns ?_; (try clear hns); intro oL es ep hLo hLd hLk hLf
 refine zK R.role ?_; intro ρ r0 r1 r2 r3 r4
 have lt : ∀ b o, s.heap.get? b = some o -> b ≠ env.locals /\ b ≠ hJ.objs.size := fun b o e => by
  have h1 := Heap.lt_size e
  have h2 := Heap.lt_size (hk b o e)
  exact ⟨by rw [hL]; exact Nat.ne_of_lt h1, Nat.ne_of_lt h2⟩
 have aL : hJ.objs.size ≠ env.locals := fun e => by
  have := Heap.lt_size hLo
  rw [← e] at this; exact Nat.lt_irrefl _ this
 have free : ∀ b, s.heap.get? b = none -> H.objs b = none := fun b hb => R.free_hid hb
 have hLn : s.heap.get? env.locals = none := by rw [hL]; exact zG _
 have han : s.heap.get? hJ.objs.size = none := by
  cases q : s.heap.get? hJ.objs.size with
  | none => rfl
  | some o => exact absurd rfl (lt _ o q).2
 refine ⟨R.nolimit.keeps hk, hJ.objs.size, s.gens.size, env, ⟨fun b => if b = hJ.objs.size then some { cls := .type "generator", data := .fields #[.int s.gens.size 0, .str fd.name tk, .str fd.qualname (tk + 1)] } else if b = env.locals then some oL else H.objs b, (s.gens.size, .fresh (.func body env)) :: H.gens⟩, rfl, eok, ?_, ?_⟩
 ·refine ⟨⟨_, rfl, .inl ⟨rfl, rfl, ⟨oL, setv (fun _ => none) xa (.str z 0), ?_, ⟨es, ep, _, hLd, hLk, hLf, fun y v hy hk' => ?_⟩, if_pos rfl⟩, fun b b1 b2 => ?_⟩⟩, ⟨_, _, _, if_pos rfl, rfl, rfl, rfl⟩, free _ han, free _ hLn, aL, ?_, hcells, ?_, fun p hp => ?_⟩
  ·dsimp only; rw [if_neg (Ne.symm aL), if_pos rfl]
  ·unfold setv at hy
   split at hy
   ·rename_i e
    subst e
    (replace hy := Option.some.inj hy; subst hy)
    have e2 : env.kindOf y = some .local := hk'
    refine ⟨u, ?_, hu⟩
    show bindL env.kindOf [(y, u)] (fun _ => none) y = some u
    simp [bindL, e2]
   exact Mine.ns hy
  ·dsimp only; rw [if_neg b1, if_neg b2]
  ·refine ⟨by rw [eok.scope]; exact k1, eok.gl, eok.bl, R.ac.hd, ?_, fun y hy => ?_, fun y hy => ?_⟩
   ·have := hd.in1 (n := 0)
    exact this
   ·exfalso
    have hy : env.scope.names.lookup y = some .cell := hy
    rw [eok.scope] at hy
    have := List.all_eq_true.mp k4 (y, .cell) (mem_of_lookup hy)
    simp at this
   exfalso
   have hy : env.scope.names.lookup y = some .free := hy
   rw [eok.scope] at hy
   have := List.all_eq_true.mp k4 (y, .free) (mem_of_lookup hy)
   simp at this
  ·rw [hL]
   refine zB R.loc ?_; intro m nn_208 _; obtain ⟨o', _, _, e1, _⟩ := nn_208
   exact Nat.le_trans R.above (Nat.le_of_lt (Heap.lt_size e1))
  have := R.gen p hp
  exact Nat.ne_of_lt (Array.getElem?_eq_some_iff.mp this).1
 have kp : ∀ b o, s.heap.get? b = some o -> (hJ.push { cls := .type "generator", data := .fields #[.int s.gens.size 0, .str fd.name tk, .str fd.qualname (tk + 1)] }).get? b = some o := fun b o e => Heap.get?_push_of_some _ (hk b o e)
 refine zB R.loc ?_; intro m nn_207 hv; obtain ⟨o', es', ep', e1, e2, e3, e4⟩ := nn_207
 refine { ok := R.ok, ac := R.ac, above := R.above, inj := R.inj, os := R.os, bare := R.bare.push rfl, keep := fun b o e => kp b o (R.keep b o e), gen := fun p hp => ?_, hid := fun b o h => ?_, loc := ⟨m, ⟨o', es', ep', kp _ _ e1, e2, e3, e4⟩, hv⟩, cel := fun y b h1 h2 => ?_, fre := fun y b h1 h2 v h3 => ?_, sto := (fun b o e => ?_), role := ⟨fun b => if b = hJ.objs.size ∨ b = env.locals then 3 else ρ b, fun b o e => ?_, ?_, fun y b h1 h2 => ?_, fun b o e => ?_, fun b o e => ?_⟩ }
 ·rcases List.mem_cons.mp hp with rfl | hp
  ·show (s.gens.push _)[s.gens.size]? = _
   simp
  have h := R.gen p hp
  have hl := (Array.getElem?_eq_some_iff.mp h).1
  show (s.gens.push _)[p.1]? = _
  rw [Array.getElem?_push_lt hl, ← h, Array.getElem?_eq_getElem hl]
 ·dsimp only at h
  split at h
  ·rename_i e; subst e; (replace h := Option.some.inj h; subst h); exact Heap.get?_push_size _ rfl
  split at h
  ·rename_i e; subst e; (replace h := Option.some.inj h; subst h); exact Heap.get?_push_of_some _ hLo
  exact kp b o (R.hid b o h)
 ·(refine zB (R.cel y b h1 h2) ?_; intro u' nn_206 hu'; obtain ⟨oc, hcc, hcd⟩ := nn_206)
  exact ⟨u', ⟨oc, kp _ _ hcc, hcd⟩, hu'⟩
 ·(refine zD (R.fre y b h1 h2 v h3) ?_; intro ob u' q1 q2 q3)
  refine zL (lt b ob (R.hid b ob q1)) ?_; intro n1 n2
  exact ⟨ob, u', by dsimp only; rw [if_neg n2, if_neg n1]; exact q1, q2, q3⟩
 ·(refine zB (R.sto b o e) ?_; intro ob q1 q2)
  exact ⟨ob, kp _ _ q1, q2⟩
 ·(refine zL (lt b o (R.keep b o e)) ?_; intro n1 n2)
  dsimp only; rw [if_neg (by rintro (q | q); exact n2 q; exact n1 q)]; exact r0 b o e
 ·(refine zL (lt _ _ e1) ?_; intro n1 n2)
  dsimp only; rw [if_neg (by rintro (q | q); exact n2 q; exact n1 q)]; exact r1
 ·(refine zB (R.cel y b h1 h2) ?_; intro u' nn_205 hu'; obtain ⟨oc, hcc, hcd⟩ := nn_205)
  refine zL (lt _ _ hcc) ?_; intro n1 n2
  dsimp only; rw [if_neg (by rintro (q | q); exact n2 q; exact n1 q)]; exact r2 y b h1 h2
 ·dsimp only at e ⊢
  split at e
  ·rename_i q; rw [if_pos (.inl q)]
  split at e
  ·rename_i q; rw [if_pos (.inr q)]
  rename_i q1 q2
  rw [if_neg (by rintro (q | q); exact q1 q; exact q2 q)]; exact r3 b o e
 refine zB (R.sto b o e) ?_; intro ob q1 q2
 refine zL (lt _ _ q1) ?_; intro n1 n2
 dsimp only; rw [if_neg (by rintro (q | q); exact n2 q; exact n1 q)]; exact r4 b o e
end
end
section
open Sem (wp)
section
variable {S S' SG : St Str} {H H' H1 : Hid} {s s1 : Shared} {gi : Nat}
variable {MOK : Nat -> St Str -> Prop} {J : GI} {z xa : Str} {gbody : List Stmt} {a f : Addr} {scope : Scope} {fd : FuncData}
noncomputable def ForGenPost (g : Gl Str) (c : Ac) (MOK : Nat -> St Str -> Prop) (J : GI) (z xa : Str) (gbody : List Stmt) (scope : Scope) (fd : FuncData) (x y : Str) (body orelse : List Stmt) (Q : Flow -> St Str -> Prop) (w : Value) (S2 : St Str) : Prop :=
 w = .str z 0 /\ (∀ u, er u = .str z 0 -> bindArgs fd ⟨[u], []⟩ = pure [(xa, u)]) /\ (∀ env, EnvOk env scope -> GStart g c.A.in1 env MOK J z xa gbody) /\
   ∃ Inv : Nat -> St Str -> Prop, Inv 0 S2 /\ (∀ i S3, i < J.n -> Inv i S3 -> WXs g c body (stepI x y J i S3) (ForQ Inv i Q)) /\ ∀ S3, Inv J.n S3 -> WXs g c orelse S3 Q
theorem WX_ForGen {x y : Str} {px py pt : Pos} {k : Nat} {fn : Str} {fp cpos : Pos} {arg : Expr} {body orelse : List Stmt} {pos : Pos} {Q : Flow -> St Str -> Prop} {sc : Scope} (hsc : c.env.scope = sc) (hext : c.ext = fun _ => false) (hx : isOwn sc x = true) (hy : isOwn sc y = true)
  (hs : ∀ env v, foldedSetIterable (.Call (.Name fn fp) [arg] [] cpos) env v = pure v) (Fn : FnIs g.K f gbody scope fd) (hgen : scopeGen scope = true) (hloc : scope.names.lookup xa = some .local) (hd : c.Deep 1)
  (hM : ∀ i S, MOK i S -> MOK i ⟨S.m, fun _ => none⟩) (hk : Keeps g.K (.ref f) = true) (ha : notStar arg = true)
  (hf : WE g c (.Name fn fp) S fun v S1 => v = .ref f /\ WE g c arg S1 fun w S2 => ForGenPost g c MOK J z xa gbody scope fd x y body orelse Q w S2) : WX g c (.For (.Tuple [.Name x px, .Name y py] k pt) (.Call (.Name fn fp) [arg] [] cpos) body orelse pos) S Q := by
 refine WX_ForG hs fun H s R => ?_
 refine wpAny_Call_NameR (goK (hf H s R) (fun fv s1 S1 R1 q_ => ?_))
 refine zL q_ ?_; clear q_; intro e hJ
 obtain rfl := zH e
 have hp := z2 (pos := cpos) (env := c.env) (show ([arg] : List Expr).all notStar = true by simp [ha])
 rw [zb ha] at hp ⊢
 have hV : WEs g c [arg] S1 fun vs S2 => ∃ w, vs = [w] /\ ForGenPost g c MOK J z xa gbody scope fd x y body orelse Q w S2 := WEs_cons ha (WE.mono hJ fun w S2 q => WEs_nil ⟨w, rfl, q⟩)
 have := hV cpos H s1 R1
 rw [zb ha] at this
 refine keeps_cw hk hp (evalArgs_plain (wpAny_mono this (fun vs s2 ⟨S2, R2, w, hvs, hw, hbind, start, Inv, i0, turn, fin⟩ => ⟨R2.in_K, ?_⟩) fun _ _ x => x.elim))
 refine zB (z3 hvs) ?_; intro u rfl_211 hu; subst rfl_211
 subst hw
 refine wpAny_mono (gen_make (MOK := MOK) (J := J) Fn hgen hbind hloc hd R2 hu) (fun v s3 q_ => ?_) fun _ _ x => x.elim
 refine el_EEEEAAA q_ ?_; clear q_; intro a gi env H' hv eok p R3
 subst hv
 refine zN p.gen ?_; intro ob nm qn a1 a2 a3 a4
 exact wpAny_pyIter_gen (g := gi) ⟨ob, nm, qn, R3.hid _ _ a1, a2, a3, a4⟩ ⟨S2, J.n, stepI x y J, _, turnsGen g c H x y px py pt k a gi env MOK J z xa gbody hM (start env eok) (by rw [hsc]; exact hx) (by rw [hsc]; exact hy) (by rw [hext]) (by rw [hext]), H', Inv, p, R3, i0, fun _ _ _ => trivial, turn, fin⟩
end
end
section
open PySem PySem.W PySem.Calls PySem.Spec PyProof.Rows PySem.StrLaws
theorem WCmp_notInStr {x y : Str} (h : Q (.bool (Builtin.Str.occurrences x y 0 x.length 1).isEmpty) S) : WCmp g c .NotIn (.str y 0) (.str x 0) S Q := by
 intro u v hu hv H s R
 o_shape
 refine zI (zZ hu) ?_; intro t rfl_214; subst rfl_214
 refine zI (zZ hv) ?_; intro t' rfl_213; subst rfl_213
 refine PyProof.Rows.notIn_str ⟨S, R.toks, ?_⟩
 rw [Bool.not_not]; exact h
noncomputable def strCut (x : Str) (a b : Nat) : Str := ⟨((x.cps.toList.drop a).take (b - a)).toArray⟩
theorem cut_made {x : Str} {t : Tok} {a b : Nat} (hab : a ≤ b) (hb : b ≤ x.length) (hz : x.length ≤ sizeLine) {l u : Option (Int × Tok)} (hl : l.map (·.1) = some (a : Int)) (hu : u.map (·.1) = some (b : Int) ∨ u.map (·.1) = none /\ b = x.length) {Q : Value -> Shared -> Prop} {s : Shared}
  (h : ∀ v tk, er v = .str (strCut x a b) 0 -> Q v { s with toks := tk }) : (sliceMade x t l u none).post Q s := by
 have e : (slicePicked x l u none).filterMap (x.cps[·]?) = (x.cps.toList.drop a).take (b - a) /\ (slicePicked x l u none).length = b - a := by
  unfold slicePicked
  have : Builtin.Str.strSliceIndices (l.map (·.1)) (u.map (·.1)) (((none : Option (Int × Tok)).map (·.1)).getD 1) x.length = Builtin.Str.strSliceIndices (some (a : Int)) (some (b : Int)) 1 x.length := by
   rw [hl]
   rcases hu with hu | ⟨hu, rfl⟩
   ·rw [hu]; rfl
   rw [hu]; exact sliceIdx_none_hi _ _
  rw [this]
  exact ⟨sliced_plain x hab hb, by rw [strSliceIndices_plain hab hb, List.length_map, List.length_range]⟩
 unfold sliceMade
 split
 ·rename_i q
  have q : (slicePicked x l u none).length = x.length := by simpa using q
  rw [e.2] at q
  have ha : a = 0 := by omega
  have hb' : b = x.length := by (subst_vars; rfl)
  refine h _ s.toks ?_
  show Value.str x 0 = _
  unfold strCut
  subst ha hb'
  have : ((x.cps.toList.drop 0).take (x.length - 0)).toArray = x.cps := by
   rw [List.drop_zero, Nat.sub_zero, List.take_of_length_le (by simp [Str.length])]
  rw [this]
 refine ⟨?_, h _ _ ?_⟩
 ·show ((slicePicked x l u none).filterMap (x.cps[·]?)).toArray.size ≤ _
  rw [e.1]
  have : ((x.cps.toList.drop a).take (b - a)).length ≤ x.length := by
   rw [List.length_take, List.length_drop]
   have : x.cps.toList.length = x.length := by simp [Str.length]
   lia
  simpa using Nat.le_trans this hz
 show Value.str _ 0 = _
 unfold strCut
 rw [e.1]
theorem WE_SliceS {value : Expr} {lower upper : Option Expr} {p pos : Pos} (hlt : ∀ o r, letTemporaryGo value o r = pure ())
  (h : WE g c value S fun v S1 => ∃ x, v = .str x 0 /\ WPart g c lower S1 fun lo S2 => WPart g c upper S2 fun hi S3 => ∃ a b : Nat, lo = some (a : Int) /\ (hi = some (b : Int) ∨ hi = none /\ b = x.length) /\ a ≤ b /\ b ≤ x.length /\ x.length ≤ sizeLine /\ Q (.str (strCut x a b) 0) S3) :
  WE g c (.Subscript value (.Slice lower upper none p) pos) S Q := by
 intro H s R
 o_shape
 refine wpAny_Subscript_str_slice (wpAny_mono (h H s R) (fun o s1 ⟨S1, R1, x, e, q⟩ => wpAny_mono (q H s1 R1) (fun vl s2 ⟨S2, R2, l, ec, qc⟩ => goK (qc H s2 R2) (fun vu s3 S3 R3 q_ => ?_)) fun _ _ x => x.elim) fun _ _ x => x) hlt
 refine el_EAEEAAAAA q_ ?_; clear q_; intro u ed a b hl hu hab hb hz qf
 refine zI (zZ e) ?_; intro t rfl_212; subst rfl_212
 refine ⟨x, t, l, u, rfl, ec, ed, cut_made hab hb hz hl hu fun v tk hv => ⟨S3, R3.grow (tk := tk) fun b o e => Heap.get?_push_of_some _ e, by show Q (er v) S3; rw [hv]; exact qf⟩⟩
end
section
open Sem (wp)
theorem W_entry {A : Around} (hAf : A.frames = some []) (hAh : A.handled = none) {n : Nat} (hd : A.depth + 4 * (n + 1) + 20 < recursionLimit /\ A.units + 20 * (n + 1) + 100 < cLine) (ok : g.Ok)
  {f : Addr} {body : List Stmt} {scope : Scope} {fd : FuncData} (Fn : FnIs g.K f body scope fd) (hsc : scopeOk scope = true) {us : List Value} {bs : List (Str × Value)} (hb : bindArgs fd ⟨us, []⟩ = pure bs)
  (hkind : ((bs.map fun p => (p.1, er p.2)).all fun y => scope.names.lookup y.1 == some .local || scope.names.lookup y.1 == some .cell) = true) {s : Shared} (hs : s.heap = g.hU) (hos : s.os = g.os) (hbare : AllBare s.gens) {P : Value -> Prop}
  (h : ∀ c' : Ac, c'.env.scope = scope -> c'.ext = (fun _ => false) -> c'.Deep n -> WXsF g c' body ⟨bindM (bs.map fun p => (p.1, er p.2)) fun _ => none, fun _ => none⟩ fun fl _ => P (retV fl)) :
  wpAny (model g.prog g.w) A (call (.ref f) us) (fun v s' => P (er v) /\ (∀ b o, g.hU.get? b = some o -> s'.heap.get? b = some o) /\ s'.os = g.os /\ AllBare s'.gens) (fun _ _ => False) s := by
 refine el_EEE Fn.at_ ?_; intro oc od osl ho
 have hK : g.K.In s.heap := by rw [hs]; exact ok.k
 obtain ⟨k1, k2, k3⟩ : scope.kind = .function /\ scope.isCoroutine = false /\ scope.isGenerator = false := by
  simp only [scopeOk, Bool.and_eq_true, beq_iff_eq, Bool.not_eq_true'] at hsc
  exact ⟨hsc.1.1.1, hsc.1.1.2, hsc.1.2⟩
 have hfs := Fn.scope
 have k5 : (scope.names.all fun y => y.2 != .free) = true := by
  simp only [scopeOk, Bool.and_eq_true] at hsc
  exact hsc.2
 refine wpAny_call (codeAny_mono (codeAny_call_cells (by have := hd.1; lia) (hK _ _ ho) rfl (by rw [hs]; exact ok.lim) (codeRec_of hK Fn.cd) Fn.body hb Fn.clo (fun y hy => ?_) (fun s1 x => ?_) (by rw [hfs]; exact k2) (by rw [hfs]; exact k3) (by rw [hfs]; exact k1)) fun r s' q => q)
 ·rw [hfs]
  have := List.all_eq_true.mp hkind (y.1, er y.2) (List.mem_map.mpr ⟨y, hy, rfl⟩)
  rcases Bool.or_eq_true_iff.mp this with q | q
  ·exact .inl (by simpa using q)
  have q' : scope.names.lookup y.1 = some .cell := by simpa using q
  exact .inr ⟨q', cellsFrom_some _ _ _ (.inl q')⟩
 refine zg x.done ?_; intro hJ tk rfl_215 hk; subst rfl_215
 have hlt : ∀ b o, s.heap.get? b = some o -> b < s.heap.objs.size := fun b o e => Heap.lt_size e
 have cellLt : ∀ y a, (callEnvC fd s.heap.objs.size f).cells.lookup y = some a -> s.heap.objs.size < a := fun y a e => x.above y a (mem_of_lookup e)
 subst hfs
 have R : Rel g ⟨A.deeper (callEnvC fd s.heap.objs.size f), callEnvC fd s.heap.objs.size f, fun _ => false⟩ ⟨fun _ => none, []⟩ ⟨bindM (bs.map fun p => (p.1, er p.2)) fun _ => none, fun _ => none⟩ { s with heap := hJ, toks := tk } := by
  refine { ok := ok, ac := ?_, above := ?_, os := hos, bare := hbare, gen := (fun p hp => nomatch hp), keep := (fun b o e => hk b o (by rw [hs]; exact e)), hid := (fun b o e => nomatch e), loc := ?_, cel := ?_, inj := ?_, fre := ?_, sto := (fun a o e => nomatch e), role := ?_ }
  ·refine { kind := k1, gl := Fn.gl, bl := Fn.bl, hd := hAh, deep := ?_, cells := fun y hy => ?_, frees := fun y hy => absurd hy (no_free k5 y) }
   ·unfold Ac.Deep
    simp only [Around.deeper]
    exact om02 ‹_›
   exact Option.isSome_iff_exists.mp (cellsFrom_some _ _ _ (.inl hy))
  ·rw [← hs]; exact Nat.le_refl _
  ·exact ⟨_, x.toInCall.ns, fun y v e hy => (bindM_ok (kindOf := (callEnvC fd s.heap.objs.size f).kindOf) bs _ (fun _ => none) (fun _ => none) (fun _ _ e => by exact Mine.ns e) y v e).1 hy⟩
  ·intro y a ha hy
   refine ⟨_, x.cell y a ha, fun v e => ?_⟩
   refine zB ((bindM_ok (kindOf := (callEnvC fd s.heap.objs.size f).kindOf) bs _ (fun _ => none) (fun _ => none) (fun _ _ e => by cases e) y v e).2 hy.1) ?_; intro u e1 e2
   rw [e1]; exact congrArg some e2
  ·intro y z a h1 h2 _ _
   exact name_of_addr x.apart (mem_of_lookup h1) (mem_of_lookup h2)
  ·intro y a h1 h2
   exact Mine.ft h2
  refine ⟨fun b => if b = s.heap.objs.size then 1 else if s.heap.objs.size ≤ b then 2 else 0, fun b o e => ?_, if_pos rfl, fun y a h1 h2 => ?_, fun b o e => (nomatch e), fun b o e => (nomatch e)⟩
  ·have := hlt b o (by rw [hs]; exact e)
   dsimp only
   rw [if_neg (Nat.ne_of_lt this), if_neg (Nat.not_le.mpr this)]
  have := cellLt y a h1
  dsimp only
  rw [if_neg (Nat.ne_of_gt this), if_pos (Nat.le_of_lt this)]
 have Fo : FrOk g ⟨A.deeper (callEnvC fd s.heap.objs.size f), callEnvC fd s.heap.objs.size f, fun _ => false⟩ [] ⟨fun _ => none, []⟩ := by
  refine ⟨⟨[], ?_, rfl, (fun env he => nomatch he)⟩, rfl, (fun L hL => nomatch hL)⟩
  show A.frames.map _ = _
  rw [hAf]; rfl
 refine goF (h ⟨A.deeper (callEnvC fd s.heap.objs.size f), callEnvC fd s.heap.objs.size f, fun _ => false⟩ rfl rfl ?_ _ _ _ Fo R) (fun fl s' H' u S' R' q => ?_)
 ·unfold Ac.Deep
  simp only [Around.deeper]
  exact om01 ‹_›
 cases fl <;> exact ⟨q, R'.keep, R'.os, R'.bare⟩
end
theorem z0 {st : Stmt} {ss : List Stmt} {Q : Flow -> St Str -> Prop} (h : let Q' : Flow -> St Str -> Prop := SeqQ g c ss Q; WX g c st S Q') : WXs g c (st :: ss) S Q := WXs_cons h
theorem zp {st : Stmt} {ss : List Stmt} {Q : Flow -> St Str -> Prop} (h : let Q' : Flow -> St Str -> Prop := SeqQF g c ss Q; WXF g c st S Q') : WXsF g c (st :: ss) S Q := WXsF_cons h
theorem zR {c : Prop} [Decidable c] {P R : Prop} (h : c) (p : P) : if c then P else R := by rw [if_pos h]; exact p
theorem zS {c : Prop} [Decidable c] {P R : Prop} (h : ¬ c) (p : R) : if c then P else R := by rw [if_neg h]; exact p
section
open Sem (wp)
section
variable {A : Around} {env : Env} {MOK : Nat -> St Str -> Prop} {z x y : Str} {J : GI} {target : Expr} {body rest fbody : List Stmt} {e it : Addr}
noncomputable def Yields (g : Gl Str) (A : Around) (env : Env) (MOK : Nat -> St Str -> Prop) (z x y : Str) (J : GI) (target : Expr) (body fbody : List Stmt) (B₀ B : St Str -> Prop) (i m : Nat) : Prop :=
 ∀ (S : St Str), B S -> ∀ (e : Addr) (kk : Result -> Sem Fin) (l : List Value) (p : Pos) (H : Hid) (s : Shared) (Hx : Value -> Sem Fin) (Φ : End -> Shared -> Prop), Rel g ⟨A, env, fun _ => false⟩ H (enumStepS x y z i S) s ->
  (∀ T S' s' l' k' p', Rel g ⟨A, env, fun _ => false⟩ H S' s' -> S'.σ T = some (.tup (J.yv m)) -> MOK (m + 1) S' ->
   (∀ (Φ' : End -> Shared -> Prop) (H2 : Hid) (S2 : St Str) (s2 : Shared), Rel g ⟨A, env, fun _ => false⟩ H2 S2 s2 -> MOK (m + 1) S2 ->
    (∀ S3 s3, Rel g ⟨A, env, fun _ => false⟩ H2 S3 s3 -> B₀ S3 -> Seg1 (model g.prog g.w) A Φ' (.forLoop target (.ref e) body [] env) (.pure (.again (.forLoop target (.ref e) body [] env))) [.ret kk none false l (.func fbody env) p []] s3) ->
    Seg1 (model g.prog g.w) A Φ' (.forLoop target (.ref e) body [] env) (k' (.send .none)) [.ret kk none false l (.func fbody env) p []] s2) ->
   Φ (.susp (.ref T) false l' k' (.forLoop target (.ref e) body [] env) p' [.ret kk none false l (.func fbody env) p []]) s') ->
  Seg1 (model g.prog g.w) A Φ (.forLoop target (.ref e) body [] env) ((execs body env).wrap (turnK target (.ref e) body [] env) Hx id id) [.ret kk none false l (.func fbody env) p []] s
structure GenBody2 (g : Gl Str) (A : Around) (env : Env) (MOK : Nat -> St Str -> Prop) (z x y : Str) (J : GI) (target : Expr) (body rest fbody : List Stmt) (B₀ B₁ : St Str -> Prop) : Prop where
 ok : Ac.Ok ⟨A, env, fun _ => false⟩
 deep : Ac.Deep ⟨A, env, fun _ => false⟩ 1
 tgt : ∃ px py k pt, target = .Tuple [.Name x px, .Name y py] k pt
 hx : isOwn env.scope x = true
 hy : isOwn env.scope y = true
 end_ : J.at_ J.n = z.cps.size
 lt_ : ∀ m, m < J.n -> J.at_ (m + 1) ≤ z.cps.size
 item_ : ∀ m, m < J.n -> (J.at_ (m + 1) = J.at_ m + 1 /\ Yields g A env MOK z x y J target body fbody B₀ B₀ (J.at_ m) m) ∨
  (J.at_ (m + 1) = J.at_ m + 1 + 1 /\ (∀ S A', B₀ S -> WXs g ⟨A', env, fun _ => false⟩ body (enumStepS x y z (J.at_ m) S) fun f S' => f = .next /\ B₁ S') /\ Yields g A env MOK z x y J target body fbody B₀ B₁ (J.at_ m + 1) m)
 rest_ : ∀ S, B₀ S -> WXs g ⟨A.over (.func fbody env) [], env, fun _ => false⟩ rest S fun f _ => f = .next
theorem gen_loop2 {B₀ B₁ : St Str -> Prop} (B : GenBody2 g A env MOK z x y J target body rest fbody B₀ B₁) (hne : e ≠ it) {Hx : Value -> Sem Fin} :
  ∀ (k : Nat), k ≤ J.n -> ∀ (H H' : Hid) (s : Shared) (S : St Str) (kk : Result -> Sem Fin) (l : List Value) (p : Pos), kk (.ok .next) = (execs rest env).wrap (fun f => .pure (.done (.ret (match f with | .ret v => v | _ => .none)))) Hx id id ->
   H.objs e = none -> H.objs it = none -> EP z e it (J.at_ (J.n - k)) H H' -> Rel g ⟨A, env, fun _ => false⟩ H' S s -> B₀ S ->
   Seg1 (model g.prog g.w) A (GPost g A env MOK z J e it k H) (.forLoop target (.ref e) body [] env) ((model g.prog g.w).den (.forLoop target (.ref e) body [] env)) [.ret kk none false l (.func fbody env) p []] s := by
 obtain ⟨px, py, kt, pt, rfl⟩ := B.tgt
 intro k
 induction k with
 | zero =>
  intro hk H H' s S kk l p hkk he hi ep R mok
  have R1 : Rel g ⟨A.over (.forLoop (.Tuple [.Name x px, .Name y py] kt pt) (.ref e) body [] env) [.ret kk none false l (.func fbody env) p []], env, fun _ => false⟩ H' S s := R.around (okG_loop B.ok B.deep)
  have ep : EP z e it z.cps.size H H' := by rw [← B.end_]; exact ep
  refine seg1_forLoop (wpAny_mono ((turnsEnumS g ⟨A.over (.forLoop (.Tuple [.Name x px, .Name y py] kt pt) (.ref e) body [] env) [.ret kk none false l (.func fbody env) p []], env, fun _ => false⟩ H x y px py pt kt e it z he hi hne B.hx B.hy rfl rfl).done H' S s ep R1 trivial) (fun r s1 q_ => ?_) fun _ _ x => x.elim)
  obtain ⟨hr, R2⟩ := q_
  subst hr
  intro Hx2
  refine seg1_execs_nil (seg1_leaf (.ok .next) ?_)
  rw [hkk]
  refine zT (goK (B.rest_ S mok H s1 (R2.around (okG_func B.ok B.deep))) (fun f s2 S' R3 hf => ?_))
  cases f with
  | next => exact seg1_end (.ok (.ret .none)) ⟨rfl, S', R3.around B.ok⟩
  | brk => exact (nomatch hf)
  | cont => exact (nomatch hf)
  | ret v => exact (nomatch hf)
 | succ k ih =>
  intro hk H H' s S kk l p hkk he hi ep R mok
  have hlt : J.n - (k + 1) < J.n := by omega
  have hm : J.n - (k + 1) + 1 = J.n - k := by exact om45 ‹_›
  have le := B.lt_ _ hlt
  have yields : ∀ (B' : St Str -> Prop) (i : Nat), J.at_ (J.n - (k + 1) + 1) = i + 1 -> i < z.cps.size -> Yields g A env MOK z x y J (.Tuple [.Name x px, .Name y py] kt pt) body fbody B₀ B' i (J.n - (k + 1)) -> ∀ (H' : Hid) (s : Shared) (S : St Str), EP z e it i H H' -> Rel g ⟨A, env, fun _ => false⟩ H' S s -> B' S ->
    Seg1 (model g.prog g.w) A (GPost g A env MOK z J e it (k + 1) H) (.forLoop (.Tuple [.Name x px, .Name y py] kt pt) (.ref e) body [] env) ((model g.prog g.w).den (.forLoop (.Tuple [.Name x px, .Name y py] kt pt) (.ref e) body [] env)) [.ret kk none false l (.func fbody env) p []] s := by
   intro B' i hat hlt' Y H' s S ep R mok
   have R1 : Rel g ⟨A.over (.forLoop (.Tuple [.Name x px, .Name y py] kt pt) (.ref e) body [] env) [.ret kk none false l (.func fbody env) p []], env, fun _ => false⟩ H' S s := R.around (okG_loop B.ok B.deep)
   refine seg1_forLoop (wpAny_mono ((turnsEnumS g ⟨A.over (.forLoop (.Tuple [.Name x px, .Name y py] kt pt) (.ref e) body [] env) [.ret kk none false l (.func fbody env) p []], env, fun _ => false⟩ H x y px py pt kt e it z he hi hne B.hx B.hy rfl rfl).turn i H' S s hlt' ep R1 trivial) (fun r s1 q_ => ?_) fun _ _ x => x.elim)
   obtain ⟨v, hr, h⟩ := q_
   subst hr
   refine wpAny_mono h (fun _ s2 hV => wpAny_mono hV (fun _ s3 ⟨H'', hP'', R3⟩ Hx2 => ?_) fun _ _ x => x) fun _ _ x => x
   have hP'' : EP z e it (J.at_ (J.n - k)) H H'' := by rw [← hm, hat]; exact hP''
   refine Y S mok e kk l p H'' s3 Hx2 _ (R3.around B.ok) fun T S' s' l' k' p' R' hT mok' hk' => ⟨⟨T, l', k', _, p', _, rfl, H'', S', hP'', R', hm ▸ mok', hT⟩, fun H2 H2' s2' S2 he2 hi2 ep2 R2 mok2 => ?_⟩
   show Seg1 _ _ _ _ (k' (.send .none)) _ _
   exact hk' _ H2' S2 s2' R2 (hm ▸ mok2) fun S3 s3 R3' ba => seg1_again rfl (ih (Nat.le_of_succ_le hk) H2 H2' s3 S3 kk l p hkk he2 hi2 ep2 R3' ba)
  rcases B.item_ _ hlt with ⟨hat, Y⟩ | ⟨hat, sk, Y⟩
  ·exact yields B₀ _ hat (by lia) Y H' s S ep R mok
  have R1 : Rel g ⟨A.over (.forLoop (.Tuple [.Name x px, .Name y py] kt pt) (.ref e) body [] env) [.ret kk none false l (.func fbody env) p []], env, fun _ => false⟩ H' S s := R.around (okG_loop B.ok B.deep)
  refine seg1_forLoop (wpAny_mono ((turnsEnumS g ⟨A.over (.forLoop (.Tuple [.Name x px, .Name y py] kt pt) (.ref e) body [] env) [.ret kk none false l (.func fbody env) p []], env, fun _ => false⟩ H x y px py pt kt e it z he hi hne B.hx B.hy rfl rfl).turn (J.at_ (J.n - (k + 1))) H' S s (by lia) ep R1 trivial) (fun r s1 q_ => ?_) fun _ _ x => x.elim)
  obtain ⟨v, hr, h⟩ := q_
  subst hr
  refine wpAny_mono h (fun _ s2 hV => wpAny_mono hV (fun _ s3 ⟨H'', hP'', R3⟩ Hx2 => ?_) fun _ _ x => x) fun _ _ x => x
  refine zT (goK (sk S _ mok H'' s3 R3) (fun f s4 S4 R4 q => ?_))
  obtain ⟨hf, bb⟩ := q
  cases f with
  | next => exact seg1_again rfl (yields B₁ _ hat (by lia) Y H'' s4 S4 hP'' (R4.around B.ok) bb)
  | brk => exact (nomatch hf)
  | cont => exact (nomatch hf)
  | ret v => exact (nomatch hf)
end
end
noncomputable def itemsL : List Nat -> Nat -> List (Nat × Str × Nat)
 | [], _ => []
 | [c], i => [(i, ⟨#[c]⟩, i + 1)]
 | c :: d :: r, i => if c = 92 then (i + 1, ⟨#[92, d]⟩, i + 2) :: itemsL r (i + 2) else (i, ⟨#[c]⟩, i + 1) :: itemsL (d :: r) (i + 1)
noncomputable def escOk : List Nat -> Bool
 | [] => true
 | [c] => c != 92
 | c :: d :: r => if c = 92 then escOk r else escOk (d :: r)
noncomputable def stL (l : List Nat) (i : Nat) : Nat -> Nat
 | 0 => i
 | m + 1 => ((itemsL l i).getD m (0, Str.empty, 0)).2.2
theorem stL_succ {l r : List Nat} {i j : Nat} {x : Nat × Str × Nat} (h : itemsL l i = x :: itemsL r j) (hx : x.2.2 = j) : ∀ m, stL l i (m + 1) = stL r j m
 | 0 => by unfold stL; rw [h]; exact hx
 | m + 1 => by unfold stL; rw [h]; rfl
theorem item_spec : ∀ (l : List Nat) (i m : Nat), escOk l = true -> m < (itemsL l i).length -> ∃ o c, stL l i m = i + o /\ l[o]? = some c /\
  ((c ≠ 92 /\ (itemsL l i).getD m (0, Str.empty, 0) = (i + o, ⟨#[c]⟩, i + o + 1)) ∨ (c = 92 /\ ∃ d, l[o + 1]? = some d /\ (itemsL l i).getD m (0, Str.empty, 0) = (i + o + 1, ⟨#[92, d]⟩, i + o + 1 + 1)))
 | [], i, m, _, h => nomatch h
 | [c], i, m, e, h => by
  obtain rfl : m = 0 := Nat.lt_one_iff.mp h
  exact ⟨0, c, rfl, rfl, .inl ⟨by simpa [escOk] using e, rfl⟩⟩
 | c :: d :: r, i, m, e, h => by
  unfold escOk at e
  by_cases q : c = 92
  ·rw [if_pos q] at e
   have eq : itemsL (c :: d :: r) i = (i + 1, ⟨#[92, d]⟩, i + 2) :: itemsL r (i + 2) := by rw [itemsL, if_pos q]
   cases m with
   | zero => exact ⟨0, c, rfl, rfl, .inr ⟨q, d, rfl, by rw [eq]; rfl⟩⟩
   | succ m =>
    rw [eq] at h
    obtain ⟨o, c', h1, h2, h3⟩ := item_spec r (i + 2) m e (Nat.lt_of_succ_lt_succ h)
    have a1 : i + 2 + o = i + (o + 2) := by exact Nat.add_right_comm _ _ _
    refine ⟨o + 2, c', by rw [stL_succ eq rfl, h1, a1], h2, ?_⟩
    rw [eq, ← a1]
    exact h3
  rw [if_neg q] at e
  have eq : itemsL (c :: d :: r) i = (i, ⟨#[c]⟩, i + 1) :: itemsL (d :: r) (i + 1) := by rw [itemsL, if_neg q]
  cases m with
  | zero => exact ⟨0, c, rfl, rfl, .inl ⟨q, by rw [eq]; rfl⟩⟩
  | succ m =>
   rw [eq] at h
   obtain ⟨o, c', h1, h2, h3⟩ := item_spec (d :: r) (i + 1) m e (Nat.lt_of_succ_lt_succ h)
   have a1 : i + 1 + o = i + (o + 1) := by exact Nat.add_right_comm _ _ _
   refine ⟨o + 1, c', by rw [stL_succ eq rfl, h1, a1], h2, ?_⟩
   rw [eq, ← a1]
   exact h3
theorem item_end : ∀ (l : List Nat) (i : Nat), stL l i (itemsL l i).length = i + l.length
 | [], i => rfl
 | [c], i => rfl
 | c :: d :: r, i => by
  by_cases q : c = 92
  ·have eq : itemsL (c :: d :: r) i = (i + 1, ⟨#[92, d]⟩, i + 2) :: itemsL r (i + 2) := by rw [itemsL, if_pos q]
   have := item_end r (i + 2)
   rw [show (itemsL (c :: d :: r) i).length = (itemsL r (i + 2)).length + 1 by rw [eq]; rfl, stL_succ eq rfl, this]
   simp only [List.length_cons]; exact Nat.add_right_comm _ _ _
  have eq : itemsL (c :: d :: r) i = (i, ⟨#[c]⟩, i + 1) :: itemsL (d :: r) (i + 1) := by rw [itemsL, if_neg q]
  have := item_end (d :: r) (i + 1)
  rw [show (itemsL (c :: d :: r) i).length = (itemsL (d :: r) (i + 1)).length + 1 by rw [eq]; rfl, stL_succ eq rfl, this]
  simp only [List.length_cons]; exact Nat.add_right_comm _ _ _
noncomputable def giOf (z : Str) : GI where
 n := (itemsL z.cps.toList 0).length
 pos m := ((itemsL z.cps.toList 0).getD m (0, Str.empty, 0)).1
 txt m := ((itemsL z.cps.toList 0).getD m (0, Str.empty, 0)).2.1
 at_ m := stL z.cps.toList 0 m
theorem gi_end (z : Str) : (giOf z).at_ (giOf z).n = z.cps.size := by
 exact (item_end z.cps.toList 0).trans (Nat.zero_add _)
theorem gi_item {z : Str} (e : escOk z.cps.toList = true) {m : Nat} (h : m < (giOf z).n) : ∃ c, z.cps[(giOf z).at_ m]? = some c /\
  ((c ≠ 92 /\ (giOf z).at_ (m + 1) = (giOf z).at_ m + 1 /\ (giOf z).yv m = [.int ((giOf z).at_ m) 0, .str ⟨#[c]⟩ 0]) ∨
     (c = 92 /\ ∃ d, z.cps[(giOf z).at_ m + 1]? = some d /\ (giOf z).at_ (m + 1) = (giOf z).at_ m + 1 + 1 /\ (giOf z).yv m = [.int (((giOf z).at_ m + 1 : Nat) : Int) 0, .str ⟨#[92, d]⟩ 0])) := by
 obtain ⟨o, c, h1, h2, h3⟩ := item_spec z.cps.toList 0 m e h
 rw [Nat.zero_add] at h1 h3
 have hat : (giOf z).at_ m = o := h1
 have hs : (giOf z).at_ (m + 1) = ((itemsL z.cps.toList 0).getD m (0, Str.empty, 0)).2.2 := rfl
 have hy : (giOf z).yv m = [.int (((itemsL z.cps.toList 0).getD m (0, Str.empty, 0)).1 : Nat) 0, .str ((itemsL z.cps.toList 0).getD m (0, Str.empty, 0)).2.1 0] := rfl
 refine ⟨c, by rw [hat, ← Array.getElem?_toList]; exact h2, ?_⟩
 rcases h3 with ⟨hc, h3⟩ | ⟨hc, d, hd, h3⟩
 ·exact .inl ⟨hc, by rw [hs, h3, hat], by rw [hy, h3, hat]⟩
 exact .inr ⟨hc, d, by rw [hat, ← Array.getElem?_toList]; exact hd, by rw [hs, h3, hat], by rw [hy, h3, hat]⟩
theorem boot_list : bootBuiltins "list" = some (.type "list") := by decide +kernel
theorem WIn_floordiv {i j : Int} (hj : j ≠ 0) (hs : j.natAbs < 1073741824) (h : Q (.int (i.fdiv j) 0) S) : WIn g c .FloorDiv (.int i 0) (.int j 0) S Q := by
 intro u v hu hv H s R
 o_shape
 refine zI (zf hu) ?_; intro t rfl_132; subst rfl_132
 refine zI (zf hv) ?_; intro t' rfl_131; subst rfl_131
 exact ifloordiv_int hj ⟨S, R.toks, h⟩ (.inl (PyProof.noPylong_small hs))
theorem rangeKs_er : ∀ {us : List Value} {ns : List Int}, IntsAre us ns -> us.map er = iL ns
 | _, _, .nil => rfl
 | _, _, .cons n t h => by
  show er _ :: _ = _
  rw [List.map_congr_left (fun _ _ => rfl), rangeKs_er h]; rfl
theorem WC_listR {n : Nat} (ha : S.σ a = some (rngO 0 n 1)) (hz : n ≤ 1000) (h : ∀ D, S.σ D = none -> Q (.ref D) ⟨S.m, upd S.σ D (.list (iL (rangeKs 0 n)))⟩) : WC g c (.type "list") [.ref a] S Q := by
 intro us hu H s R
 o_shape
 refine zB (z3 hu) ?_; intro u rfl_1; intro hu1; subst rfl_1
 obtain rfl := zH hu1
 obtain ⟨ob, h1, t, u, v, rfl⟩ := R.raw ha
 refine zJ R.led ?_; intro m F N' hl
 have hn : Builtin.Range.rangeSize 0 n 1 = (n : Int) := by
  have := size_one_nonneg 0 n
  have e := rngN_one (n : Int)
  unfold rngN at e
  lia
 refine call_list_range (n := n) R.ac.hd h1 (small_nat (by lia) (by lia) (by lia) (by lia)) hn (by lia) fun h' tk acc c' hk hD hI => ?_
 have hi : IntsAre acc.toList (rangeKs 0 n) := kll_ints _ _ _ (by rw [Array.length_toList]; exact hI.1) fun j v hj => hI.2 j v (by rw [← hj, Array.getElem?_toList])
 refine zL (R.backNew (tk := tk) (o := .list (iL (rangeKs 0 n))) hl (F.keeps hk) (news_pushed F N' hk hD rfl) (zG _) (Is.list (by rw [rangeKs_er hi]))) ?_; intro hn R3
 exact ⟨_, R3, h _ hn⟩
theorem kl_cut_at : ∀ {p : List Value} {y : Value} {q : List Value}, kl_cut (p ++ y :: q) p.length = some (p, y, q)
 | [], _, _ => rfl
 | x :: p, y, q => by
  show (match kl_cut (p ++ y :: q) p.length with | some (p, y, q) => some (x :: p, y, q) | none => none) = _
  rw [kl_cut_at]
theorem WC_popAt {x : Value} {i : Int} {k : Nat} (ha : S.σ a = some (.list (xs ++ x :: ys))) (hi : i = k) (hk : k = xs.length) (hz : xs.length + ys.length + 1 ≤ 1000) (h : Q x ⟨S.m, upd S.σ a (.list (xs ++ ys))⟩) : WC g c (.builtin "list.pop") [.ref a, .int i 0] S Q := by
 subst hi hk
 intro us hu H s R
 o_shape
 refine zD (map2 hu) ?_; intro u v rfl_1 hu1 hv; subst rfl_1
 obtain rfl := zH hu1
 refine zI (zf hv) ?_; intro t rfl_2; subst rfl_2
 refine zE (R.list ha) ?_; intro arr n h1 h2 h3 h4
 refine zJ R.led ?_; intro m F N' hl
 obtain ⟨p, y, q, e1, e2, e3, e4⟩ : ∃ p y q, arr.toList = p ++ y :: q /\ p.map er = xs /\ er y = x /\ q.map er = ys := by
  refine zD (List.map_eq_append_iff.mp h3) ?_; intro p l e1 e2 e3
  cases l with
  | nil => exact nomatch e3
  | cons y q =>
   rw [List.map_cons] at e3
   exact ⟨p, y, q, e1, e2, (List.cons.inj e3).1, (List.cons.inj e3).2⟩
 have hlp : p.length = xs.length := by rw [← e2, List.length_map]
 have hla : arr.toList.length = xs.length + ys.length + 1 := by
  have := congrArg List.length h3
  rw [List.length_map, List.length_append, List.length_cons] at this
  omega
 refine zB (R.updLed h1 ha (listOf (p ++ q).toArray (n + 1))) ?_; intro news' U back
 refine kl_popAt (k := xs.length) F N' ?_ ?_ (by rw [e1, ← hlp]; exact kl_cut_at) U (by rw [hla, sizeLine_eq]; lia) (fun h' F' N' => ⟨⟨S.m, upd S.σ a (.list (xs ++ ys))⟩, back hl F' N' (Is.list (by rw [← e2, ← e4, ← List.map_append])), by subst e3; exact h⟩)
 ·unfold Builtin.List.listFitsIndex
  simp
  lia
 unfold seqIndex?
 have : arr.size = xs.length + ys.length + 1 := by rw [← Array.length_toList]; exact hla
 simp [this]
 lia
theorem zY {scope : Scope} {x : Str} {y : Value} {m : Str -> Option Value} {σ : Addr -> Option (AO Str)} (hf : extOf scope x = false) : Le ⟨compM scope m, σ⟩ ⟨setv (compM scope m) x y, σ⟩ where
 m z w e := by
  refine (if_neg ?_).trans e
  rintro rfl
  have e : compM scope m z = some w := e
  unfold compM at e
  have hf : (scope.names.lookup z == some .free) = false := hf
  rw [hf] at e
  exact nomatch e
 s b o e := e
inductive CompVPost (g : Gl Str) (c : Ac) (scope : Scope) (sc : Scope) (x : Str) (ifs : List Expr) (elt : Expr) (Q : Value -> St Str -> Prop) (v : Value) (S1 : St Str) : Prop
 | mk {α : Type} (l : List α) (e : α -> Value) (Ok : St Str -> Prop) (F : α -> Option Value) (h_1 : Iterable g c v (l.map e) Ok S1) (h_2 : ∀ S2 : St Str, (∀ b o, S1.σ b = some o -> S2.σ b = some o) -> Ok S2) (h_3 : l.length ≤ 1000)
  (h_4 : ∀ c' : Ac, c'.env.scope = relabelS scope sc -> c'.ext = extOf scope -> (∀ n, c.Deep n -> c'.Deep n) -> ∀ y ∈ l,
    WIfs g c' ifs ⟨setv (compM scope S1.m) x (e y), S1.σ⟩ fun b S4 => if b = true then WE g c' elt S4 (fun z S5 => F y = some z /\ Le ⟨compM scope S1.m, S1.σ⟩ S5) else F y = none /\ Le ⟨compM scope S1.m, S1.σ⟩ S4)
  (h_5 : ∀ a, S1.σ a = none -> Q (.ref a) ⟨S1.m, upd S1.σ a (.list (l.filterMap F))⟩) : CompVPost g c scope sc x ifs elt Q v S1
theorem WIfs.le {ifs : List Expr} {Q : Bool -> St Str -> Prop} (l : Le S' S) (h : WIfs g c ifs S' Q) : WIfs g c ifs S Q := WM.le h l.m l.s
theorem WE.drop {e : Expr} (h : WE g c e S fun v S' => ∃ S'', Le S'' S' /\ Q v S'') : WE g c e S Q := WM.drop (Q := fun v S' => Q (er v) S') h
theorem WE_CompV {elt iter : Expr} {x : Str} {px : Pos} {ifs : List Expr} {scope sc : Scope} {pos : Pos} (hs : ∀ env x, foldedSetIterable iter env x = pure x) (he : c.env.scope = sc) (hsc : compOk scope sc = true) (hk : isOwn (relabelS scope sc) x = true) (hf : extOf scope x = false)
  (h : WE g c iter S (CompVPost g c scope sc x ifs elt Q)) : WE g c (.ListComp elt [⟨.Name x px, iter, ifs, 0⟩] scope pos) S Q := by
 refine WE.drop (WE_Comp hs he hsc hk hf (WE.mono h fun v S1 q_ => ?_))
 obtain ⟨l, e, Ok, F, hit, hok, hz, turn, fin⟩ := q_
 refine ⟨l.map e, Ok, hit, fun i acc S' => acc = (l.take i).filterMap F /\ Le ⟨compM scope S1.m, S1.σ⟩ S', ⟨rfl, Le.refl _⟩, fun i acc S2 ⟨h1, h2⟩ => ⟨hok S2 h2.s, ?_⟩, by rw [List.length_map, sizeLine_eq]; lia, fun c' h1 h2 h3 i y acc S2 hy ⟨e1, e2⟩ => ?_, fun acc S2 ⟨e1, e2⟩ r hr => ?_⟩
 ·rw [h1]
  exact Nat.le_trans (List.length_filterMap_le _ _) (by rw [List.length_take]; exact Nat.min_le_left _ _)
 ·rw [List.getElem?_map, Option.map_eq_some_iff] at hy
  obtain ⟨y, hy, rfl⟩ := hy
  have ht : (l.take (i + 1)).filterMap F = acc ++ ([y].filterMap F) := by rw [List.take_add_one, hy, e1, List.filterMap_append]; rfl
  refine WIfs.le (S' := ⟨setv (compM scope S1.m) x (e y), S1.σ⟩) ⟨fun z w q => ?_, e2.s⟩ (WM.mono (turn c' h1 h2 h3 y (List.mem_of_getElem? hy)) fun b S4 q => ?_)
  ·show setv S2.m x (e y) z = some w
   have q : setv (compM scope S1.m) x (e y) z = some w := q
   unfold setv at q ⊢
   split
   ·rename_i k; rwa [if_pos k] at q
   rename_i k; rw [if_neg k] at q; exact e2.m z w q
  cases b with
  | true =>
   rw [if_pos rfl] at q ⊢
   exact WE.mono q fun z S5 ⟨hz, hl⟩ => ⟨by rw [ht, List.filterMap_cons, hz]; rfl, hl⟩
  | false =>
   rw [if_neg Bool.false_ne_true] at q ⊢
   exact ⟨by rw [ht, List.filterMap_cons, q.1, List.filterMap_nil, List.append_nil], q.2⟩
 rw [List.length_map, List.take_of_length_le (Nat.le_refl _)] at e1
 have hr1 : S1.σ r = none := by
  cases q : S1.σ r with
  | none => rfl
  | some o => have := e2.s _ _ q; rw [hr] at this; exact Mine.ns this
 refine ⟨⟨S1.m, upd S1.σ r (.list (l.filterMap F))⟩, ⟨fun _ _ e => e, fun x o q => ?_⟩, fin r hr1⟩
 have q : upd S1.σ r (.list (l.filterMap F)) x = some o := q
 show upd S2.σ r (.list acc) x = some o
 unfold upd at q ⊢
 split
 ·rename_i k; rw [if_pos k] at q; rw [e1]; exact q
 rename_i k; rw [if_neg k] at q; exact e2.s _ _ q
inductive CompVRPost (g : Gl Str) (c : Ac) (scope : Scope) (sc : Scope) (x : Str) (ifs : List Expr) (elt : Expr) (Q : Value -> St Str -> Prop) (v : Value) (S1 : St Str) : Prop
 | mk (r : Addr) (lo k : Int) (n : Nat) {hi : Int} (F : Nat -> Option Value) (h_1 : v = .ref r) (h_2 : S1.σ r = some (rngO lo hi k)) (h_2' : Builtin.Range.small lo hi k = true) (h_2'' : Builtin.Range.rangeSize lo hi k = n) (h_3 : n ≤ 1000)
  (h_4 : ∀ c' : Ac, c'.env.scope = relabelS scope sc -> c'.ext = extOf scope -> (∀ n, c.Deep n -> c'.Deep n) -> ∀ y < n,
    WIfs g c' ifs ⟨setv (compM scope S1.m) x (.int (lo + (y : Int) * k) 0), S1.σ⟩ fun b S4 => if b = true then WE g c' elt S4 (fun z S5 => F y = some z /\ Le ⟨compM scope S1.m, S1.σ⟩ S5) else F y = none /\ Le ⟨compM scope S1.m, S1.σ⟩ S4)
  (h_5 : ∀ a, S1.σ a = none -> Q (.ref a) ⟨S1.m, upd S1.σ a (.list ((List.range n).filterMap F))⟩) : CompVRPost g c scope sc x ifs elt Q v S1
theorem WE_CompVR {elt iter : Expr} {x : Str} {px : Pos} {ifs : List Expr} {scope sc : Scope} {pos : Pos} (hs : ∀ env x, foldedSetIterable iter env x = pure x) (he : c.env.scope = sc) (hsc : compOk scope sc = true) (hk : isOwn (relabelS scope sc) x = true) (hf : extOf scope x = false)
  (h : WE g c iter S (CompVRPost g c scope sc x ifs elt Q)) : WE g c (.ListComp elt [⟨.Name x px, iter, ifs, 0⟩] scope pos) S Q := by
 refine WE_CompV hs he hsc hk hf (WE.mono h fun v S1 q_ => ?_)
 obtain ⟨r, lo, k, n, F, e, hr, hsm, hn, hz, turn, fin⟩ := q_
 rename_i hi
 subst e
 have hN : rngN lo hi k = n := by unfold rngN; rw [hn]; rfl
 have hit := iter_range (g := g) (c := c) hr hsm (by rw [hn]; exact Int.natCast_nonneg _)
 unfold rngL at hit
 rw [hN] at hit
 exact CompVPost.mk (List.range n) (fun (y : Nat) => .int (lo + (y : Int) * k) 0) (fun _ => True) F hit (fun _ _ => trivial) (by rw [List.length_range]; exact hz) (fun c' h1 h2 h3 y hy => turn c' h1 h2 h3 y (List.mem_range.mp hy)) fin
theorem size1 (n : Nat) : Builtin.Range.rangeSize 0 n 1 = n := by
 have := size_one_nonneg 0 n
 have e := rngN_one (n : Int)
 unfold rngN at e
 lia
theorem zv {c : Ac} {ss : List Stmt} {Q : Flow -> St Str -> Prop} {m : Str -> Option Value} {σ : Addr -> Option (AO Str)} {x1 x2 x3 x4 x5 x6 x7 : Str} {w1 w2 w3 w4 w5 w6 w7 : Value} (h1 : m x1 = some w1) (h2 : m x2 = some w2) (h3 : m x3 = some w3) (h4 : m x4 = some w4) (h5 : m x5 = some w5) (h6 : m x6 = some w6) (h7 : m x7 = some w7)
  (h : ∀ m', m' x1 = some w1 -> m' x2 = some w2 -> m' x3 = some w3 -> m' x4 = some w4 -> m' x5 = some w5 -> m' x6 = some w6 -> m' x7 = some w7 -> WXsF g c ss ⟨m', σ⟩ Q) : WXsF g c ss ⟨m, σ⟩ Q := h m h1 h2 h3 h4 h5 h6 h7
theorem WXs_gen7 {c : Ac} {ss : List Stmt} {Q : Flow -> St Str -> Prop} {m : Str -> Option Value} {σ : Addr -> Option (AO Str)} {x1 x2 x3 x4 x5 x6 x7 : Str} {w1 w2 w3 w4 w5 w6 w7 : Value} (h1 : m x1 = some w1) (h2 : m x2 = some w2) (h3 : m x3 = some w3) (h4 : m x4 = some w4) (h5 : m x5 = some w5) (h6 : m x6 = some w6) (h7 : m x7 = some w7)
  (h : ∀ m', m' x1 = some w1 -> m' x2 = some w2 -> m' x3 = some w3 -> m' x4 = some w4 -> m' x5 = some w5 -> m' x6 = some w6 -> m' x7 = some w7 -> WXs g c ss ⟨m', σ⟩ Q) : WXs g c ss ⟨m, σ⟩ Q := h m h1 h2 h3 h4 h5 h6 h7
theorem WX_gen7 {c : Ac} {st : Stmt} {Q : Flow -> St Str -> Prop} {m : Str -> Option Value} {σ : Addr -> Option (AO Str)} {x1 x2 x3 x4 x5 x6 x7 : Str} {w1 w2 w3 w4 w5 w6 w7 : Value} (h1 : m x1 = some w1) (h2 : m x2 = some w2) (h3 : m x3 = some w3) (h4 : m x4 = some w4) (h5 : m x5 = some w5) (h6 : m x6 = some w6) (h7 : m x7 = some w7)
  (h : ∀ m', m' x1 = some w1 -> m' x2 = some w2 -> m' x3 = some w3 -> m' x4 = some w4 -> m' x5 = some w5 -> m' x6 = some w6 -> m' x7 = some w7 -> WX g c st ⟨m', σ⟩ Q) : WX g c st ⟨m, σ⟩ Q := h m h1 h2 h3 h4 h5 h6 h7
theorem WE_gen7 {c : Ac} {e : Expr} {Q : Value -> St Str -> Prop} {m : Str -> Option Value} {σ : Addr -> Option (AO Str)} {x1 x2 x3 x4 x5 x6 x7 : Str} {w1 w2 w3 w4 w5 w6 w7 : Value} (h1 : m x1 = some w1) (h2 : m x2 = some w2) (h3 : m x3 = some w3) (h4 : m x4 = some w4) (h5 : m x5 = some w5) (h6 : m x6 = some w6) (h7 : m x7 = some w7)
  (h : ∀ m', m' x1 = some w1 -> m' x2 = some w2 -> m' x3 = some w3 -> m' x4 = some w4 -> m' x5 = some w5 -> m' x6 = some w6 -> m' x7 = some w7 -> WE g c e ⟨m', σ⟩ Q) : WE g c e ⟨m, σ⟩ Q := h m h1 h2 h3 h4 h5 h6 h7
noncomputable def emit2 (iter e : Expr) (env : Env) (acc : Value) : Sem Unit := do
 let y ← eval iter env
 standAt iter.pos
 let y ← foldedSetIterable iter env y
 let _ ← runOwn (.compStart e 1 (← holding [y] (pyIter y)) acc env) env
theorem WEmit_two {elt iter i1 : Expr} {x : Str} {px : Pos} {ifs f1 : List Expr} {t1 : Expr} {scope : Scope} {pos : Pos} {acc : List Value} {Q : List Value -> St Str -> Prop} (hs : ∀ env x, foldedSetIterable iter env x = pure x)
  (h : WE g c iter S fun v S1 => ∃ xs Ok, Iterable g c v xs Ok S1 /\ ∃ Inv : Nat -> List Value -> St Str -> Prop, Inv 0 acc S1 /\ (∀ i acc S2, Inv i acc S2 -> Ok S2 /\ acc.length ≤ sizeLine) /\
   (∀ i y acc S2, xs[i]? = some y -> Inv i acc S2 ->
    WAsg g c (.Name x px) y S2 fun S3 => WIfs g c ifs S3 fun b S4 => if b = true then WE g c elt S4 (fun z S5 => Inv (i + 1) (acc ++ [z]) S5) else Inv (i + 1) acc S4) /\
   ∀ acc S2, Inv xs.length acc S2 -> Q acc S2) :
  WEmit g c (emit2 iter (.ListComp elt [⟨t1, i1, f1, 0⟩, ⟨.Name x px, iter, ifs, 0⟩] scope pos)) S acc Q := by
 intro H s D arr0 nb R hD hacc0
 show wpAny _ _ (eval iter c.env >>= _) _ _ s
 refine wpAny_bind (goK (h H s R) (fun u s1 S1 R1 q_ => ?_))
 obtain ⟨xs, Ok, hit, Inv, h0, hok, turn, fin⟩ := q_
 refine wpAny_bind (wpAny_standAt (wpAny_bind (wpAny_of_eq (hs _ _) ?_)))
 refine wpAny_bind (wpAny_holding (wpAny_mono (hit H s1 u rfl R1) (fun it s2 q_ => ?_) fun _ _ x => x.elim))
 refine zN q_ ?_; clear q_; intro a ob sp e hfree hst R2
 subst e
 refine wpAny_bind (wpAny_runOwn ?_)
 have hDa : D ≠ a := fun e => by rw [e, hfree] at hD; exact Mine.ns hD
 have loop : ∀ s', Rel g c (H.put a ob) S1 s' -> codeAny (model g.prog g.w) (c.A.mark none) (.compLoop (.ListComp elt [⟨t1, i1, f1, 0⟩, ⟨.Name x px, iter, ifs, 0⟩] scope pos) 1 (.ref a) (.ref D) c.env)
   (fun r s' => match r with | .ok f => wpAny (model g.prog g.w) c.A (pure () : Sem Unit) (fun _ s' => ∃ S' arr' n', Rel g c (H.put D (listOf arr' n')) S' s' /\ Q (arr'.toList.map er) S') (fun _ _ => False) s' | .error e => cameBackBy (model g.prog g.w) c.A c.env (fun _ _ => False) e s') s' := by
  intro s' R'
  let II : Nat -> Shared -> Prop := fun k s' => ∃ i acc ob arr n H' S', k + i = xs.length + 1 /\ i ≤ xs.length /\ H'.objs a = some ob /\ sp.St_ i ob /\ H'.objs D = some (listOf arr n) /\ (∀ b, b ≠ a -> b ≠ D -> H'.objs b = H.objs b) /\ H'.gens = H.gens /\ Rel g c H' S' s' /\ arr.toList.map er = acc /\ Inv i acc S'
  show codeAny (model g.prog g.w) c.A _ _ s'
  refine codeAny_compLoop_em (emit := do let _ ← call (.builtin "list.append") [.ref D, ← eval elt c.env]) rfl II ?_ (xs.length + 1)
   ⟨0, acc, ob, arr0, nb, H.put a ob, S1, rfl, Nat.zero_le _, Hid.put_self _ _ _, hst, (if_neg hDa).trans hD, fun b h1 h2 => if_neg h1, rfl, R', hacc0, h0⟩
  intro k s' q_
  refine el_EEEEEEEAAAAAAAAA q_ ?_; clear q_; intro i acc ob arr n H' S' hki hil ha hi hDo hHb hHg R' hacc hinv
  refine zL (hok i acc S' hinv) ?_; intro hOk hlen
  cases hx : xs[i]? with
  | none =>
   refine wpAny_mono (sp.done c H' S' s' a i ob ha hi R' hOk hx) (fun r sa q_ => ?_) fun _ _ q => q.elim
   refine zL q_ ?_; clear q_; intro e R5
   subst e
   have hle : xs.length ≤ i := List.getElem?_eq_none_iff.mp hx
   have hi' : i = xs.length := Nat.le_antisymm ‹_› ‹_›
   subst hi'
   have eH : H'.cut a = H.put D (listOf arr n) := by
    obtain ⟨o', g'⟩ := H'
    have hHg : g' = H.gens := hHg
    subst hHg
    unfold Hid.put Hid.cut
    congr 1
    funext b
    dsimp only
    by_cases q1 : b = a
    ·rw [if_pos q1, if_neg (q1 ▸ Ne.symm hDa), q1]; exact hfree.symm
    rw [if_neg q1]
    by_cases q2 : b = D
    ·rw [if_pos q2, q2]; exact hDo
    rw [if_neg q2]; exact hHb b q1 q2
   exact wpAny_pure ⟨S', arr, n, eH ▸ R5, by rw [hacc]; exact fin _ _ hinv⟩
  | some y =>
   have hlt : i < xs.length := (List.getElem?_eq_some_iff.mp hx).1
   refine wpAny_mono (sp.next c H' S' s' a i ob y ha hi R' hOk hx) (fun r sa q_ => ?_) fun _ _ q => q.elim
   refine zE q_ ?_; clear q_; intro u ob' e hu hi' R5
   subst e
   have hc := turn i y acc S' hx hinv
   dsimp only
   refine goK (hc u hu _ sa R5) (fun _ s6 S6 R6 h₆ => ?_)
   have hacc_sz : arr.size ≤ sizeLine := by
    have : arr.toList.length = acc.length := by rw [← hacc, List.length_map]
    rw [Array.length_toList] at this
    lia
   have keepD : (H'.put a ob').objs D = some (listOf arr n) := (if_neg hDa).trans hDo
   have rest : ∀ b, b ≠ a -> b ≠ D -> (H'.put a ob').objs b = H.objs b := fun b h1 h2 => (if_neg h1).trans (hHb b h1 h2)
   refine goK (h₆ _ s6 R6) (fun ok s7 S7 R7 hY => ?_)
   cases ok with
   | false =>
    rw [if_neg (by simp)] at hY ⊢
    exact ⟨k - 1, om06 hki (Nat.lt_succ_of_lt hlt), i + 1, acc, ob', arr, n, _, S7, om03 hki (Nat.lt_succ_of_lt hlt), hlt, Hid.put_self _ _ _, hi', keepD, rest, hHg, R7, hacc, hY⟩
   | true =>
    rw [if_pos rfl] at hY ⊢
    refine wpAny_bind (goK (hY _ s7 R7) (fun z s8 S8 R8 h₈ => ?_))
    refine zJ R8.led ?_; intro m F N' hl
    refine zB (R8.updHid keepD (fun u e => by cases e) (listOf (arr.push z) (n + 1))) ?_; intro news' U back'
    refine wpAny_bind (append_K F N' U (fun h' F' N'' => wpAny_pure ?_) hacc_sz)
    refine ⟨k - 1, om06 hki (Nat.lt_succ_of_lt hlt), i + 1, acc ++ [er z], ob', arr.push z, n + 1, (H'.put a ob').put D (listOf (arr.push z) (n + 1)), S8, om03 hki (Nat.lt_succ_of_lt hlt), hlt, ?_, hi', Hid.put_self _ _ _, fun b h1 h2 => ?_, hHg, back' hl F' N'', by rw [Array.toList_push, List.map_append, hacc]; rfl, h₈⟩
    ·exact (if_neg (Ne.symm hDa)).trans (Hid.put_self _ _ _)
    exact (if_neg h2).trans (rest b h1 h2)
 refine codeAny_of_tree ?_
 show wpAny _ _ ((compStart (.ListComp elt [⟨t1, i1, f1, 0⟩, ⟨.Name x px, iter, ifs, 0⟩] scope pos) 1 (.ref a) (.ref D) c.env).onRaise (fun x => do noteFrame x c.env; standAt theWindowsPlace)) _ _ s2
 refine wpAny_notedAt ?_
 unfold compStart
 show wpAny _ _ (ask >>= _) _ _ s2
 refine wpAny_bind (wpAny_askSetting (wpAny_ite ?_))
 split
 ·exact wpAny_bind (wpAny_pure (wpAny_pure (And.intro rfl (loop _ R2))))
 refine wpAny_bind (wpAny_rule ?_)
 show wpAny _ _ (standAt iter.pos >>= _) _ _ s2
 refine wpAny_bind (wpAny_standAt (wpAny_bind ?_))
 exact sp.again c (H.put a ob) _ _ a 0 ob _ _ (Hid.put_self _ _ _) hst R2 (wpAny_pure (And.intro rfl (loop _ R2)))
theorem WE_ListComp2 {elt iter : Expr} {rest : List Comprehension} {emit : Env -> Value -> Sem Unit} {x : Str} {px : Pos} {ifs : List Expr} {scope : Scope} {pos : Pos} {Q : Value -> St Str -> Prop} (hs : ∀ env x, foldedSetIterable iter env x = pure x) (hem : ∀ it acc env, compTurn (.ListComp elt (⟨.Name x px, iter, ifs, 0⟩ :: rest) scope pos) 0 it acc env = turnOf (.ListComp elt (⟨.Name x px, iter, ifs, 0⟩ :: rest) scope pos) 0 (.Name x px) iter.pos ifs (emit env acc) it acc env) (hsc : compOk scope c.env.scope = true)
  (h : WE g c iter S fun v S1 => ∃ xs Ok, Iterable g c v xs Ok S1 /\ ∃ Inv : Nat -> List Value -> St Str -> Prop, Inv 0 [] ⟨compM scope S1.m, S1.σ⟩ /\ (∀ i acc S2, Inv i acc S2 -> Ok S2) /\ xs.length ≤ sizeLine /\
   (∀ c' : Ac, c'.env.scope = relabelS scope c.env.scope -> c'.ext = extOf scope -> (∀ n, c.Deep n -> c'.Deep n) -> ∀ i y acc S2, xs[i]? = some y -> Inv i acc S2 ->
    WAsg g c' (.Name x px) y S2 fun S3 => WIfs g c' ifs S3 fun b S4 => if b = true then WEmit g c' emit S4 acc (Inv (i + 1)) else Inv (i + 1) acc S4) /\
   ∀ acc S2, Inv xs.length acc S2 -> ∀ a, S2.σ a = none -> Q (.ref a) ⟨S1.m, upd S2.σ a (.list acc)⟩) : WE g c (.ListComp elt (⟨.Name x px, iter, ifs, 0⟩ :: rest) scope pos) S Q := by
 intro H s R
 o_shape
 rw [eval_ListComp]
 refine comp_core2 hs hem hsc h R fun D C oC S' s' h0 hnc hNs R' q => ?_
 refine zI (hNs s'.heap (R'.hid C oC (Hid.put_self _ _ _))) ?_; intro m hm
 refine ⟨m, hm, fun h' hs' => ?_⟩
 have R'' := R'.lose (tk := s'.toks) (Hid.put_self _ _ _) hnc hs'.extBut
 rw [Hid.put_cut _ _ _ h0] at R''
 exact ⟨S', R'', q⟩
theorem compTurn_two {elt iter iter2 t1 t2 : Expr} {f1 f2 : List Expr} {scope : Scope} {pos : Pos} (it acc : Value) (env : Env) : compTurn (.ListComp elt [⟨t1, iter, f1, 0⟩, ⟨t2, iter2, f2, 0⟩] scope pos) 0 it acc env =
  turnOf (.ListComp elt [⟨t1, iter, f1, 0⟩, ⟨t2, iter2, f2, 0⟩] scope pos) 0 t1 iter.pos f1 (emit2 iter2 (.ListComp elt [⟨t1, iter, f1, 0⟩, ⟨t2, iter2, f2, 0⟩] scope pos) env acc) it acc env := by
 unfold turnOf emit2
 simp only [bind_assoc, pure_bind]
 rfl
theorem WX.drop {st : Stmt} {Q : Flow -> St Str -> Prop} (h : WX g c st S fun f S' => ∃ S'', Le S'' S' /\ Q f S'') : WX g c st S Q := WM.drop (Q := fun f S' => Q (erF f) S') h
theorem WX_CompV {elt iter : Expr} {x : Str} {px : Pos} {ifs : List Expr} {scope sc : Scope} {pos : Pos} (hs : ∀ env x, foldedSetIterable iter env x = pure x) (he : c.env.scope = sc) (hsc : compOk scope sc = true) (hk : isOwn (relabelS scope sc) x = true) (hf : extOf scope x = false) {y : Str} {py spos : Pos} {Q' : Flow -> St Str -> Prop} (hext : c.ext = fun _ => false) (hyl : sc.names.lookup y = some .local) (hl : (py.line == pos.line && !(scope.names.any fun (n, k) => n == y && (k == .local || k == .cell))) = true)
  (h : WE g c iter S (CompVPost g c scope sc x ifs elt fun v S' => Q' .next ⟨setv S'.m y v, S'.σ⟩)) : WX g c (.Assign [.Name y py] (.ListComp elt [⟨.Name x px, iter, ifs, 0⟩] scope pos) spos) S Q' := by
 refine WX.drop (WX_Comp hs he hsc hk hf hext hyl hl (WE.mono h fun v S1 q_ => ?_))
 obtain ⟨l, e, Ok, F, hit, hok, hz, turn, fin⟩ := q_
 refine ⟨l.map e, Ok, hit, fun i acc S' => acc = (l.take i).filterMap F /\ Le ⟨compM scope S1.m, S1.σ⟩ S', ⟨rfl, Le.refl _⟩, fun i acc S2 ⟨h1, h2⟩ => ⟨hok S2 h2.s, ?_⟩, by rw [List.length_map, sizeLine_eq]; lia, fun c' h1 h2 h3 i y acc S2 hy ⟨e1, e2⟩ => ?_, fun acc S2 ⟨e1, e2⟩ r hr => ?_⟩
 ·rw [h1]
  exact Nat.le_trans (List.length_filterMap_le _ _) (by rw [List.length_take]; exact Nat.min_le_left _ _)
 ·rw [List.getElem?_map, Option.map_eq_some_iff] at hy
  obtain ⟨y, hy, rfl⟩ := hy
  have ht : (l.take (i + 1)).filterMap F = acc ++ ([y].filterMap F) := by rw [List.take_add_one, hy, e1, List.filterMap_append]; rfl
  refine WIfs.le (S' := ⟨setv (compM scope S1.m) x (e y), S1.σ⟩) ⟨fun z w q => ?_, e2.s⟩ (WM.mono (turn c' h1 h2 h3 y (List.mem_of_getElem? hy)) fun b S4 q => ?_)
  ·show setv S2.m x (e y) z = some w
   have q : setv (compM scope S1.m) x (e y) z = some w := q
   unfold setv at q ⊢
   split
   ·rename_i k; rwa [if_pos k] at q
   rename_i k; rw [if_neg k] at q; exact e2.m z w q
  cases b with
  | true =>
   rw [if_pos rfl] at q ⊢
   exact WE.mono q fun z S5 ⟨hz, hl⟩ => ⟨by rw [ht, List.filterMap_cons, hz]; rfl, hl⟩
  | false =>
   rw [if_neg Bool.false_ne_true] at q ⊢
   exact ⟨by rw [ht, List.filterMap_cons, q.1, List.filterMap_nil, List.append_nil], q.2⟩
 rw [List.length_map, List.take_of_length_le (Nat.le_refl _)] at e1
 have hr1 : S1.σ r = none := by
  cases q : S1.σ r with
  | none => rfl
  | some o => have := e2.s _ _ q; rw [hr] at this; exact Mine.ns this
 refine ⟨⟨setv S1.m y (.ref r), upd S1.σ r (.list (l.filterMap F))⟩, ⟨fun _ _ e => e, fun x o q => ?_⟩, fin r hr1⟩
 have q : upd S1.σ r (.list (l.filterMap F)) x = some o := q
 show upd S2.σ r (.list acc) x = some o
 unfold upd at q ⊢
 split
 ·rename_i k; rw [if_pos k] at q; rw [e1]; exact q
 rename_i k; rw [if_neg k] at q; exact e2.s _ _ q
theorem WX_CompVR {elt iter : Expr} {x : Str} {px : Pos} {ifs : List Expr} {scope sc : Scope} {pos : Pos} (hs : ∀ env x, foldedSetIterable iter env x = pure x) (he : c.env.scope = sc) (hsc : compOk scope sc = true) (hk : isOwn (relabelS scope sc) x = true) (hf : extOf scope x = false) {y : Str} {py spos : Pos} {Q' : Flow -> St Str -> Prop} (hext : c.ext = fun _ => false) (hyl : sc.names.lookup y = some .local) (hl : (py.line == pos.line && !(scope.names.any fun (n, k) => n == y && (k == .local || k == .cell))) = true)
  (h : WE g c iter S (CompVRPost g c scope sc x ifs elt fun v S' => Q' .next ⟨setv S'.m y v, S'.σ⟩)) : WX g c (.Assign [.Name y py] (.ListComp elt [⟨.Name x px, iter, ifs, 0⟩] scope pos) spos) S Q' := by
 refine WX_CompV hs he hsc hk hf hext hyl hl (WE.mono h fun v S1 q_ => ?_)
 obtain ⟨r, lo, k, n, F, e, hr, hsm, hn, hz, turn, fin⟩ := q_
 rename_i hi
 subst e
 have hN : rngN lo hi k = n := by unfold rngN; rw [hn]; rfl
 have hit := iter_range (g := g) (c := c) hr hsm (by rw [hn]; exact Int.natCast_nonneg _)
 unfold rngL at hit
 rw [hN] at hit
 exact CompVPost.mk (List.range n) (fun (y : Nat) => .int (lo + (y : Int) * k) 0) (fun _ => True) F hit (fun _ _ => trivial) (by rw [List.length_range]; exact hz) (fun c' h1 h2 h3 y hy => turn c' h1 h2 h3 y (List.mem_range.mp hy)) fin
inductive Comp2Post (g : Gl Str) (c : Ac) (scope : Scope) (sc : Scope) (x x2 : Str) (iter2 : Expr) (ifs2 : List Expr) (elt : Expr) (Q : Value -> St Str -> Prop) (v : Value) (S1 : St Str) : Prop
 | mk {α β : Type} (l : List α) (e : α -> Value) (Ok : St Str -> Prop) (l2 : List β) (e2 : β -> Value) (Ok2 : St Str -> Prop) (F : α -> β -> Option Value) (h_1 : Iterable g c v (l.map e) Ok S1) (h_2 : ∀ S2 : St Str, (∀ b o, S1.σ b = some o -> S2.σ b = some o) -> Ok S2 /\ Ok2 S2) (h_3 : l.length * l2.length ≤ 10000) (h_3' : l.length ≤ 1000)
  (h_4 : ∀ c' : Ac, c'.env.scope = relabelS scope sc -> c'.ext = extOf scope -> (∀ n, c.Deep n -> c'.Deep n) -> ∀ y ∈ l,
    WE g c' iter2 ⟨setv (compM scope S1.m) x (e y), S1.σ⟩ fun v2 S5 => Le ⟨setv (compM scope S1.m) x (e y), S1.σ⟩ S5 /\ Iterable g c' v2 (l2.map e2) Ok2 S5 /\ ∀ z ∈ l2,
     WIfs g c' ifs2 ⟨setv (setv (compM scope S1.m) x (e y)) x2 (e2 z), S1.σ⟩ fun b S4 => if b = true then WE g c' elt S4 (fun w S5 => F y z = some w /\ Le ⟨setv (compM scope S1.m) x (e y), S1.σ⟩ S5) else F y z = none /\ Le ⟨setv (compM scope S1.m) x (e y), S1.σ⟩ S4)
  (h_5 : ∀ a, S1.σ a = none -> Q (.ref a) ⟨S1.m, upd S1.σ a (.list (l.flatMap fun y => l2.filterMap (F y)))⟩) : Comp2Post g c scope sc x x2 iter2 ifs2 elt Q v S1
theorem fm_len {α β γ : Type} (F : α -> β -> Option γ) (l2 : List β) : ∀ l : List α, (l.flatMap fun y => l2.filterMap (F y)).length ≤ l.length * l2.length
 | [] => Nat.zero_le _
 | y :: l => by
  rw [List.flatMap_cons, List.length_append, List.length_cons, Nat.add_mul, Nat.one_mul, Nat.add_comm]
  exact Nat.add_le_add (fm_len F l2 l) (List.length_filterMap_le _ _)
theorem setv_le {m m' : Str -> Option Value} {x : Str} {v : Value} (h : ∀ z w, m z = some w -> m' z = some w) : ∀ z w, setv m x v z = some w -> setv m' x v z = some w := fun z w q => by
 unfold setv at q ⊢
 split
 ·rename_i k; rwa [if_pos k] at q
 rename_i k; rw [if_neg k] at q; exact h z w q
theorem WE_Comp2 {elt iter iter2 : Expr} {x x2 : Str} {px px2 : Pos} {ifs2 : List Expr} {scope sc : Scope} {pos : Pos} (hs : ∀ env x, foldedSetIterable iter env x = pure x) (hs2 : ∀ env x, foldedSetIterable iter2 env x = pure x) (he : c.env.scope = sc) (hsc : compOk scope sc = true)
  (hk : isOwn (relabelS scope sc) x = true) (hf : extOf scope x = false) (hk2 : isOwn (relabelS scope sc) x2 = true) (hf2 : extOf scope x2 = false)
  (h : WE g c iter S (Comp2Post g c scope sc x x2 iter2 ifs2 elt Q)) : WE g c (.ListComp elt [⟨.Name x px, iter, [], 0⟩, ⟨.Name x2 px2, iter2, ifs2, 0⟩] scope pos) S Q := by
 refine WE.drop (WE_ListComp2 (emit := emit2 iter2 (.ListComp elt [⟨.Name x px, iter, [], 0⟩, ⟨.Name x2 px2, iter2, ifs2, 0⟩] scope pos)) hs compTurn_two (by rw [he]; exact hsc) (WE.mono h fun v S1 q_ => ?_))
 obtain ⟨l, e, Ok, l2, g2, Ok2, F, hit, hok, hz, hz', turn, fin⟩ := q_
 have acclen : ∀ (i : Nat) (acc : List Value), acc = (l.take i).flatMap (fun y => l2.filterMap (F y)) -> acc.length ≤ 10000 := fun i acc e => by
  rw [e]
  refine Nat.le_trans (fm_len F l2 _) (Nat.le_trans (Nat.mul_le_mul_right _ ?_) hz)
  rw [List.length_take]; exact Nat.min_le_right _ _
 refine ⟨l.map e, Ok, hit, fun i acc S' => acc = (l.take i).flatMap (fun y => l2.filterMap (F y)) /\ Le ⟨compM scope S1.m, S1.σ⟩ S', ⟨rfl, Le.refl _⟩, fun i acc S2 ⟨h1, h2⟩ => (hok S2 h2.s).1, by rw [List.length_map, sizeLine_eq]; lia, fun c' h1 h2 h3 i y acc S2 hy ⟨e1, e2⟩ => ?_, fun acc S2 ⟨e1, e2⟩ r hr => ?_⟩
 ·rw [List.getElem?_map, Option.map_eq_some_iff] at hy
  obtain ⟨y, hy, rfl⟩ := hy
  rw [he] at h1
  refine ze (W_StoreX h1 h2 hk hf (WIfs_nil ?_))
  rw [if_pos rfl]
  have ht : (l.take (i + 1)).flatMap (fun y => l2.filterMap (F y)) = acc ++ l2.filterMap (F y) := by rw [List.take_add_one, hy, List.flatMap_append, e1]; simp
  refine WEmit_two hs2 (WE.le (S' := ⟨setv (compM scope S1.m) x (e y), S1.σ⟩) (WE.mono (turn c' h1 h2 h3 y (List.mem_of_getElem? hy)) fun v2 S5 q_ => ?_) ⟨setv_le e2.m, e2.s⟩)
  obtain ⟨hle, hit2, turn2⟩ := q_
  have hcl : ∀ j acc', acc' = acc ++ (l2.take j).filterMap (F y) -> acc'.length ≤ sizeLine := fun j acc' e => by
   have h1 := acclen i acc e1
   have h2 : ((l2.take j).filterMap (F y)).length ≤ l2.length := Nat.le_trans (List.length_filterMap_le _ _) (by rw [List.length_take]; exact Nat.min_le_right _ _)
   have h3 : 1 ≤ l.length := by
    have := List.mem_of_getElem? hy
    cases l with
    | nil => cases this
    | cons _ _ => rw [List.length_cons]; exact Nat.le_add_left _ _
   have h4 : 1 * l2.length ≤ l.length * l2.length := Nat.mul_le_mul_right _ h3
   rw [e, List.length_append, sizeLine_eq]; lia
  refine ⟨l2.map g2, Ok2, hit2, fun j acc' S' => acc' = acc ++ (l2.take j).filterMap (F y) /\ Le ⟨setv (compM scope S1.m) x (e y), S1.σ⟩ S', ⟨by simp, hle⟩, fun j acc' S2 ⟨h1, h2⟩ => ⟨(hok S2 h2.s).2, hcl j acc' h1⟩, fun j w acc' S6 hw ⟨q1, q2⟩ => ?_, fun acc' S6 ⟨q1, q2⟩ => ⟨?_, ⟨fun z w q => q2.m z w ((zY (σ := S1.σ) hf).m z w q), q2.s⟩⟩⟩
  ·rw [List.getElem?_map, Option.map_eq_some_iff] at hw
   obtain ⟨w, hw, rfl⟩ := hw
   refine ze (W_StoreX h1 h2 hk2 hf2 ?_)
   have ht2 : (l2.take (j + 1)).filterMap (F y) = (l2.take j).filterMap (F y) ++ ([w].filterMap (F y)) := by rw [List.take_add_one, hw, List.filterMap_append]; rfl
   refine WIfs.le (S' := ⟨setv (setv (compM scope S1.m) x (e y)) x2 (g2 w), S1.σ⟩) ⟨setv_le q2.m, q2.s⟩ (WM.mono (turn2 w (List.mem_of_getElem? hw)) fun b S4 q => ?_)
   cases b with
   | true =>
    rw [if_pos rfl] at q ⊢
    exact WE.mono q fun z S5 ⟨hz, hl⟩ => ⟨by rw [ht2, q1, List.filterMap_cons, hz, ← List.append_assoc]; rfl, hl⟩
   | false =>
    rw [if_neg Bool.false_ne_true] at q ⊢
    exact ⟨by rw [ht2, List.filterMap_cons, q.1, List.filterMap_nil, List.append_nil]; exact q1, q.2⟩
  rw [ht, q1, List.length_map, List.take_of_length_le (Nat.le_refl _)]
 rw [List.length_map, List.take_of_length_le (Nat.le_refl _)] at e1
 have hr1 : S1.σ r = none := by
  cases q : S1.σ r with
  | none => rfl
  | some o => have := e2.s _ _ q; rw [hr] at this; exact Mine.ns this
 refine ⟨⟨S1.m, upd S1.σ r (.list (l.flatMap fun y => l2.filterMap (F y)))⟩, ⟨fun _ _ e => e, fun x o q => ?_⟩, fin r hr1⟩
 have q : upd S1.σ r (.list (l.flatMap fun y => l2.filterMap (F y))) x = some o := q
 show upd S2.σ r (.list acc) x = some o
 unfold upd at q ⊢
 split
 ·rename_i k; rw [if_pos k] at q; rw [e1]; exact q
 rename_i k; rw [if_neg k] at q; exact e2.s _ _ q
theorem WCmp_inStr {x y : Str} (h : Q (.bool !(Builtin.Str.occurrences x y 0 x.length 1).isEmpty) S) : WCmp g c .In (.str y 0) (.str x 0) S Q := by
 intro u v hu hv H s R
 refine zI (zZ hu) ?_; intro t rfl_127; subst rfl_127
 refine zI (zZ hv) ?_; intro t' rfl_126; subst rfl_126
 exact in_str ⟨S, R, h⟩
noncomputable def repS (k : Nat) (n : Int) : Str := if n < 1 then Str.empty else if n = 1 then ⟨#[k]⟩ else ⟨(List.replicate n.toNat #[k]).foldl (· ++ ·) #[]⟩
theorem repS_len (k : Nat) (n : Int) : (repS k n).length = n.toNat := by
 unfold repS
 split
 ·rename_i h; show 0 = _; lia
 split
 ·rename_i h; subst h; rfl
 show Array.size _ = _
 have : ∀ (m : Nat) (a : Array Nat), ((List.replicate m #[k]).foldl (· ++ ·) a).size = a.size + m := by
  intro m
  induction m with
  | zero => intro a; rfl
  | succ m ih => intro a; rw [List.replicate_succ, List.foldl_cons, ih, Array.size_append]; simp; exact Nat.add_right_comm _ _ _
 rw [this]; simp
theorem WBin_muls {k : Nat} {n : Int} (h0 : 0 ≤ n) (h1 : n ≤ 100) (h : Q (.str (repS k n) 0) S) : WBin g c .Mult (.str (chr1 k) 0) (.int n 0) S Q := by
 intro u v hu hv H s R
 refine zI (zZ hu) ?_; intro t rfl_127; subst rfl_127
 refine zI (zf hv) ?_; intro t' rfl_126; subst rfl_126
 have hl : (repS k n).length ≤ 100 := by rw [repS_len]; lia
 refine P.mul_str (by rw [decide_eq_false (by lia), decide_eq_false (by lia)]; rfl) (fun q _ => ?_) (fun q _ => ?_) ?_
 ·rw [zh]
  have : (1 : Int) ≤ (2 ^ 63 - 1) / n := Int.le_ediv_of_mul_le (by exact Int.not_lt.mp ‹_›) (by lia)
  lia
 ·rw [zh]
  exact decide_eq_false (by rw [sizeLine_eq]; lia)
 unfold repS at h hl
 split at h
 ·rename_i e
  rw [if_pos e]; exact ⟨by decide, ⟨S, R.toks, h⟩⟩
 rename_i e
 rw [if_neg e]
 split at h
 ·rename_i e2
  rw [if_pos (by subst e2; rfl)]
  exact ⟨S, R, h⟩
 rename_i e2
 rw [if_neg (by rw [zh]; simp [e2])]
 refine ⟨?_, ⟨S, R.toks, h⟩⟩
 rw [if_neg e, if_neg e2] at hl
 show Str.length _ ≤ _
 rw [sizeLine_eq]; exact Nat.le_trans hl (by decide)
theorem WSetItem_list {k : Int} {v : Value} {Q : St Str -> Prop} (ha : S.σ a = some (.list xs)) (h0 : 0 ≤ k) (hf : k < 2 ^ 63) (hn : k < xs.length) (h : Q ⟨S.m, upd S.σ a (.list (xs.set k.toNat v))⟩) : WSetItem g c (.ref a) (.int k 0) v S Q := by
 intro u j w hu hj hw H s R
 obtain rfl := zH hu
 refine zI (zf hj) ?_; intro t rfl_1; subst rfl_1
 refine zE (R.list ha) ?_; intro arr n h1 h2 h3 h4
 refine zJ R.led ?_; intro m F N' hl
 refine zB (R.updLed h1 ha (listOf (arr.setIfInBounds k.toNat w) n)) ?_; intro news' U back
 obtain ⟨pre, post, e1, e2, p, q⟩ := U.split
 have N'' := N'
 rw [e1] at N''
 have z := N'' (a, listOf arr n) (List.mem_append.mpr (.inr (.head _)))
 refine ki_setAt z.1 h0 hf (by lia) ?_
 exact ⟨_, back hl (F.change (Heap.SameBut.update ..) z.2.1 z.2.2) (by rw [e2]; exact ki_turn _ N'' p q rfl (by simp)) (Is.list (by rw [Array.toList_setIfInBounds, List.map_set, h3, hw])), h⟩
theorem WXF_IfCmp {l r : Expr} {op : CmpOp} {b o : List Stmt} {cpos pos : Pos} {Q : Flow -> St Str -> Prop} (hm : behindInMarks op r = false)
  (h : WEF g c l S fun a S1 => WE g c r S1 fun b' S2 => WCmp g c op a b' S2 fun v S3 => WTr g c v S3 fun x S4 => if x = true then WXsF g c b S4 Q else WXsF g c o S4 Q) : WXF g c (.If (.Compare l [op] [r] cpos) b o pos) S Q := by
 intro F H s Fo R
 refine wpAny_If (wpAny_isTrue_Compare1 (goF (h F H s Fo R) (fun _ _ H1 u _ R1 hJ => goK (hJ H1 _ R1) (fun _ _ _ R2 hV => goK (hV _ _ rfl rfl H1 _ R2) (fun _ _ _ R3 hW => goK (hW _ rfl H1 _ R3) fun x s4 S4 R4 h₄ => ?_)))) hm)
 cases x
 ·exact goU (h₄ F H1 _ (Fo.upTo u) R4) fun f s2 H2 ua q => ⟨H2, u.trans ua, q⟩
 exact goU (h₄ F H1 _ (Fo.upTo u) R4) fun f s2 H2 ua q => ⟨H2, u.trans ua, q⟩
theorem WXF_Expr {e : Expr} {pos : Pos} {Q : Flow -> St Str -> Prop} (hs : ∀ env, swapsWith e none pos.line env = pure false) (h : WEF g c e S fun _ S1 => Q .next S1) : WXF g c (.Expr e pos) S Q := by
 intro F H s Fo R
 have hi : interactive c.env = false := by
  unfold interactive
  rw [R.ac.kind]
  rfl
 rw [exec_Expr c.env e pos hi (hs _)]
 exact wpAny_bind (wpAny_standAt (wpAny_bind (goF (h F H s Fo R) (fun v s' H1 u S1 R1 q => wpAny_dropValue ⟨H1, u, S1, R1, q⟩))))
noncomputable def Objs {α : Type} (σ0 σ : Addr -> Option (AO Str)) (F : α -> AO Str) (l : List α) (vs : List Value) : Prop := vs.length = l.length /\ ∀ (j : Nat) (y : α), l[j]? = some y -> ∃ r : Addr, vs[j]? = some (Value.ref r) /\ σ r = some (F y) /\ σ0 r = none
theorem Objs.mono {α : Type} {σ0 σ σ' : Addr -> Option (AO Str)} {F : α -> AO Str} {l : List α} {vs : List Value} (h : Objs σ0 σ F l vs) (k : ∀ b o, σ b = some o -> σ' b = some o) : Objs σ0 σ' F l vs :=
 ⟨h.1, fun j y e => let ⟨r, h1, h2, h3⟩ := h.2 j y e; ⟨r, h1, k _ _ h2, h3⟩⟩
theorem Objs.snoc {α : Type} {σ0 σ : Addr -> Option (AO Str)} {F : α -> AO Str} {l : List α} {vs : List Value} {y : α} {r : Addr} (h : Objs σ0 σ F l vs) (hr : σ r = some (F y)) (h0 : σ0 r = none) : Objs σ0 σ F (l ++ [y]) (vs ++ [.ref r]) := by
 refine ⟨by rw [List.length_append, List.length_append, h.1]; rfl, fun j z e => ?_⟩
 by_cases q : j < l.length
 ·rw [List.getElem?_append_left q] at e
  obtain ⟨r', h1, h2⟩ := h.2 j z e
  exact ⟨r', by rw [List.getElem?_append_left (by rw [h.1]; exact q)]; exact h1, h2⟩
 rw [List.getElem?_append_right (by exact Nat.not_lt.mp ‹_›)] at e
 have j0 : j - l.length = 0 := by
  have := (List.getElem?_eq_some_iff.mp e).1
  rw [List.length_singleton] at this; lia
 rw [j0] at e
 (replace e := Option.some.inj e; subst e)
 exact ⟨r, by rw [List.getElem?_append_right (by rw [h.1]; omega), h.1, j0]; rfl, hr, h0⟩
inductive CompOPost (g : Gl Str) (c : Ac) (scope : Scope) (sc : Scope) (x : Str) (elt : Expr) (Q : Value -> St Str -> Prop) (v : Value) (S1 : St Str) : Prop
 | mk {α : Type} (l : List α) (e : α -> Value) (Ok : St Str -> Prop) (F : α -> AO Str) (h_1 : Iterable g c v (l.map e) Ok S1) (h_2 : ∀ S2 : St Str, (∀ b o, S1.σ b = some o -> S2.σ b = some o) -> Ok S2) (h_3 : l.length ≤ 1000)
  (h_4 : ∀ c' : Ac, c'.env.scope = relabelS scope sc -> c'.ext = extOf scope -> (∀ n, c.Deep n -> c'.Deep n) -> ∀ y ∈ l, ∀ σ, (∀ b o, S1.σ b = some o -> σ b = some o) ->
    WE g c' elt ⟨setv (compM scope S1.m) x (e y), σ⟩ fun z S5 => ∃ r, z = .ref r /\ σ r = none /\ S5.σ r = some (F y) /\ Le ⟨compM scope S1.m, σ⟩ S5)
  (h_5 : ∀ vs σ', (∀ b o, S1.σ b = some o -> σ' b = some o) -> Objs S1.σ σ' F l vs -> ∀ a, σ' a = none -> Q (.ref a) ⟨S1.m, upd σ' a (.list vs)⟩) : CompOPost g c scope sc x elt Q v S1
theorem WE_CompO {elt iter : Expr} {x : Str} {px : Pos} {scope sc : Scope} {pos : Pos} (hs : ∀ env x, foldedSetIterable iter env x = pure x) (he : c.env.scope = sc) (hsc : compOk scope sc = true) (hk : isOwn (relabelS scope sc) x = true) (hf : extOf scope x = false)
  (h : WE g c iter S (CompOPost g c scope sc x elt Q)) : WE g c (.ListComp elt [⟨.Name x px, iter, [], 0⟩] scope pos) S Q := by
 refine WE.drop (WE_Comp hs he hsc hk hf (WE.mono h fun v S1 q_ => ?_))
 obtain ⟨l, e, Ok, F, hit, hok, hz, turn, fin⟩ := q_
 refine ⟨l.map e, Ok, hit, fun i acc S' => Objs S1.σ S'.σ F (l.take i) acc /\ Le ⟨compM scope S1.m, S1.σ⟩ S', ⟨⟨rfl, fun j y e => nomatch e⟩, Le.refl _⟩, fun i acc S2 ⟨h1, h2⟩ => ⟨hok S2 h2.s, by rw [h1.1, List.length_take]; exact Nat.min_le_left _ _⟩, by rw [List.length_map, sizeLine_eq]; lia, fun c' h1 h2 h3 i y acc S2 hy ⟨e1, e2⟩ => ?_, fun acc S2 ⟨e1, e2⟩ r hr => ?_⟩
 ·rw [List.getElem?_map, Option.map_eq_some_iff] at hy
  obtain ⟨y, hy, rfl⟩ := hy
  obtain ⟨mc, σ2⟩ := S2
  have ht : l.take (i + 1) = l.take i ++ [y] := by rw [List.take_add_one, hy]; rfl
  refine WIfs_nil ?_
  rw [if_pos rfl]
  refine WE.le (S' := ⟨setv (compM scope S1.m) x (e y), σ2⟩) (WE.mono (turn c' h1 h2 h3 y (List.mem_of_getElem? hy) σ2 e2.s) fun z S5 ⟨r, hz, h0, hr, hl⟩ => ?_) ⟨setv_le e2.m, fun _ _ e => e⟩
  subst hz
  have h0' : S1.σ r = none := by
   cases q : S1.σ r with
   | none => rfl
   | some o => exact Mine.ns (h0.symm.trans (e2.s _ _ q))
  exact ⟨by rw [ht]; exact (e1.mono hl.s).snoc hr h0', hl.m, fun b o e => hl.s b o (e2.s b o e)⟩
 rw [List.length_map, List.take_of_length_le (Nat.le_refl _)] at e1
 exact ⟨⟨S1.m, upd S2.σ r (.list acc)⟩, ⟨fun _ _ e => e, fun _ _ e => e⟩, fin acc S2.σ e2.s e1 r hr⟩
theorem WX_CompO {elt iter : Expr} {x : Str} {px : Pos} {scope sc : Scope} {pos : Pos} (hs : ∀ env x, foldedSetIterable iter env x = pure x) (he : c.env.scope = sc) (hsc : compOk scope sc = true) (hk : isOwn (relabelS scope sc) x = true) (hf : extOf scope x = false) {y : Str} {py spos : Pos} {Q' : Flow -> St Str -> Prop} (hext : c.ext = fun _ => false) (hyl : sc.names.lookup y = some .local) (hl : (py.line == pos.line && !(scope.names.any fun (n, k) => n == y && (k == .local || k == .cell))) = true)
  (h : WE g c iter S (CompOPost g c scope sc x elt fun v S' => Q' .next ⟨setv S'.m y v, S'.σ⟩)) : WX g c (.Assign [.Name y py] (.ListComp elt [⟨.Name x px, iter, [], 0⟩] scope pos) spos) S Q' := by
 refine WX.drop (WX_Comp hs he hsc hk hf hext hyl hl (WE.mono h fun v S1 q_ => ?_))
 obtain ⟨l, e, Ok, F, hit, hok, hz, turn, fin⟩ := q_
 refine ⟨l.map e, Ok, hit, fun i acc S' => Objs S1.σ S'.σ F (l.take i) acc /\ Le ⟨compM scope S1.m, S1.σ⟩ S', ⟨⟨rfl, fun j y e => nomatch e⟩, Le.refl _⟩, fun i acc S2 ⟨h1, h2⟩ => ⟨hok S2 h2.s, by rw [h1.1, List.length_take]; exact Nat.min_le_left _ _⟩, by rw [List.length_map, sizeLine_eq]; lia, fun c' h1 h2 h3 i y acc S2 hy ⟨e1, e2⟩ => ?_, fun acc S2 ⟨e1, e2⟩ r hr => ?_⟩
 ·rw [List.getElem?_map, Option.map_eq_some_iff] at hy
  obtain ⟨y, hy, rfl⟩ := hy
  obtain ⟨mc, σ2⟩ := S2
  have ht : l.take (i + 1) = l.take i ++ [y] := by rw [List.take_add_one, hy]; rfl
  refine WIfs_nil ?_
  rw [if_pos rfl]
  refine WE.le (S' := ⟨setv (compM scope S1.m) x (e y), σ2⟩) (WE.mono (turn c' h1 h2 h3 y (List.mem_of_getElem? hy) σ2 e2.s) fun z S5 ⟨r, hz, h0, hr, hl⟩ => ?_) ⟨setv_le e2.m, fun _ _ e => e⟩
  subst hz
  have h0' : S1.σ r = none := by
   cases q : S1.σ r with
   | none => rfl
   | some o => exact Mine.ns (h0.symm.trans (e2.s _ _ q))
  exact ⟨by rw [ht]; exact (e1.mono hl.s).snoc hr h0', hl.m, fun b o e => hl.s b o (e2.s b o e)⟩
 rw [List.length_map, List.take_of_length_le (Nat.le_refl _)] at e1
 exact ⟨⟨setv S1.m y (.ref r), upd S2.σ r (.list acc)⟩, ⟨fun _ _ e => e, fun _ _ e => e⟩, fin acc S2.σ e2.s e1 r hr⟩
section
open PySem PySem.W PyProof.Rows PySem.W.X
noncomputable def pw : Program := PySem.Challenge.rw_oy0345_01.row.toRowW.prog
noncomputable def view : Program := { pw with main := { pw.main with body := pw.main.body.take 1 ++ (pw.main.body.drop 2).take 3 ++ (pw.main.body.drop 6).take 5 ++ (pw.main.body.drop 12).take 22 ++ pw.main.body.drop 35 } }
noncomputable def loose : List Str := [ofString "_NodeInfo", ofString "_filemode_table"]
set_option hygiene false in
local macro_rules | `(tactic| o_law) => `(tactic| refine holds_law (by decide +kernel) fun said => ?_)
noncomputable def Xt0 (s : Shared) : Bool := xlAt Mine.view [] s && recOk (RowW.records PySem.Challenge.rw_oy0345_01.row.toRowW) s
theorem Xt0l (s : Shared) (e : Xt0 s = true) : XL Mine.view [] (s.heap.nsMap mainGlobals) s.heap := xl_of s (Bool.and_eq_true_iff.mp e).1
theorem Xt0r (s : Shared) (e : Xt0 s = true) : RecFacts (RowW.records PySem.Challenge.rw_oy0345_01.row.toRowW) s.heap := recFacts_of (Bool.and_eq_true_iff.mp e).2
set_option hygiene false in
local macro_rules | `(tactic| o_head $H) => `(tactic| (refine holds_open (q := Mine.view) (loose := Mine.loose) (Xt := Xt0) (XP := XL Mine.view []) (Yf := Hook.obs $H) (Ya := Hook.val $H) (YP := Hook.says $H) (N := 3834) ?hl (Hook.of $H) (Hook.keeps $H) Xt0l XL.keeps (by rfl) (by rfl) (by rfl) Xt0r (by rfl) ‹_› (by decide +kernel) ⟨rfl, rfl, rfl, rfl, rfl, by decide +kernel⟩ ?hw ?hc; (case hl => intro w; kernel_rfl)))
open_top hd for PySem.Challenge.rw_oy0345_01
end
section
variable {P : Params}
noncomputable def fdOf (P : Params) (a : Addr) : FuncData := match (Mine.hd.heap_1 P).lookup a with | some ⟨_, _, .func fd, _⟩ => fd | _ => default
noncomputable def bodyOf (P : Params) (a : Addr) : List Stmt := match (fdOf P a).body with | .stmts b => b | _ => []
theorem fnIs {a : Addr} (h : ∃ oc od osl, (Mine.hd.heap_1 P).lookup a = some ⟨oc, od, .func (fdOf P a), osl⟩) (h2 : codeIn (Mine.hd.heap_1 P) (fdOf P a).code (fdOf P a).qualname = true) (h3 : (fdOf P a).body = .stmts (bodyOf P a))
  (h4 : (fdOf P a).globals = mainGlobals) (h5 : (fdOf P a).closure = []) (h6 : (fdOf P a).builtins = builtinsNs) (hK : g.K = hd.heap_1 P) : FnIs g.K a (bodyOf P a) (fdOf P a).scope (fdOf P a) :=
 ⟨by rw [hK]; exact h, by rw [hK]; exact h2, h3, rfl, h4, h5, h6⟩
theorem gl_S_IFMT : nsIn (hd.heap_1 P) mainGlobals (ofString "S_IFMT") = some (some (.ref 169)) := by kernel_rfl
theorem gl_filemode_table : nsIn (hd.heap_1 P) mainGlobals (ofString "_filemode_table") = some (some (.ref 202)) := by kernel_rfl
theorem gl_TopologicalSorter : nsIn (hd.heap_1 P) mainGlobals (ofString "TopologicalSorter") = some (some (.ref 158)) := by kernel_rfl
theorem gl_CycleError : nsIn (hd.heap_1 P) mainGlobals (ofString "CycleError") = some (some (.ref 76)) := by kernel_rfl
theorem gl_NodeInfo : nsIn (hd.heap_1 P) mainGlobals (ofString "_NodeInfo") = some (some (.ref 61)) := by kernel_rfl
theorem gl_check_parenthesis : nsIn (hd.heap_1 P) mainGlobals (ofString "_check_parenthesis") = some (some (.ref 42)) := by kernel_rfl
theorem gl_strip_quoted_realnames : nsIn (hd.heap_1 P) mainGlobals (ofString "_strip_quoted_realnames") = some (some (.ref 35)) := by kernel_rfl
theorem gl_iter_escaped_chars : nsIn (hd.heap_1 P) mainGlobals (ofString "_iter_escaped_chars") = some (some (.ref 28)) := by kernel_rfl
theorem gl_law_row : nsIn (hd.heap_1 P) mainGlobals (ofString "_law_row") = some (some (.ref 216)) := by kernel_rfl
theorem gl_filemode : nsIn (hd.heap_1 P) mainGlobals (ofString "filemode") = some (some (.ref 209)) := by kernel_rfl
theorem gl_law_spots : nsIn (hd.heap_1 P) mainGlobals (ofString "_law_spots") = some (some (.ref 223)) := by kernel_rfl
theorem gl_law_modes : nsIn (hd.heap_1 P) mainGlobals (ofString "_law_modes") = some (some (.ref 228)) := by kernel_rfl
theorem gl_law_pieces : nsIn (hd.heap_1 P) mainGlobals (ofString "_law_pieces") = some (some (.ref 233)) := by kernel_rfl
theorem gl_law_free : nsIn (hd.heap_1 P) mainGlobals (ofString "_law_free") = some (some (.ref 238)) := by kernel_rfl
theorem gl_law_rounds : nsIn (hd.heap_1 P) mainGlobals (ofString "_law_rounds") = some (some (.ref 245)) := by kernel_rfl
theorem gl_law_chains : nsIn (hd.heap_1 P) mainGlobals (ofString "_law_chains") = some (some (.ref 250)) := by kernel_rfl
theorem gl_law_closed : nsIn (hd.heap_1 P) mainGlobals (ofString "_law_closed") = some (some (.ref 257)) := by kernel_rfl
theorem gl_law_holds : nsIn (hd.heap_1 P) mainGlobals (ofString "_law_holds") = some (some (.ref 262)) := by kernel_rfl
theorem gl__NODE_OUT : nsIn (hd.heap_1 P) mainGlobals (ofString "_NODE_OUT") = some (some (.int (-1) 231)) := by kernel_rfl
theorem gl__NODE_DONE : nsIn (hd.heap_1 P) mainGlobals (ofString "_NODE_DONE") = some (some (.int (-2) 234)) := by kernel_rfl
end
section
structure SG (N : Type) where
 ks : List N
 np : N -> Int
 su : N -> List N
 ready : Option (List N)
 po : Int
 nf : Int
set_option genInjectivity true in
structure SA (N : Type) where
 d : Addr
 D : Addr
 info : N -> Addr
 dx : N -> Addr
 sl : N -> Addr
 R : Addr
noncomputable def n_n2i : Str := ofString "_node2info"
noncomputable def n_rdy : Str := ofString "_ready_nodes"
noncomputable def n_po : Str := ofString "_npassedout"
noncomputable def n_nf : Str := ofString "_nfinished"
theorem names_ne : n_n2i ≠ n_rdy /\ n_n2i ≠ n_po /\ n_n2i ≠ n_nf /\ n_rdy ≠ n_po /\ n_rdy ≠ n_nf /\ n_po ≠ n_nf := by unfold n_n2i n_rdy n_po n_nf; decide +kernel
noncomputable def rdyV (A : SA Str) (G : SG Str) : Value := match G.ready with | none => .none | some _ => .ref A.R
structure NsIs (A : SA Str) (G : SG Str) (m : Str -> Option Value) : Prop where
 n2i : m n_n2i = some (.ref A.D)
 rdy : m n_rdy = some (rdyV A G)
 po : m n_po = some (.int G.po 0)
 nf : m n_nf = some (.int G.nf 0)
 out : ∀ x, x ≠ n_n2i -> x ≠ n_rdy -> x ≠ n_po -> x ≠ n_nf -> m x = none
theorem NsIs.four {A : SA Str} {G : SG Str} {v : Value} {p q : Int} (hv : rdyV A G = v) (hp : G.po = p) (hq : G.nf = q) : NsIs A G (setv (setv (setv (setv (fun _ => none) n_n2i (.ref A.D)) n_rdy v) n_po (.int p 0)) n_nf (.int q 0)) := by
 refine zx names_ne ?_; (try clear names_ne); intro h1 h2 h3 h4 h5 h6
 refine ⟨?_, ?_, ?_, ?_, fun x x1 x2 x3 x4 => ?_⟩
 ·exact zO h3 (zO h2 (zO h1 zt))
 ·rw [hv]; exact zO h5 (zO h4 zt)
 ·rw [hp]; exact zO h6 zt
 ·rw [hq]; exact zt
 exact (if_neg x4).trans ((if_neg x3).trans ((if_neg x2).trans (if_neg x1)))
theorem NsIs.setRdy {A A' : SA Str} {G G' : SG Str} {m : Str -> Option Value} (h : NsIs A G m) (e1 : A'.D = A.D) (e2 : G'.po = G.po) (e3 : G'.nf = G.nf) : NsIs A' G' (setv m n_rdy (rdyV A' G')) := by
 refine zx names_ne ?_; (try clear names_ne); intro h1 h2 h3 h4 h5 h6
 refine ⟨by rw [e1]; exact zO h1 h.n2i, zt, by rw [e2]; exact zO (Ne.symm h4) h.po, by rw [e3]; exact zO (Ne.symm h5) h.nf, fun x x1 x2 x3 x4 => (if_neg x2).trans (h.out x x1 x2 x3 x4)⟩
theorem NsIs.setPo {A : SA Str} {G G' : SG Str} {m : Str -> Option Value} (h : NsIs A G m) (e1 : rdyV A G' = rdyV A G) (e3 : G'.nf = G.nf) : NsIs A G' (setv m n_po (.int G'.po 0)) := by
 refine zx names_ne ?_; (try clear names_ne); intro h1 h2 h3 h4 h5 h6
 exact ⟨zO h2 h.n2i, by rw [e1]; exact zO h4 h.rdy, zt, by rw [e3]; exact zO (Ne.symm h6) h.nf, fun x x1 x2 x3 x4 => (if_neg x3).trans (h.out x x1 x2 x3 x4)⟩
theorem NsIs.setNf {A : SA Str} {G G' : SG Str} {m : Str -> Option Value} (h : NsIs A G m) (e1 : rdyV A G' = rdyV A G) (e3 : G'.po = G.po) : NsIs A G' (setv m n_nf (.int G'.nf 0)) := by
 refine zx names_ne ?_; (try clear names_ne); intro h1 h2 h3 h4 h5 h6
 exact ⟨zO h3 h.n2i, by rw [e1]; exact zO h5 h.rdy, by rw [e3]; exact zO h6 h.po, zt, fun x x1 x2 x3 x4 => (if_neg x4).trans (h.out x x1 x2 x3 x4)⟩
noncomputable def slotsOf (kv : Str -> Value) (A : SA Str) (G : SG Str) (k : Str) : List (Option Value) := [some (kv k), some (.int (G.np k) 0), some (.ref (A.sl k))]
structure Srt (C NI : Addr) (kv : Str -> Value) (A : SA Str) (G : SG Str) (a : Addr) (σ : Addr -> Option (AO Str)) : Prop where
 inst : σ a = some (.inst C A.d)
 ns : ∃ m, σ A.d = some (.ns m 4) /\ NsIs A G m
 dict : ∃ ep, σ A.D = some (.dict (G.ks.map fun k => (k, .ref (A.info k))) ep)
 lo : (A.D == sysModules) = false
 info : ∀ k ∈ G.ks, σ (A.info k) = some (.slots NI (A.dx k) (slotsOf kv A G k))
 dx : ∀ k ∈ G.ks, σ (A.dx k) = some (.ns (fun _ => none) 0)
 sl : ∀ k ∈ G.ks, σ (A.sl k) = some (.list ((G.su k).map kv))
 nodup : G.ks.Nodup
 slinj : ∀ j ∈ G.ks, ∀ k ∈ G.ks, A.sl j = A.sl k -> j = k
 rdy : ∀ l, G.ready = some l -> σ A.R = some (.list (l.map kv)) /\ ∀ k ∈ G.ks, A.sl k ≠ A.R
 clo : ∀ k ∈ G.ks, ∀ w ∈ G.su k, w ∈ G.ks
 rin : ∀ l, G.ready = some l -> ∀ w ∈ l, w ∈ G.ks
noncomputable def Own (A : SA Str) (G : SG Str) (a b : Addr) : Prop := b = a ∨ b = A.d ∨ b = A.D ∨ (∃ k ∈ G.ks, b = A.info k ∨ b = A.dx k ∨ b = A.sl k) ∨ (G.ready.isSome = true /\ b = A.R)
structure SrtF (C NI : Addr) (kv : Str -> Value) (A : SA Str) (G : SG Str) (a : Addr) (fr σ : Addr -> Option (AO Str)) : Prop where
 s : Srt C NI kv A G a σ
 keep : ∀ b o, fr b = some o -> σ b = some o
 apart : ∀ b o, fr b = some o -> ¬ Own A G a b
variable {C NI : Addr} {kv : Str -> Value} {A A' : SA Str} {G G' : SG Str} {a b : Addr} {fr fr' σ σ' : Addr -> Option (AO Str)} {k j : Str}
theorem Srt.own (s : Srt C NI kv A G a σ) (h : Own A G a b) : ∃ o, σ b = some o := by
 rcases h with rfl | rfl | rfl | ⟨k, hk, rfl | rfl | rfl⟩ | ⟨hr, rfl⟩
 ·exact ⟨_, s.inst⟩
 ·exact let ⟨m, h, _⟩ := s.ns; ⟨_, h⟩
 ·exact let ⟨m, h⟩ := s.dict; ⟨_, h⟩
 ·exact ⟨_, s.info k hk⟩
 ·exact ⟨_, s.dx k hk⟩
 ·exact ⟨_, s.sl k hk⟩
 refine zI (Option.isSome_iff_exists.mp hr) ?_; intro l hl
 exact ⟨_, (s.rdy l hl).1⟩
theorem Srt.le (s : Srt C NI kv A G a σ) (h : ∀ b o, σ b = some o -> σ' b = some o) : Srt C NI kv A G a σ' :=
 ⟨h _ _ s.inst, let ⟨m, h1, h2⟩ := s.ns; ⟨m, h _ _ h1, h2⟩, let ⟨ep, h1⟩ := s.dict; ⟨ep, h _ _ h1⟩, s.lo, fun k hk => h _ _ (s.info k hk), fun k hk => h _ _ (s.dx k hk), fun k hk => h _ _ (s.sl k hk), s.nodup, s.slinj,
  fun l hl => ⟨h _ _ (s.rdy l hl).1, (s.rdy l hl).2⟩, s.clo, s.rin⟩
theorem SrtF.le (s : SrtF C NI kv A G a fr σ) (h : ∀ b o, σ b = some o -> σ' b = some o) : SrtF C NI kv A G a fr σ' := ⟨s.s.le h, fun b o e => h b o (s.keep b o e), s.apart⟩
theorem SrtF.new {o : AO Str} (s : SrtF C NI kv A G a fr σ) (h : σ b = none) : SrtF C NI kv A G a fr (upd σ b o) := s.le (zC h)
theorem SrtF.frame (s : SrtF C NI kv A G a fr σ) {o : AO Str} (h : σ b = none) : SrtF C NI kv A G a (upd fr b o) (upd σ b o) where
 s := s.s.le (zC h)
 keep x o' e := by
  unfold upd at e ⊢
  split
  ·rename_i q; rwa [if_pos q] at e
  rename_i q; rw [if_neg q] at e; exact s.keep x o' e
 apart x o' e ho := by
  unfold upd at e
  split at e
  ·rename_i q
   subst q
   refine zI (s.s.own ho) ?_; intro o'' h'
   rw [h] at h'; exact Mine.ns h'
  exact s.apart x o' e ho
theorem SrtF.put (s : SrtF C NI kv A G a fr σ) {o o' : AO Str} (h : fr b = some o) : SrtF C NI kv A G a (upd fr b o') (upd σ b o') where
 s := by
  have ap := s.apart b o h
  have keep : ∀ x, Own A G a x -> upd σ b o' x = σ x := fun x hx => if_neg (by rintro rfl; exact ap hx)
  refine zB s.s.ns ?_; intro m n1 n2
  refine zI s.s.dict ?_; intro ep d1
  exact ⟨(keep _ (.inl rfl)).trans s.s.inst, ⟨m, (keep _ (.inr (.inl rfl))).trans n1, n2⟩, ⟨ep, (keep _ (.inr (.inr (.inl rfl)))).trans d1⟩, s.s.lo,
   fun k hk => (keep _ (.inr (.inr (.inr (.inl ⟨k, hk, .inl rfl⟩))))).trans (s.s.info k hk), fun k hk => (keep _ (.inr (.inr (.inr (.inl ⟨k, hk, .inr (.inl rfl)⟩))))).trans (s.s.dx k hk),
   fun k hk => (keep _ (.inr (.inr (.inr (.inl ⟨k, hk, .inr (.inr rfl)⟩))))).trans (s.s.sl k hk), s.s.nodup, s.s.slinj,
   fun l hl => ⟨(keep _ (.inr (.inr (.inr (.inr ⟨by rw [hl]; rfl, rfl⟩))))).trans (s.s.rdy l hl).1, (s.s.rdy l hl).2⟩, s.s.clo, s.s.rin⟩
 keep x o'' e := by
  unfold upd at e ⊢
  split
  ·rename_i q; rwa [if_pos q] at e
  rename_i q; rw [if_neg q] at e; exact s.keep x o'' e
 apart x o'' e ho := by
  unfold upd at e
  split at e
  ·rename_i q
   subst q
   exact s.apart _ o h ho
  exact s.apart x o'' e ho
theorem zF {o o' : AO Str} (h : σ a = some o) (h' : σ b = some o') (hn : o ≠ o') : a ≠ b := by
 rintro rfl
 rw [h] at h'
 exact hn (Option.some.inj h')
theorem Srt.infoInj (s : Srt C NI kv A G a σ) (hkv : ∀ j k, kv j = kv k -> j = k) (hj : j ∈ G.ks) (hk : k ∈ G.ks) (h : A.info j = A.info k) : j = k := by
 have h1 := s.info j hj
 have h2 := s.info k hk
 rw [h, h2] at h1
 simp only [Option.some.injEq, AO.slots.injEq, slotsOf, List.cons.injEq] at h1
 exact (hkv k j h1.2.2.1).symm
noncomputable def SG.setNp (G : SG Str) (k : Str) (v : Int) : SG Str := { G with np := fun j => if j = k then v else G.np j }
theorem SrtF.setNp (s : SrtF C NI kv A G a fr σ) (hkv : ∀ j k, kv j = kv k -> j = k) (hk : k ∈ G.ks) (v : Int) :
  SrtF C NI kv A (G.setNp k v) a fr (upd σ (A.info k) (.slots NI (A.dx k) [some (kv k), some (.int v 0), some (.ref (A.sl k))])) := by
 have hi := s.s.info k hk
 refine zB s.s.ns ?_; intro m n1 n2
 refine zI s.s.dict ?_; intro ep d1
 have kp : ∀ {x : Addr} {o : AO Str}, σ x = some o -> (∀ C d vs, o ≠ .slots C d vs) -> upd σ (A.info k) (.slots NI (A.dx k) [some (kv k), some (.int v 0), some (.ref (A.sl k))]) x = some o := fun {x o} h hn => (if_neg (zF h hi (hn _ _ _))).trans h
 refine ⟨⟨kp s.s.inst (fun _ _ _ e => by exact (nomatch e)), ⟨m, kp n1 (fun _ _ _ e => by exact (nomatch e)), ⟨n2.n2i, n2.rdy, n2.po, n2.nf, n2.out⟩⟩, ⟨ep, kp d1 (fun _ _ _ e => by exact (nomatch e))⟩, s.s.lo, fun j hj => ?_, fun j hj => kp (s.s.dx j hj) (fun _ _ _ e => by exact (nomatch e)),
  fun j hj => kp (s.s.sl j hj) (fun _ _ _ e => by exact (nomatch e)), s.s.nodup, s.s.slinj, fun l hl => ⟨kp (s.s.rdy l hl).1 (fun _ _ _ e => by exact (nomatch e)), (s.s.rdy l hl).2⟩, s.s.clo, s.s.rin⟩, fun x o e => ?_, s.apart⟩
 ·by_cases q : j = k
  ·subst q
   rw [zA]
   unfold slotsOf SG.setNp
   dsimp only
   rw [if_pos rfl]
  refine (if_neg fun e => q (s.s.infoInj hkv hj hk e)).trans ?_
  rw [s.s.info j hj]
  unfold slotsOf SG.setNp
  dsimp only
  rw [if_neg q]
 refine (if_neg ?_).trans (s.keep x o e)
 rintro rfl
 exact s.apart _ o e (.inr (.inr (.inr (.inl ⟨k, hk, .inl rfl⟩))))
noncomputable def SG.pushSu (G : SG Str) (k w : Str) : SG Str := { G with su := fun j => if j = k then G.su k ++ [w] else G.su j }
theorem SrtF.pushSu (s : SrtF C NI kv A G a fr σ) (hk : k ∈ G.ks) {w : Str} (hw : w ∈ G.ks) :
  SrtF C NI kv A (G.pushSu k w) a fr (upd σ (A.sl k) (.list ((G.su k).map kv ++ [kv w]))) := by
 have hi := s.s.sl k hk
 refine zB s.s.ns ?_; intro m n1 n2
 refine zI s.s.dict ?_; intro ep d1
 have kp : ∀ {x : Addr} {o : AO Str}, σ x = some o -> (∀ xs, o ≠ .list xs) -> upd σ (A.sl k) (.list ((G.su k).map kv ++ [kv w])) x = some o := fun {x o} h hn => (if_neg (zF h hi (hn _))).trans h
 refine ⟨⟨kp s.s.inst (fun _ e => by exact (nomatch e)), ⟨m, kp n1 (fun _ e => by exact (nomatch e)), ⟨n2.n2i, n2.rdy, n2.po, n2.nf, n2.out⟩⟩, ⟨ep, kp d1 (fun _ e => by exact (nomatch e))⟩, s.s.lo, fun j hj => kp (s.s.info j hj) (fun _ e => by exact (nomatch e)), fun j hj => kp (s.s.dx j hj) (fun _ e => by exact (nomatch e)),
  fun j hj => ?_, s.s.nodup, s.s.slinj, fun l hl => ⟨(if_neg (Ne.symm ((s.s.rdy l hl).2 k hk))).trans (s.s.rdy l hl).1, (s.s.rdy l hl).2⟩, fun j hj x hx => ?_, s.s.rin⟩, fun x o e => ?_, s.apart⟩
 ·by_cases q : j = k
  ·subst q
   rw [zA]
   unfold SG.pushSu
   dsimp only
   rw [if_pos rfl, List.map_append]; rfl
  refine (if_neg fun e => q (s.s.slinj j hj k hk e)).trans ?_
  rw [s.s.sl j hj]
  unfold SG.pushSu
  dsimp only
  rw [if_neg q]
 ·unfold SG.pushSu at hx
  dsimp only at hx
  split at hx
  ·rcases List.mem_append.mp hx with hx | hx
   ·exact s.s.clo k hk x hx
   rw [List.mem_singleton.mp hx]; exact hw
  exact s.s.clo j hj x hx
 refine (if_neg ?_).trans (s.keep x o e)
 rintro rfl
 exact s.apart _ o e (.inr (.inr (.inr (.inl ⟨k, hk, .inr (.inr rfl)⟩))))
noncomputable def SG.addNode (G : SG Str) (k : Str) : SG Str := if k ∈ G.ks then G else { G with ks := G.ks ++ [k], np := fun j => if j = k then 0 else G.np j, su := fun j => if j = k then [] else G.su j }
theorem stored_new {kvs : List (Str × Value)} {v : Value} (h : k ∉ kvs.map (·.1)) : stored kvs k v = kvs ++ [(k, v)] := by
 unfold stored
 rw [if_neg]
 intro q
 refine zB (List.any_eq_true.mp q) ?_; intro p hp e
 exact h (List.mem_map.mpr ⟨p, hp, of_decide_eq_true e⟩)
theorem zr {f : Str -> Value} (k : Str) : ∀ (ks : List Str), valueAt (ks.map fun k => (k, f k)) k = if k ∈ ks then some (f k) else none
 | [] => rfl
 | j :: ks => by
  have ih := zr (f := f) k ks
  unfold valueAt at ih ⊢
  rw [List.map_cons, List.find?_cons]
  by_cases q : j = k
  ·subst q; simp
  have : decide ((j, f j).1 = k) = false := by simpa using q
  rw [this]
  dsimp only
  rw [ih]
  have q' : ¬ k = j := fun e => q e.symm
  simp [q']
noncomputable def SA.addNode (A : SA Str) (k : Str) (x dx y : Addr) : SA Str := { A with info := fun j => if j = k then x else A.info j, dx := fun j => if j = k then dx else A.dx j, sl := fun j => if j = k then y else A.sl j }
theorem SrtF.addNode (s : SrtF C NI kv A G a fr σ) (hk : k ∉ G.ks) {x dx y : Addr} {ep : Nat} (hσ : ∀ b o, σ b = some o -> b ≠ A.D -> σ' b = some o) (hD : σ' A.D = some (.dict ((G.ks.map fun j => (j, .ref (A.info j))) ++ [(k, .ref x)]) ep))
  (hx : σ' x = some (.slots NI dx [some (kv k), some (.int 0 0), some (.ref y)])) (hdx : σ' dx = some (.ns (fun _ => none) 0)) (hy : σ' y = some (.list [])) (nx : σ x = none) (ndx : σ dx = none) (ny : σ y = none) :
  SrtF C NI kv (A.addNode k x dx y) (G.addNode k) a fr σ' := by
 refine zB s.s.ns ?_; intro m n1 n2
 refine zI s.s.dict ?_; intro ep0 d1
 have kp : ∀ {b : Addr} {o : AO Str}, σ b = some o -> (∀ kvs ep, o ≠ .dict kvs ep) -> σ' b = some o := fun {b o} h hn => hσ b o h (zF h d1 (hn _ _))
 have ne : ∀ {j}, j ∈ G.ks -> j ≠ k := fun hj e => hk (e ▸ hj)
 have eG : G.addNode k = { G with ks := G.ks ++ [k], np := fun j => if j = k then 0 else G.np j, su := fun j => if j = k then [] else G.su j } := if_neg hk
 rw [eG]
 have ks2 : ∀ {j}, j ∈ G.ks ++ [k] -> j ∈ G.ks ∨ j = k := fun hj => (List.mem_append.mp hj).imp id List.mem_singleton.mp
 refine ⟨⟨kp s.s.inst (fun _ _ e => by exact (nomatch e)), ⟨m, kp n1 (fun _ _ e => by exact (nomatch e)), ⟨n2.n2i, n2.rdy, n2.po, n2.nf, n2.out⟩⟩, ⟨ep, ?_⟩, s.s.lo, fun j hj => ?_, fun j hj => ?_, fun j hj => ?_, ?_, fun i hi j hj e => ?_, fun l hl => ⟨kp (s.s.rdy l hl).1 (fun _ _ e => by exact (nomatch e)), fun j hj => ?_⟩, fun j hj w hw => ?_, fun l hl w hw => List.mem_append_left _ (s.s.rin l hl w hw)⟩, fun b o e => hσ b o (s.keep b o e) ?_, fun b o e ho => ?_⟩
 ·refine hD.trans ?_
  have e : (G.ks.map fun j => (j, (.ref (A.info j) : Value))) ++ [(k, .ref x)] = (G.ks ++ [k]).map fun j => (j, .ref ((A.addNode k x dx y).info j)) := by
   rw [List.map_append]
   congr 1
   ·refine List.map_congr_left fun j hj => ?_
    unfold SA.addNode; dsimp only; rw [if_neg (ne hj)]
   unfold SA.addNode; simp
  rw [e]
 ·rcases ks2 hj with hj | rfl
  ·unfold SA.addNode slotsOf; dsimp only; rw [if_neg (ne hj), if_neg (ne hj), if_neg (ne hj), if_neg (ne hj)]
   exact kp (s.s.info j hj) (fun _ _ e => by exact (nomatch e))
  unfold SA.addNode slotsOf; dsimp only; rw [if_pos rfl, if_pos rfl, if_pos rfl, if_pos rfl]; exact hx
 ·rcases ks2 hj with hj | rfl
  ·unfold SA.addNode; dsimp only; rw [if_neg (ne hj)]
   exact kp (s.s.dx j hj) (fun _ _ e => by exact (nomatch e))
  unfold SA.addNode; dsimp only; rw [if_pos rfl]; exact hdx
 ·rcases ks2 hj with hj | rfl
  ·unfold SA.addNode; dsimp only; rw [if_neg (ne hj), if_neg (ne hj)]
   exact kp (s.s.sl j hj) (fun _ _ e => by exact (nomatch e))
  unfold SA.addNode; dsimp only; rw [if_pos rfl, if_pos rfl]; exact hy
 ·rw [List.nodup_append]
  refine ⟨s.s.nodup, by simp, fun u hu v hv e => ?_⟩
  rw [List.mem_singleton.mp hv] at e
  exact hk (e ▸ hu)
 ·unfold SA.addNode at e
  dsimp only at e
  rcases ks2 hi with hi' | hi'
  ·rw [if_neg (ne hi')] at e
   rcases ks2 hj with hj' | hj'
   ·rw [if_neg (ne hj')] at e; exact s.s.slinj i hi' j hj' e
   rw [if_pos hj'] at e
   have := s.s.sl i hi'
   rw [e, ny] at this; exact Mine.ns this
  rw [if_pos hi'] at e
  rcases ks2 hj with hj' | hj'
  ·rw [if_neg (ne hj')] at e
   have := s.s.sl j hj'
   rw [← e, ny] at this; exact Mine.ns this
  rw [hi', hj']
 ·unfold SA.addNode
  dsimp only
  rcases ks2 hj with hj | rfl
  ·rw [if_neg (ne hj)]; exact (s.s.rdy l hl).2 j hj
  rw [if_pos rfl]
  rintro rfl
  have := (s.s.rdy l hl).1
  rw [ny] at this; exact Mine.ns this
 ·dsimp only at hw
  rcases ks2 hj with hj | rfl
  ·rw [if_neg (ne hj)] at hw; exact List.mem_append_left _ (s.s.clo j hj w hw)
  rw [if_pos rfl] at hw; cases hw
 ·rintro rfl; exact s.apart _ o e (.inr (.inr (.inl rfl)))
 rcases ho with h | h | h | ⟨j, hj, h⟩ | h
 ·exact s.apart b o e (.inl h)
 ·exact s.apart b o e (.inr (.inl h))
 ·exact s.apart b o e (.inr (.inr (.inl h)))
 ·unfold SA.addNode at h
  dsimp only at h
  rcases ks2 hj with hj | rfl
  ·rw [if_neg (ne hj), if_neg (ne hj), if_neg (ne hj)] at h
   exact s.apart b o e (.inr (.inr (.inr (.inl ⟨j, hj, h⟩))))
  rw [if_pos rfl, if_pos rfl, if_pos rfl] at h
  have := s.keep b o e
  rcases h with rfl | rfl | rfl
  ·rw [nx] at this; exact Mine.ns this
  ·rw [ndx] at this; exact Mine.ns this
  rw [ny] at this; exact Mine.ns this
 exact s.apart b o e (.inr (.inr (.inr (.inr h))))
theorem SrtF.setNs (s : SrtF C NI kv A G a fr σ) {m : Str -> Option Value} (hm : NsIs A' G' m) (eA : A' = { A with R := A'.R }) (e1 : G'.ks = G.ks) (e2 : G'.np = G.np) (e3 : G'.su = G.su)
  (hr : ∀ l, G'.ready = some l -> σ A'.R = some (.list (l.map kv)) /\ (∀ k ∈ G.ks, A.sl k ≠ A'.R) /\ (∀ w ∈ l, w ∈ G.ks) /\ ∀ o, fr A'.R ≠ some o) : SrtF C NI kv A' G' a fr (upd σ A.d (.ns m 4)) := by
 refine zB s.s.ns ?_; intro m0 n1 n2
 refine zI s.s.dict ?_; intro ep d1
 obtain ⟨ks, np, su, ready, po, nf⟩ := G'
 obtain ⟨d', D', info', dx', sl', R'⟩ := A'
 dsimp only at e1 e2 e3 hr eA
 subst e1 e2 e3
 obtain ⟨rfl, rfl, rfl, rfl, rfl⟩ : A.d = d' /\ A.D = D' /\ A.info = info' /\ A.dx = dx' /\ A.sl = sl' := by
  simp only [SA.mk.injEq] at eA
  exact ⟨eA.1.symm, eA.2.1.symm, eA.2.2.1.symm, eA.2.2.2.1.symm, eA.2.2.2.2.1.symm⟩
 have kp : ∀ {x : Addr} {o : AO Str}, σ x = some o -> (o ≠ .ns m0 4) -> upd σ A.d (.ns m 4) x = some o := fun {x o} h hn => (if_neg (zF h n1 hn)).trans h
 refine ⟨⟨kp s.s.inst (fun e => by exact (nomatch e)), ⟨m, zA, hm⟩, ⟨ep, kp d1 (fun e => by exact (nomatch e))⟩, s.s.lo, fun j hj => kp (s.s.info j hj) (fun e => by exact (nomatch e)), fun j hj => kp (s.s.dx j hj) (fun e => by cases e),
  fun j hj => kp (s.s.sl j hj) (fun e => by exact (nomatch e)), s.s.nodup, s.s.slinj, fun l hl => ⟨kp (hr l hl).1 (fun e => by exact (nomatch e)), (hr l hl).2.1⟩, s.s.clo, fun l hl => (hr l hl).2.2.1⟩, fun x o e => ?_, fun x o e ho => ?_⟩
 ·refine (if_neg ?_).trans (s.keep x o e)
  rintro rfl
  exact s.apart _ o e (.inr (.inl rfl))
 rcases ho with h | h | h | h | ⟨h, h'⟩
 ·exact s.apart x o e (.inl h)
 ·exact s.apart x o e (.inr (.inl h))
 ·exact s.apart x o e (.inr (.inr (.inl h)))
 ·exact s.apart x o e (.inr (.inr (.inr (.inl h))))
 refine zI (Option.isSome_iff_exists.mp h) ?_; intro l hl
 subst h'
 exact (hr l hl).2.2.2 o e
theorem SrtF.setRdy (s : SrtF C NI kv A G a fr σ) {l l' : List Str} (hl : G.ready = some l) (hin : ∀ w ∈ l', w ∈ G.ks) : SrtF C NI kv A { G with ready := some l' } a fr (upd σ A.R (.list (l'.map kv))) := by
 refine zB s.s.ns ?_; intro m n1 n2
 refine zI s.s.dict ?_; intro ep d1
 refine zL (s.s.rdy l hl) ?_; intro r1 r2
 have kp : ∀ {x : Addr} {o : AO Str}, σ x = some o -> (∀ xs, o ≠ .list xs) -> upd σ A.R (.list (l'.map kv)) x = some o := fun {x o} h hn => (if_neg (zF h r1 (hn _))).trans h
 refine ⟨⟨kp s.s.inst (fun _ e => by exact (nomatch e)), ⟨m, kp n1 (fun _ e => by exact (nomatch e)), ⟨n2.n2i, by rw [n2.rdy]; unfold rdyV; rw [hl], n2.po, n2.nf, n2.out⟩⟩, ⟨ep, kp d1 (fun _ e => by exact (nomatch e))⟩, s.s.lo, fun j hj => kp (s.s.info j hj) (fun _ e => by exact (nomatch e)), fun j hj => kp (s.s.dx j hj) (fun _ e => by exact (nomatch e)),
  fun j hj => (if_neg (r2 j hj)).trans (s.s.sl j hj), s.s.nodup, s.s.slinj, fun lb hV => ⟨by (replace hV := Option.some.inj hV; subst hV); exact zA, r2⟩, s.s.clo, fun lb hV => by (replace hV := Option.some.inj hV; subst hV); exact hin⟩, fun x o e => ?_, fun x o e ho => ?_⟩
 ·refine (if_neg ?_).trans (s.keep x o e)
  rintro rfl
  exact s.apart _ o e (.inr (.inr (.inr (.inr ⟨by rw [hl]; rfl, rfl⟩))))
 rcases ho with h | h | h | h | ⟨h, h'⟩
 ·exact s.apart x o e (.inl h)
 ·exact s.apart x o e (.inr (.inl h))
 ·exact s.apart x o e (.inr (.inr (.inl h)))
 ·exact s.apart x o e (.inr (.inr (.inr (.inl h))))
 exact s.apart x o e (.inr (.inr (.inr (.inr ⟨by rw [hl]; rfl, h'⟩))))
end
section
noncomputable def Fin' (sn : List Str) (stk : List (Str × Nat)) (w : Str) : Prop := w ∈ sn /\ w ∉ stk.map (·.1)
noncomputable def Path (su : Str -> List Str) (Fn : Str -> Prop) : Str -> List (Str × Nat) -> Prop
 | _, [] => True
 | x, (y, p) :: rest => 1 ≤ p /\ (su y)[p - 1]? = some x /\ (∀ i w, i < p - 1 -> (su y)[i]? = some w -> Fn w) /\ Path su Fn y rest
noncomputable def PathB (su : Str -> List Str) (Fn : Str -> Prop) : List (Str × Nat) -> Prop
 | [] => True
 | (y, p) :: rest => (∀ i w, i < p -> (su y)[i]? = some w -> Fn w) /\ Path su Fn y rest
theorem Path.mono {su : Str -> List Str} {Fn Fn' : Str -> Prop} (h : ∀ w, Fn w -> Fn' w) : ∀ {stk : List (Str × Nat)} {x : Str}, Path su Fn x stk -> Path su Fn' x stk
 | [], _, _ => trivial
 | (y, p) :: rest, x, ⟨h1, h2, h3, h4⟩ => ⟨h1, h2, fun i w hi e => h w (h3 i w hi e), h4.mono h⟩
structure DI (ks : List Str) (su : Str -> List Str) (sn : List Str) (stk : List (Str × Nat)) (r : Str -> Nat) (cnt : Nat) : Prop where
 nd : (stk.map (·.1)).Nodup
 ss : ∀ y ∈ stk.map (·.1), y ∈ sn
 sk : ∀ y ∈ sn, y ∈ ks
 snd : sn.Nodup
 fin : ∀ w, Fin' sn stk w -> ∀ v ∈ su w, Fin' sn stk v /\ r v < r w
 rc : ∀ w, Fin' sn stk w -> r w < cnt
 le : ∀ yp ∈ stk, yp.2 ≤ (su yp.1).length
variable {ks : List Str} {su : Str -> List Str} {sn : List Str} {stk rest : List (Str × Nat)} {r : Str -> Nat} {cnt p : Nat} {x y : Str}
theorem DI.push (d : DI ks su sn stk r cnt) (hx : x ∉ sn) (hk : x ∈ ks) (h : Path su (Fin' sn stk) x stk) : DI ks su (sn ++ [x]) ((x, 0) :: stk) r cnt /\ PathB su (Fin' (sn ++ [x]) ((x, 0) :: stk)) ((x, 0) :: stk) := by
 have hxs : x ∉ stk.map (·.1) := fun q => hx (d.ss x q)
 have up : ∀ w, Fin' sn stk w -> Fin' (sn ++ [x]) ((x, 0) :: stk) w := fun w hw => ⟨List.mem_append_left _ hw.1, fun q => by
  rw [List.map_cons] at q
  rcases List.mem_cons.mp q with q | q
  ·exact hx ((show w = x from q) ▸ hw.1)
  ·exact hw.2 q⟩
 have down : ∀ w, Fin' (sn ++ [x]) ((x, 0) :: stk) w -> Fin' sn stk w := fun w hw => by
  refine zL hw ?_; (try clear hw); intro h1 h2
  rw [List.map_cons, List.mem_cons, not_or] at h2
  refine ⟨?_, h2.2⟩
  rcases List.mem_append.mp h1 with h1 | h1
  ·exact h1
  exact absurd (List.mem_singleton.mp h1) h2.1
 refine ⟨⟨?_, fun z hz => ?_, fun z hz => ?_, ?_, fun w hw v hv => ?_, fun w hw => d.rc w (down w hw), fun yp hy => ?_⟩, fun i w hi => absurd hi (Nat.not_lt_zero _), h.mono up⟩
 ·rw [List.map_cons]; exact List.nodup_cons.mpr ⟨hxs, d.nd⟩
 ·rw [List.map_cons] at hz
  rcases List.mem_cons.mp hz with rfl | hz
  ·simp
  exact List.mem_append_left _ (d.ss z hz)
 ·rcases List.mem_append.mp hz with hz | hz
  ·exact d.sk z hz
  rw [List.mem_singleton.mp hz]; exact hk
 ·rw [List.nodup_append]
  exact ⟨d.snd, by simp, fun u hu v hv e => by rw [List.mem_singleton.mp hv] at e; exact hx (e ▸ hu)⟩
 ·(refine zL (d.fin w (down w hw) v hv) ?_; intro h1 h2)
  exact ⟨up v h1, h2⟩
 rcases List.mem_cons.mp hy with rfl | hy
 ·exact Nat.zero_le _
 exact d.le yp hy
theorem Path.seen (h : Path su (Fin' sn stk) x stk) (hx : Fin' sn stk x) : PathB su (Fin' sn stk) stk := by
 cases stk with
 | nil => trivial
 | cons yp rest =>
  obtain ⟨y, p⟩ := yp
  refine el_AAA h ?_; (try clear h); intro h1 h2 h3 h4
  refine ⟨fun i w hi e => ?_, h4⟩
  by_cases q : i < p - 1
  ·exact h3 i w q e
  have : i = p - 1 := by exact om12 ‹_› ‹_›
  rw [this, h2] at e
  (replace e := Option.some.inj e; subst e); exact hx
theorem DI.adv (d : DI ks su sn ((y, p) :: rest) r cnt) (h : PathB su (Fin' sn ((y, p) :: rest)) ((y, p) :: rest)) (hw : (su y)[p]? = some x) : DI ks su sn ((y, p + 1) :: rest) r cnt /\ Path su (Fin' sn ((y, p + 1) :: rest)) x ((y, p + 1) :: rest) := by
 have same : ∀ w, Fin' sn ((y, p + 1) :: rest) w ↔ Fin' sn ((y, p) :: rest) w := fun w => Iff.rfl
 refine ⟨⟨d.nd, d.ss, d.sk, d.snd, d.fin, d.rc, fun yp hy => ?_⟩, by exact Nat.le_add_left _ _, by rw [Nat.add_sub_cancel]; exact hw, fun i w hi e => h.1 i w ‹_› e, h.2⟩
 rcases List.mem_cons.mp hy with rfl | hy
 ·have := (List.getElem?_eq_some_iff.mp hw).1
  exact this
 exact d.le yp (.tail _ hy)
theorem DI.pop (d : DI ks su sn ((y, p) :: rest) r cnt) (h : PathB su (Fin' sn ((y, p) :: rest)) ((y, p) :: rest)) (hw : (su y)[p]? = none) :
  DI ks su sn rest (fun z => if z = y then cnt else r z) (cnt + 1) /\ PathB su (Fin' sn rest) rest := by
 have hlen : (su y).length ≤ p := List.getElem?_eq_none_iff.mp hw
 have nd := d.nd
 rw [List.map_cons, List.nodup_cons] at nd
 have up : ∀ w, Fin' sn ((y, p) :: rest) w -> Fin' sn rest w := fun w hw => ⟨hw.1, fun q => hw.2 (by rw [List.map_cons]; exact .tail _ q)⟩
 have down : ∀ w, Fin' sn rest w -> w = y ∨ (w ≠ y /\ Fin' sn ((y, p) :: rest) w) := fun w hw => by
  by_cases q : w = y
  ·exact .inl q
  refine .inr ⟨q, hw.1, fun z => ?_⟩
  rw [List.map_cons] at z
  rcases List.mem_cons.mp z with z | z
  ·exact q z
  exact hw.2 z
 have neY : ∀ w, Fin' sn ((y, p) :: rest) w -> w ≠ y := fun w hw q => hw.2 (by rw [q, List.map_cons]; exact .head _)
 refine ⟨⟨nd.2, fun z hz => d.ss z (by rw [List.map_cons]; exact .tail _ hz), d.sk, d.snd, fun w hw v hv => ?_, fun w hw => ?_, fun yp hy => d.le yp (.tail _ hy)⟩, ?_⟩
 ·rcases down w hw with rfl | ⟨q, hw⟩
  ·(refine zI (List.getElem?_of_mem hv) ?_; intro i hi)
   have hil : i < p := Nat.lt_of_lt_of_le (List.getElem?_eq_some_iff.mp hi).1 hlen
   have fv := h.1 i v hil hi
   refine ⟨up v fv, ?_⟩
   rw [if_pos rfl, if_neg (neY v fv)]
   exact d.rc v fv
  refine zL (d.fin w hw v hv) ?_; intro h1 h2
  refine ⟨up v h1, ?_⟩
  rw [if_neg q, if_neg (neY v h1)]
  exact h2
 ·rcases down w hw with rfl | ⟨q, hw⟩
  ·rw [if_pos rfl]; exact Nat.lt_succ_self _
  rw [if_neg q]; exact Nat.lt_succ_of_lt (d.rc w hw)
 cases rest with
 | nil => trivial
 | cons zq rest' =>
  obtain ⟨z, q⟩ := zq
  refine el_AAA h.2 ?_; intro h1 h2 h3 h4
  have fy : Fin' sn ((z, q) :: rest') y := ⟨d.ss y (by rw [List.map_cons]; exact .head _), nd.1⟩
  refine ⟨fun i w hi e => ?_, h4.mono up⟩
  by_cases k : i < q - 1
  ·exact up w (h3 i w k e)
  have : i = q - 1 := by exact om12 ‹_› ‹_›
  rw [this, h2] at e
  (replace e := Option.some.inj e; subst e); exact fy
noncomputable def Ch (R : Str -> Str -> Prop) : List Str -> Prop
 | [] => True
 | [_] => True
 | u :: v :: l => R u v /\ Ch R (v :: l)
theorem Ch.snoc {R : Str -> Str -> Prop} {u v : Str} : ∀ {l : List Str}, Ch R (l ++ [u]) -> R u v -> Ch R (l ++ [u] ++ [v])
 | [], _, h => ⟨h, trivial⟩
 | [a], h, h' => ⟨h.1, h', trivial⟩
 | a :: b :: l, h, h' => ⟨h.1, Ch.snoc (l := b :: l) h.2 h'⟩
noncomputable def IsRing (su : Str -> List Str) (q : List Str) : Prop := ∃ x l, q = x :: l ++ [x] /\ (x :: l).Nodup /\ Ch (fun u v => v ∈ su u) q
theorem Path.chain {Fn : Str -> Prop} : ∀ {top : List (Str × Nat)} {c z : Str}, Path su Fn c (top ++ (z, p) :: rest) -> Ch (fun u v => v ∈ su u) (z :: (top.map (·.1)).reverse ++ [c])
 | [], c, z, ⟨_, h2, _, _⟩ => ⟨List.mem_of_getElem? h2, trivial⟩
 | (y, q) :: top, c, z, ⟨_, h2, _, h4⟩ => by
  have ih := Path.chain (top := top) h4
  rw [List.map_cons, List.reverse_cons]
  have e : z :: ((top.map (·.1)).reverse ++ [y]) ++ [c] = (z :: (top.map (·.1)).reverse) ++ [y] ++ [c] := by simp
  rw [e]
  exact ih.snoc (List.mem_of_getElem? h2)
theorem DI.ring {top : List (Str × Nat)} (d : DI ks su sn (top ++ (x, p) :: rest) r cnt) (h : Path su (Fin' sn (top ++ (x, p) :: rest)) x (top ++ (x, p) :: rest)) : IsRing su (x :: (top.map (·.1)).reverse ++ [x]) := by
 refine ⟨x, (top.map (·.1)).reverse, rfl, ?_, h.chain⟩
 have nd := d.nd
 rw [List.map_append, List.map_cons, List.nodup_append] at nd
 refine el_AA nd ?_; (try clear nd); intro h1 h2 h3
 refine List.nodup_cons.mpr ⟨fun q => ?_, List.pairwise_reverse.mpr (h1.imp Ne.symm)⟩
 rw [List.mem_reverse] at q
 exact h3 x q x (.head _) rfl
theorem no_ring {f : Str -> Nat} (hf : ∀ u v, v ∈ su u -> f v < f u) {q : List Str} (h : IsRing su q) : False := by
 refine zD h ?_; (try clear h); intro x l rfl_75 _ hc; subst rfl_75
 have gen : ∀ (l : List Str) (u v : Str), Ch (fun u v => v ∈ su u) (u :: l ++ [v]) -> f v < f u := by
  intro l
  induction l with
  | nil => exact fun u v h => hf u v h.1
  | cons a l ih => exact fun u v h => Nat.lt_trans (ih a v h.2) (hf u a h.1)
 exact Nat.lt_irrefl _ (gen l x x hc)
noncomputable def dm (ks : List Str) (su : Str -> List Str) (sn : List Str) (stk : List (Str × Nat)) : Nat :=
 ((ks.filter fun k => decide (k ∉ sn)).map fun k => (su k).length + 2).sum + (stk.map fun yp => (su yp.1).length - yp.2 + 1).sum
theorem sum_filter_drop {f : Str -> Nat} : ∀ (ks : List Str), x ∈ ks -> x ∉ sn -> ((ks.filter fun k => decide (k ∉ sn ++ [x])).map f).sum + f x ≤ ((ks.filter fun k => decide (k ∉ sn)).map f).sum
 | [], h, _ => by cases h
 | k :: ks, h, hx => by
  have mono : ∀ l : List Str, ((l.filter fun k => decide (k ∉ sn ++ [x])).map f).sum ≤ ((l.filter fun k => decide (k ∉ sn)).map f).sum := by
   intro l
   induction l with
   | nil => exact Nat.le_refl _
   | cons a l ih =>
    rw [List.filter_cons, List.filter_cons]
    by_cases q : a ∈ sn
    ·rw [if_neg (by simp [q]), if_neg (by simp [q])]; exact ih
    by_cases q2 : a = x
    ·rw [if_neg (by simp [q2]), if_pos (by simpa using q), List.map_cons, List.sum_cons]; omega
    rw [if_pos (by simp [q, q2]), if_pos (by simpa using q), List.map_cons, List.map_cons, List.sum_cons, List.sum_cons]; omega
  rw [List.filter_cons, List.filter_cons]
  by_cases q2 : k = x
  ·subst q2
   rw [if_neg (by simp), if_pos (by simpa using hx), List.map_cons, List.sum_cons]
   have := mono ks
   omega
  have h : x ∈ ks := (List.mem_cons.mp h).resolve_left fun e => q2 e.symm
  have ih := sum_filter_drop (f := f) ks h hx
  by_cases q : k ∈ sn
  ·rw [if_neg (by simp [q]), if_neg (by simp [q])]; exact ih
  rw [if_pos (by simp [q, q2]), if_pos (by simpa using q), List.map_cons, List.map_cons, List.sum_cons, List.sum_cons]; lia
theorem dm_push (hk : x ∈ ks) (hx : x ∉ sn) : dm ks su (sn ++ [x]) ((x, 0) :: stk) < dm ks su sn stk := by
 unfold dm
 have := sum_filter_drop (f := fun k => (su k).length + 2) ks hk hx
 rw [List.map_cons, List.sum_cons]
 dsimp only at this ⊢
 lia
theorem dm_adv (h : p < (su y).length) : dm ks su sn ((y, p + 1) :: rest) < dm ks su sn ((y, p) :: rest) := by
 unfold dm
 rw [List.map_cons, List.sum_cons, List.map_cons, List.sum_cons]
 dsimp only
 lia
theorem dm_pop : dm ks su sn rest < dm ks su sn ((y, p) :: rest) := by
 unfold dm
 rw [List.map_cons, List.sum_cons]
 (simp)
theorem zd : ∀ {l l' : List Str}, l.Nodup -> (∀ z ∈ l, z ∈ l') -> l.length ≤ l'.length
 | [], _, _, _ => Nat.zero_le _
 | a :: l, l', h, hs => by
  refine zL (List.nodup_cons.mp h) ?_; intro h1 h2
  have ha : a ∈ l' := hs a (.head _)
  have ih := zd (l' := l'.erase a) h2 fun z hz => (List.mem_erase_of_ne (fun (e : z = a) => h1 (e ▸ hz))).mpr (hs z (.tail _ hz))
  rw [List.length_erase_of_mem ha] at ih
  have := List.length_pos_of_mem ha
  rw [List.length_cons]
  lia
end
section
variable {C NI : Addr} {kv : Str -> Value} {A A' : SA Str} {G G' : SG Str} {a b : Addr} {fr fr' σ σ' : Addr -> Option (AO Str)} {k j : Str}
noncomputable def Its (A : SA Str) (σ : Addr -> Option (AO Str)) : List (Str × Nat) -> List (Addr × Addr) -> Prop
 | [], [] => True
 | (y, p) :: stk, (mw, it) :: ms => σ mw = some (mwO it) /\ σ it = some (litO (A.sl y) p) /\ Its A σ stk ms
 | _, _ => False
theorem Its.mono : ∀ {stk : List (Str × Nat)} {ms : List (Addr × Addr)}, Its A σ stk ms -> (∀ m ∈ ms, ∀ o, (σ m.1 = some o -> σ' m.1 = some o) /\ (σ m.2 = some o -> σ' m.2 = some o)) -> Its A σ' stk ms
 | [], [], _, _ => trivial
 | (y, p) :: stk, (mw, it) :: ms, ⟨h1, h2, h3⟩, h => ⟨(h _ (.head _) _).1 h1, (h _ (.head _) _).2 h2, h3.mono fun m hm => h m (.tail _ hm)⟩
theorem Its.mem : ∀ {stk : List (Str × Nat)} {ms : List (Addr × Addr)}, Its A σ stk ms -> ∀ m ∈ ms, σ m.1 = some (mwO m.2) /\ ∃ y p, σ m.2 = some (litO (A.sl y) p)
 | [], [], _, m, hm => by cases hm
 | (y, p) :: stk, (mw, it) :: ms, ⟨h1, h2, h3⟩, m, hm => by
  rcases List.mem_cons.mp hm with rfl | hm
  ·exact ⟨h1, y, p, h2⟩
  exact h3.mem m hm
theorem Its.len : ∀ {stk : List (Str × Nat)} {ms : List (Addr × Addr)}, Its A σ stk ms -> ms.length = stk.length
 | [], [], _ => rfl
 | (y, p) :: stk, (mw, it) :: ms, ⟨_, _, h3⟩ => by rw [List.length_cons, List.length_cons, h3.len]
noncomputable def nk : List Str -> List (Str × Value)
 | [] => []
 | y :: r => nk r ++ [(y, .int r.length 0)]
theorem nk_keys : ∀ l : List Str, (nk l).map (·.1) = l.reverse
 | [] => rfl
 | y :: r => by rw [nk, List.map_append, nk_keys r, List.reverse_cons]; rfl
theorem nk_len (l : List Str) : (nk l).length = l.length := by rw [← List.length_map (f := (·.1)), nk_keys, List.length_reverse]
theorem nk_at {x : Str} : ∀ {top rest : List Str}, (top ++ x :: rest).Nodup -> valueAt (nk (top ++ x :: rest)) x = some (.int rest.length 0)
 | [], rest, h => by
  have hx : x ∉ rest := (List.nodup_cons.mp h).1
  show valueAt (nk rest ++ [(x, _)]) x = _
  unfold valueAt
  rw [List.find?_append]
  have : (nk rest).find? (fun kv => decide (kv.1 = x)) = none := List.find?_eq_none.mpr fun p hp q => by
   have : p.1 ∈ (nk rest).map (·.1) := List.mem_map.mpr ⟨p, hp, rfl⟩
   rw [nk_keys, List.mem_reverse] at this
   exact hx ((of_decide_eq_true q) ▸ this)
  rw [this]
  simp
 | y :: top, rest, h => by
  refine zL (List.nodup_cons.mp h) ?_; intro h1 h2
  have ih := nk_at h2
  show valueAt (nk (top ++ x :: rest) ++ [(y, _)]) x = _
  unfold valueAt at ih ⊢
  rw [List.find?_append]
  cases q : (nk (top ++ x :: rest)).find? (fun kv => decide (kv.1 = x)) with
  | none => rw [q] at ih; exact Mine.ns ih
  | some p => rw [q] at ih; exact ih
theorem nk_has {x : Str} {l : List Str} : (valueAt (nk l) x).isSome = decide (x ∈ l) := by
 rw [valueAt_isSome_eq_any]
 rw [Bool.eq_iff_iff, List.any_eq_true, decide_eq_true_eq]
 constructor
 ·intro q_
  refine zB q_ ?_; clear q_; intro p hp e
  have : p.1 ∈ (nk l).map (·.1) := List.mem_map.mpr ⟨p, hp, rfl⟩
  rw [nk_keys, List.mem_reverse] at this
  exact (of_decide_eq_true e) ▸ this
 intro h
 have : x ∈ (nk l).map (·.1) := by rw [nk_keys, List.mem_reverse]; exact h
 refine zB (List.mem_map.mp this) ?_; intro p hp e
 exact ⟨p, hp, decide_eq_true e⟩
theorem nk_without {y : Str} {r : List Str} (h : y ∉ r) : without (nk (y :: r)) y = nk r := by
 show without (nk r ++ [(y, _)]) y = nk r
 unfold without
 rw [List.filter_append]
 have e1 : (nk r).filter (fun kv => decide (kv.1 ≠ y)) = nk r := List.filter_eq_self.mpr fun p hp => by
  have : p.1 ∈ (nk r).map (·.1) := List.mem_map.mpr ⟨p, hp, rfl⟩
  rw [nk_keys, List.mem_reverse] at this
  exact decide_eq_true fun e => h (e ▸ this)
 rw [e1]
 simp
theorem SrtF.ext (s : SrtF C NI kv A G a fr σ) (h : ∀ b o, σ b = some o -> (Own A G a b ∨ ∃ o', fr b = some o') -> σ' b = some o) : SrtF C NI kv A G a fr σ' where
 s := by
  refine zB s.s.ns ?_; intro m n1 n2
  refine zI s.s.dict ?_; intro ep d1
  exact ⟨h _ _ s.s.inst (.inl (.inl rfl)), ⟨m, h _ _ n1 (.inl (.inr (.inl rfl))), n2⟩, ⟨ep, h _ _ d1 (.inl (.inr (.inr (.inl rfl))))⟩, s.s.lo,
   fun k hk => h _ _ (s.s.info k hk) (.inl (.inr (.inr (.inr (.inl ⟨k, hk, .inl rfl⟩))))), fun k hk => h _ _ (s.s.dx k hk) (.inl (.inr (.inr (.inr (.inl ⟨k, hk, .inr (.inl rfl)⟩))))),
   fun k hk => h _ _ (s.s.sl k hk) (.inl (.inr (.inr (.inr (.inl ⟨k, hk, .inr (.inr rfl)⟩))))), s.s.nodup, s.s.slinj, fun l hl => ⟨h _ _ (s.s.rdy l hl).1 (.inl (.inr (.inr (.inr (.inr ⟨by rw [hl]; rfl, rfl⟩))))), (s.s.rdy l hl).2⟩, s.s.clo, s.s.rin⟩
 keep b o e := h b o (s.keep b o e) (.inr ⟨o, e⟩)
 apart := s.apart
structure DS (kv : Str -> Value) (A : SA Str) (σ0 : Addr -> Option (AO Str)) (T I E D : Addr) (sn : List Str) (stk : List (Str × Nat)) (ms : List (Addr × Addr)) (σ : Addr -> Option (AO Str)) : Prop where
 keep : ∀ b o, σ0 b = some o -> σ b = some o
 hT : σ T = some (.list ((stk.map (·.1)).reverse.map kv))
 hI : σ I = some (.list (ms.reverse.map fun m => .ref m.1))
 hE : ∃ P : Str -> Bool, (∀ k, P k = decide (k ∈ sn)) /\ σ E = some (.set P sn.length)
 hD : ∃ ep, σ D = some (.dict (nk (stk.map (·.1))) ep)
 its : Its A σ stk ms
 loc : ∀ b, (b = T ∨ b = I ∨ b = E ∨ b = D ∨ ∃ m ∈ ms, b = m.1 ∨ b = m.2) -> σ0 b = none
 TI : T ≠ I
 itnd : (ms.map (·.2)).Nodup
 mwit : ∀ m ∈ ms, ∀ m' ∈ ms, m.1 ≠ m'.2
variable {T I E D : Addr} {sn : List Str} {stk : List (Str × Nat)} {ms : List (Addr × Addr)} {x y : Str} {p : Nat} {mw it : Addr} {σ0 : Addr -> Option (AO Str)}
theorem DS.srt (d : DS kv A σ0 T I E D sn stk ms σ) (s : SrtF C NI kv A G a fr σ0) : SrtF C NI kv A G a fr σ := s.ext fun b o e _ => d.keep b o e
theorem DS.len (d : DS kv A σ0 T I E D sn stk ms σ) : ms.length = stk.length := d.its.len
theorem DS.adv (d : DS kv A σ0 T I E D sn ((y, p) :: stk) ((mw, it) :: ms) σ) : DS kv A σ0 T I E D sn ((y, p + 1) :: stk) ((mw, it) :: ms) (upd σ it (litO (A.sl y) (p + 1))) := by
 refine el_AA d.its ?_; intro h1 h2 h3
 have raw : ∀ {b : Addr} {o : AO Str}, σ b = some o -> (∀ P, o ≠ .raw P) -> upd σ it (litO (A.sl y) (p + 1)) b = some o := fun h hn => (if_neg (zF h h2 (hn _))).trans h
 have hloc := d.loc it (.inr (.inr (.inr (.inr ⟨_, .head _, .inr rfl⟩))))
 have nd := d.itnd
 rw [List.map_cons, List.nodup_cons] at nd
 refine zI d.hD ?_; intro ep hD
 refine zB d.hE ?_; intro P hP hE
 refine ⟨fun b o e => (if_neg ?_).trans (d.keep b o e), raw d.hT (fun _ e => by exact (nomatch e)), raw d.hI (fun _ e => by exact (nomatch e)), ⟨P, hP, raw hE (fun _ e => by exact (nomatch e))⟩, ⟨ep, raw hD (fun _ e => by exact (nomatch e))⟩, ⟨?_, zA, h3.mono fun m hm o => ⟨fun e => ?_, fun e => ?_⟩⟩, d.loc, d.TI, d.itnd, d.mwit⟩
 ·rintro rfl
  rw [hloc] at e; exact Mine.ns e
 ·exact (if_neg (d.mwit _ (.head _) _ (.head _))).trans h1
 ·exact (if_neg (d.mwit _ (.tail _ hm) _ (.head _))).trans e
 exact (if_neg fun q => nd.1 (List.mem_map.mpr ⟨m, hm, q⟩)).trans e
theorem DS.pop (d : DS kv A σ0 T I E D sn ((y, p) :: stk) ((mw, it) :: ms) σ) (hσ : ∀ b o, σ b = some o -> b ≠ T -> b ≠ I -> b ≠ D -> b ≠ it -> σ' b = some o)
  (hT : σ' T = some (.list ((stk.map (·.1)).reverse.map kv))) (hI : σ' I = some (.list (ms.reverse.map fun m => .ref m.1))) (hD : ∃ ep, σ' D = some (.dict (nk (stk.map (·.1))) ep)) : DS kv A σ0 T I E D sn stk ms σ' := by
 refine el_AA d.its ?_; intro h1 h2 h3
 refine zI d.hD ?_; intro ep hD0
 refine zB d.hE ?_; intro P hP hE
 have nd := d.itnd
 rw [List.map_cons, List.nodup_cons] at nd
 refine ⟨fun b o e => ?_, hT, hI, ⟨P, hP, hσ _ _ hE (zF hE d.hT (fun e => by exact (nomatch e))) (zF hE d.hI (fun e => by exact (nomatch e))) (zF hE hD0 (fun e => by exact (nomatch e))) (zF hE h2 (fun e => by exact (nomatch e)))⟩, hD, ?_, fun b hb => d.loc b ?_, d.TI, nd.2, fun m hm m' hm' => d.mwit m (.tail _ hm) m' (.tail _ hm')⟩
 ·have no : ∀ z, σ0 z = none -> b ≠ z := by
   rintro z z1 rfl
   rw [z1] at e; exact Mine.ns e
  exact hσ b o (d.keep b o e) (no _ (d.loc _ (.inl rfl))) (no _ (d.loc _ (.inr (.inl rfl)))) (no _ (d.loc _ (.inr (.inr (.inr (.inl rfl)))))) (no _ (d.loc _ (.inr (.inr (.inr (.inr ⟨_, .head _, .inr rfl⟩))))))
 ·refine h3.mono fun m hm o => ?_
  refine el_AEE (h3.mem m hm) ?_; intro k1 y' p' k2
  refine ⟨fun e => hσ _ _ e (zF k1 d.hT (fun e => by exact (nomatch e))) (zF k1 d.hI (fun e => by exact (nomatch e))) (zF k1 hD0 (fun e => by exact (nomatch e))) (d.mwit _ (.tail _ hm) _ (.head _)),
   fun e => hσ _ _ e (zF k2 d.hT (fun e => by exact (nomatch e))) (zF k2 d.hI (fun e => by exact (nomatch e))) (zF k2 hD0 (fun e => by exact (nomatch e))) fun q => nd.1 (List.mem_map.mpr ⟨m, hm, q⟩)⟩
 rcases hb with h | h | h | h | ⟨m, hm, h⟩
 ·exact .inl h
 ·exact .inr (.inl h)
 ·exact .inr (.inr (.inl h))
 ·exact .inr (.inr (.inr (.inl h)))
 exact .inr (.inr (.inr (.inr ⟨m, .tail _ hm, h⟩)))
theorem DS.push (d : DS kv A σ0 T I E D sn stk ms σ) (hσ : ∀ b o, σ b = some o -> b ≠ T -> b ≠ I -> b ≠ D -> b ≠ E -> σ' b = some o)
  (hT : σ' T = some (.list (((x :: stk.map (·.1))).reverse.map kv))) (hI : σ' I = some (.list (((mw, it) :: ms).reverse.map fun m => .ref m.1))) (hD : ∃ ep, σ' D = some (.dict (nk (x :: stk.map (·.1))) ep)) (hE : ∃ P : Str -> Bool, (∀ k, P k = decide (k ∈ sn ++ [x])) /\ σ' E = some (.set P (sn ++ [x]).length))
  (hmw : σ' mw = some (mwO it)) (hit : σ' it = some (litO (A.sl x) 0)) (nmw : σ mw = none) (nit : σ it = none) (hne : it ≠ mw) : DS kv A σ0 T I E D (sn ++ [x]) ((x, 0) :: stk) ((mw, it) :: ms) σ' := by
 refine zI d.hD ?_; intro ep hD0
 refine zB d.hE ?_; intro P hP hE0
 have fresh : ∀ z, σ z = none -> σ0 z = none := fun z hz => by
  cases q : σ0 z with
  | none => rfl
  | some o => rw [d.keep z o q] at hz; exact Mine.sn hz
 refine ⟨fun b o e => ?_, hT, hI, hE, hD, ⟨hmw, hit, ?_⟩, fun b hb => ?_, d.TI, ?_, fun m hm m' hm' => ?_⟩
 ·have no : ∀ z, σ0 z = none -> b ≠ z := by
   rintro z z1 rfl
   rw [z1] at e; exact Mine.ns e
  exact hσ b o (d.keep b o e) (no _ (d.loc _ (.inl rfl))) (no _ (d.loc _ (.inr (.inl rfl)))) (no _ (d.loc _ (.inr (.inr (.inr (.inl rfl)))))) (no _ (d.loc _ (.inr (.inr (.inl rfl)))))
 ·refine d.its.mono fun m hm o => ?_
  refine el_AEE (d.its.mem m hm) ?_; intro k1 y' p' k2
  exact ⟨fun e => hσ _ _ e (zF k1 d.hT (fun e => by exact (nomatch e))) (zF k1 d.hI (fun e => by exact (nomatch e))) (zF k1 hD0 (fun e => by exact (nomatch e))) (zF k1 hE0 (fun e => by exact (nomatch e))),
   fun e => hσ _ _ e (zF k2 d.hT (fun e => by exact (nomatch e))) (zF k2 d.hI (fun e => by exact (nomatch e))) (zF k2 hD0 (fun e => by exact (nomatch e))) (zF k2 hE0 (fun e => by exact (nomatch e)))⟩
 ·rcases hb with h | h | h | h | ⟨m, hm, h⟩
  ·exact d.loc b (.inl h)
  ·exact d.loc b (.inr (.inl h))
  ·exact d.loc b (.inr (.inr (.inl h)))
  ·exact d.loc b (.inr (.inr (.inr (.inl h))))
  rcases List.mem_cons.mp hm with rfl | hm
  ·rcases h with rfl | rfl
   ·exact fresh _ nmw
   exact fresh _ nit
  exact d.loc b (.inr (.inr (.inr (.inr ⟨m, hm, h⟩))))
 ·rw [List.map_cons, List.nodup_cons]
  refine ⟨fun q => ?_, d.itnd⟩
  refine zB (List.mem_map.mp q) ?_; intro m hm e
  refine el_AEE (d.its.mem m hm) ?_; intro k1 y' p' k2
  rw [show m.2 = it from e, nit] at k2; exact Mine.ns k2
 rcases List.mem_cons.mp hm with rfl | hm
 ·rcases List.mem_cons.mp hm' with rfl | hm'
  ·exact Ne.symm hne
  refine el_AEE (d.its.mem m' hm') ?_; intro k1 y' p' k2
  rintro e
  rw [← show mw = m'.2 from e, nmw] at k2; exact Mine.ns k2
 refine el_AEE (d.its.mem m hm) ?_; intro k1 y' p' k2
 rcases List.mem_cons.mp hm' with rfl | hm'
 ·rintro e
  rw [show m.1 = it from e, nit] at k1; exact Mine.ns k1
 exact d.mwit m hm m' hm'
end
section
variable {Q : Flow -> St Str -> Prop}
theorem WXF_ofAssign {t : List Expr} {e : Expr} {p : Pos} (h : WX g c (.Assign t e p) S Q) : WXF g c (.Assign t e p) S Q := .of h
theorem WXF_ofExpr {e : Expr} {p : Pos} (h : WX g c (.Expr e p) S Q) : WXF g c (.Expr e p) S Q := .of h
theorem WXF_ofReturn {e : Option Expr} {p : Pos} (h : WX g c (.Return e p) S Q) : WXF g c (.Return e p) S Q := .of h
theorem WXF_ofContinue {p : Pos} (h : WX g c (.Continue p) S Q) : WXF g c (.Continue p) S Q := .of h
theorem WXF_ofBreak {p : Pos} (h : WX g c (.Break p) S Q) : WXF g c (.Break p) S Q := .of h
theorem WXsF_nil (h : Q .next S) : WXsF g c [] S Q := .of (WXs_nil h)
theorem WXsF.le {ss : List Stmt} (h : WXsF g c ss S' Q) (l : Le S' S) : WXsF g c ss S Q := WMF.le h l
variable {kv : Str -> Value} {A : SA Str} {σ0 σ : Addr -> Option (AO Str)} {T I E D : Addr} {sn : List Str} {stk : List (Str × Nat)} {ms : List (Addr × Addr)} {x y : Str} {p : Nat}
structure Nm (m : Str -> Option Value) (DD T I E D : Addr) : Prop where
 n2i : m (ofString "n2i") = some (.ref DD)
 st : m (ofString "stack") = some (.ref T)
 its : m (ofString "itstack") = some (.ref I)
 sn : m (ofString "seen") = some (.ref E)
 nk : m (ofString "node2stacki") = some (.ref D)
theorem Nm.set {m : Str -> Option Value} {DD : Addr} (n : Nm m DD T I E D) (v : Value) : Nm (setv m (ofString "node") v) DD T I E D :=
 ⟨(if_neg (by decide +kernel)).trans n.n2i, (if_neg (by decide +kernel)).trans n.st, (if_neg (by decide +kernel)).trans n.its, (if_neg (by decide +kernel)).trans n.sn, (if_neg (by decide +kernel)).trans n.nk⟩
noncomputable def StA (kv : Str -> Value) (A : SA Str) (G : SG Str) (σ0 : Addr -> Option (AO Str)) (T I E D : Addr) (sn0 : List Str) (xb : Str) (n : Nat) (S : St Str) : Prop :=
 Nm S.m A.D T I E D /\ ∃ sn stk ms r cnt x, n = dm G.ks G.su sn stk /\ S.m (ofString "node") = some (kv x) /\ x ∈ G.ks /\ DS kv A σ0 T I E D sn stk ms S.σ /\ DI G.ks G.su sn stk r cnt /\ Path G.su (Fin' sn stk) x stk /\ (xb ∈ sn ∨ x = xb) /\ ∀ z ∈ sn0, z ∈ sn
noncomputable def StB (kv : Str -> Value) (A : SA Str) (G : SG Str) (σ0 : Addr -> Option (AO Str)) (T I E D : Addr) (sn0 : List Str) (xb : Str) (n : Nat) (S : St Str) : Prop :=
 Nm S.m A.D T I E D /\ ∃ sn stk ms r cnt, n = dm G.ks G.su sn stk /\ DS kv A σ0 T I E D sn stk ms S.σ /\ DI G.ks G.su sn stk r cnt /\ PathB G.su (Fin' sn stk) stk /\ xb ∈ sn /\ ∀ z ∈ sn0, z ∈ sn
theorem WXF.mono {st : Stmt} {Q Q' : Flow -> St Str -> Prop} (h : WXF g c st S Q) (hQ : ∀ f S', Q f S' -> Q' f S') : WXF g c st S Q' := WMF.mono h fun f S' => hQ (erF f) S'
theorem pick_top {top rest : List (Str × Nat)} : pickL (((top ++ (x, p) :: rest).map (·.1)).reverse.map kv) (some rest.length) none = (x :: (top.map (·.1)).reverse).map kv := by
 have e0 : ((top ++ (x, p) :: rest).map (·.1)).reverse.map kv = (rest.map (·.1)).reverse.map kv ++ (x :: (top.map (·.1)).reverse).map kv := by simp
 have e1 : ((rest.map (·.1)).reverse.map kv).length = rest.length := by simp
 rw [e0]
 unfold pickL clipAt
 simp only [Option.elim]
 rw [if_neg (by (simp))]
 have e2 : (max 0 (min (rest.length : Int) ((((rest.map (·.1)).reverse.map kv ++ (x :: (top.map (·.1)).reverse).map kv).length : Nat) : Int))).toNat = ((rest.map (·.1)).reverse.map kv).length := by
  rw [List.length_append, e1]; exact om04 (Nat.le_add_right _ _)
 rw [e2, List.drop_left, List.take_of_length_le (by rw [List.length_append]; (simp))]
theorem DI.start {ks : List Str} {su : Str -> List Str} : DI ks su [] [] (fun _ => 0) 0 :=
 ⟨List.nodup_nil, (fun _ h => nomatch h), (fun _ h => nomatch h), List.nodup_nil, (fun _ h => nomatch h.1), (fun _ h => nomatch h.1), (fun _ h => nomatch h)⟩
end
section
set_option hygiene false in
set_option hygiene false in
set_option hygiene false in
set_option hygiene false in
local macro_rules | `(tactic| walk_at "l") => `(tactic| first | with_reducible assumption | with_reducible exact m_self | ((with_reducible apply m_other); (focus (decide +kernel)); walk_at "l") | with_reducible exact zt | ((with_reducible apply zO); (focus (decide +kernel)); walk_at "l") | ((with_reducible apply compM_free); (focus kernel_rfl); walk_at "l") | (dsimp only; walk_at "l") | exact m_self | exact zt)
set_option hygiene false in
local macro_rules | `(tactic| walk_at "s") => `(tactic| first | with_reducible assumption | with_reducible exact s_self | ((with_reducible apply s_new); (focus (with_reducible assumption)); walk_at "s") | with_reducible exact zA | ((with_reducible apply upd_new); (focus (with_reducible assumption)); walk_at "s") | (dsimp only; walk_at "s"))
set_option hygiene false in
local macro_rules | `(tactic| walk_at "w") => `(tactic| first
 | ((with_reducible apply z6); (focus (with_reducible assumption)); (focus kernel_rfl); (focus walk_at "l"))
 | (with_reducible first
  | refine WEs_cons (by kernel_rfl) ?_
  | refine WEs_nil ?_
  | refine WE_int ?_
  | refine WE_BuiltS ‹_› ‹_› (by first | exact boot_len | exact boot_range | exact boot_sum | exact boot_min | exact boot_max | exact boot_tuple | exact boot_set | exact boot_iter | exact boot_enumerate | exact boot_list) (by kernel_rfl) (by kernel_rfl) (by decide +kernel) ?_
  | refine WE_GlobS ‹_› ‹_› (by kernel_rfl) (by first | exact gl_S_IFMT | exact gl_filemode_table | exact gl_TopologicalSorter | exact gl_CycleError | exact gl_NodeInfo | exact gl_check_parenthesis | exact gl_strip_quoted_realnames | exact gl_iter_escaped_chars | exact gl_law_row | exact gl_filemode | exact gl_law_spots | exact gl_law_modes | exact gl_law_pieces | exact gl_law_free | exact gl_law_rounds | exact gl_law_chains | exact gl_law_closed | exact gl_law_holds | exact gl__NODE_OUT | exact gl__NODE_DONE) ?_
  | refine WE_Call ?_
  | refine W_CWS ‹_› (by kernel_rfl) (by kernel_rfl) ?_
  | refine WE_bool ?_
  | refine WE_str ?_
  | refine WE_none ?_
  | refine WE_BinOp ?_
  | refine WBin_add ?_
  | refine WBin_sub ?_
  | refine WBin_floordiv (by decide +kernel) (by decide +kernel) ?_
  | refine WBin_mod (by decide +kernel) ?_
  | refine WBin_and ?_
  | (refine z0 ?_; intro Q_)
  | refine WXs_nil ?_
  | refine WIn_add ?_
  | refine WX_If ?_
  | refine WE_UnaryOp ?_
  | refine WUn_neg ?_
  | refine WBin_mul (by first | assumption | (constructor <;> omega)) ?_
  | refine WX_Break ?_
  | refine WX_Continue ?_
  | refine WX_Return ?_
  | refine WE_Sub ?_
  | refine WE_IfExp ?_
  | refine WE_List ?_
  | refine WIfs_nil ?_
  | refine zR rfl ?_
  | refine zS Bool.false_ne_true ?_
  | refine WIfs_one ?_
  | refine WT_chain2 (by kernel_rfl) ?_
  | refine WT_Compare (by kernel_rfl) ?_
  | refine WE_Compare (by kernel_rfl) ?_
  | refine WT_BoolOp ?_
  | refine WAll_and ?_
  | refine WAll_or ?_
  | refine WAll_and_nil ?_
  | refine WAll_or_nil ?_
  | refine WT_Not ?_
  | refine WCmp_eq ?_
  | refine WCmp_ne ?_
  | refine WCmp_lt ?_
  | refine WCmp_ge ?_
  | refine zP ?_
  | refine WE_DictNil ?_
  | refine WE_NamedExpr ?_
  | refine zo ‹_› ‹_› (by kernel_rfl) ?_
  | refine WX_AugAttr ?_
  | refine ze ?_
  | refine WTr_none ?_
  | refine WCmp_isNone ?_
  | refine WCmp_isNotNone ?_
  | refine W_CW0S ‹_› (by kernel_rfl) ?_
  | (refine zp ?_; intro Q_)
  | refine WXsF_nil ?_
  | refine WXF_If ?_
  | refine WXF_ofAssign ?_
  | refine WXF_ofExpr ?_
  | refine WXF_ofReturn ?_
  | refine WXF_ofContinue ?_
  | refine WXF_ofBreak ?_)
 | ((with_reducible apply WX_AugS); (focus (with_reducible assumption)); (focus (with_reducible assumption)); (focus kernel_rfl); (focus kernel_rfl); (focus walk_at "l"))
 | ((with_reducible refine WX_AssignN ?_ (by with_reducible assumption) (by with_reducible assumption) (by kernel_rfl) ?_); (focus exact rfl))
 | ((with_reducible apply WE_pop); (focus exact (fun _ => rfl)))
 | ((with_reducible apply WE_join); (focus exact (fun _ => rfl)); (focus kernel_rfl))
 | ((with_reducible apply W_append); (focus exact (fun _ => rfl)); (focus exact (fun _ => rfl)); (focus kernel_rfl))
 | ((with_reducible refine WE_Attr ?_ ?_); (focus exact (fun _ => rfl)))
 | ((with_reducible refine WX_AssignAttr ?_ ?_); (focus exact (fun _ => rfl)))
 | ((with_reducible refine WX_Assign2 ?_ ?_ ?_); (focus exact (fun _ => rfl)); (focus exact (fun _ => rfl)))
 | ((with_reducible refine WAsg_Sub ?_ ?_); (focus exact (fun _ _ _ e => by cases e)))
 | ((with_reducible refine WX_Expr ?_ ?_); (focus exact (fun _ => rfl)))
 | ((with_reducible apply WE_Meth); (focus exact (fun _ => rfl)))
 | ((with_reducible refine WT_value ?_ ?_); (focus exact (fun _ _ => rfl))))
local macro_rules | `(tactic| w_fin) => `(tactic| repeat walk_at "w")
section
set_option hygiene false in
local macro_rules | `(tactic| walk_at "w") => `(tactic| ((with_reducible refine WX_ForR ?_ ?_); exact (fun _ _ => rfl)))
section
variable {P : Params}
theorem fn_row (hK : g.K = hd.heap_1 P) : FnIs g.K 216 (bodyOf P 216) (fdOf P 216).scope (fdOf P 216) :=
 fnIs ⟨_, _, _, rfl⟩ (by kernel_rfl) rfl rfl rfl rfl hK
theorem so_row : scopeOk (fdOf P 216).scope = true := by kernel_rfl
noncomputable def rowFig (mode : Int) (k : Nat) : Int := (mode.fdiv ([64, 8, 1].getD k 1)).fmod 8
noncomputable def rowEnds (mode : Int) (k : Nat) : Str := if (mode.fdiv ([2048, 1024, 512].getD k 1)).fmod 2 = 1 then (if k = 2 then "Tt" else "Ss") else "-x"
noncomputable def rowPart (mode : Int) (k : Nat) : Str :=
 chr1 (chAt "-r" ((rowFig mode k).fdiv 4)) ++ chr1 (chAt "-w" (((rowFig mode k).fdiv 2).fmod 2)) ++ chr1 (chAt (rowEnds mode k) ((rowFig mode k).fmod 2))
noncomputable def rowUp (mode : Int) : Nat -> Str
 | 0 => chr1 (chAt "?pc?d?b?-?l?s???" (mode.fdiv 4096))
 | k + 1 => rowUp mode k ++ rowPart mode k
theorem rowUp_len (mode : Int) : ∀ k, (rowUp mode k).length = 1 + 3 * k
 | 0 => rfl
 | k + 1 => by
  unfold rowUp
  rw [zM, rowUp_len mode k]
  unfold rowPart
  rw [zM, zM]
  simp only [zh]
  exact Nat.sub_zero _
theorem fmod_lt8 (x : Int) : 0 ≤ x.fmod 8 /\ x.fmod 8 < 8 := ⟨Int.fmod_nonneg_of_pos _ (by decide), Int.fmod_lt_of_pos _ (by decide)⟩
theorem fmod_lt2 (x : Int) : 0 ≤ x.fmod 2 /\ x.fmod 2 < 2 := ⟨Int.fmod_nonneg_of_pos _ (by decide), Int.fmod_lt_of_pos _ (by decide)⟩
theorem W_row (hK : g.K = hd.heap_1 P) (hd : c.Deep 1) {mode : Int} (h0 : 0 ≤ mode) (h1 : mode < 65536) (h : Q (.str (rowUp mode 3) 0) S) : WC g c (.ref 216) [.int mode 0] S Q := by
 refine WC.drop (WC_def (n := 0) hd (fn_row hK) so_row (B := [(ofString "mode", .int mode 0)]) (fun us hu => ?_) (by kernel_rfl) fun c' hs hx hd' => ?_)
 ·(refine zB (z3 hu) ?_; intro u rfl_61 hu'; subst rfl_61)
  exact ⟨[(ofString "mode", u)], by kernel_rfl, by simp [hu']⟩
 refine WXs.le (S' := ⟨setv (fun _ => none) (ofString "mode") (.int mode 0), S.σ⟩) ?_ (Le.refl _)
 show WXs g c' (_ :: _) _ _
 have q4096 : 0 ≤ mode.fdiv 4096 /\ mode.fdiv 4096 < 16 := by rw [Int.fdiv_eq_ediv_of_nonneg _ (by decide)]; lia
 w_fin
 refine zV q4096.1 (by have : ((ofString "?pc?d?b?-?l?s???").length : Int) = 16 := (by decide +kernel); omega) (by decide +kernel) ?_
 w_fin
 refine zw fun r hr => ?_
 let Inv_1 : Nat -> St Str -> Prop := fun k S' => S'.m (ofString "mode") = some (.int mode 0) /\ S'.m (ofString "row") = some (.str (rowUp mode k) 0) /\ (∀ b o, S.σ b = some o -> S'.σ b = some o)
 refine ⟨_, _, _, rfl, zA, by exact om16, by exact om17, by exact om27 _, by exact Int.natCast_nonneg _, Inv_1, ⟨by walk_at "l", by walk_at "l", zC hr⟩, fun k S1 hk q_ => ?_, fun S' q_ => ?_⟩
 ·(refine el_AA q_ ?_; clear q_; intro hm hrow hle)
  refine zo hs hx (by kernel_rfl) ?_
  have h8 := fmod_lt8 (mode.fdiv ([64, 8, 1].getD k 1))
  have len1 : ((ofString "-r").length : Int) = 2 := by decide +kernel
  have len2 : ((ofString "-w").length : Int) = 2 := by decide +kernel
  have len3 : ((rowEnds mode k).length : Int) = 2 := by
   unfold rowEnds
   split
   ·split <;> decide +kernel
   decide +kernel
  have f4 : 0 ≤ (rowFig mode k).fdiv 4 /\ (rowFig mode k).fdiv 4 < 2 := by
   unfold rowFig
   rw [Int.fdiv_eq_ediv_of_nonneg _ (by decide)]; omega
  have f2 := fmod_lt2 ((rowFig mode k).fdiv 2)
  have f1 := fmod_lt2 (rowFig mode k)
  have hk3 : k = 0 ∨ k = 1 ∨ k = 2 := by lia
  rw [Int.zero_add]
  w_fin
  refine ⟨by decide +kernel, fun aa ha1 => ?_⟩
  w_fin
  refine zW (x := .int ([64, 8, 1].getD k 1) 0) (by walk_at "s") (by exact Int.natCast_nonneg _) (by lia) (by rcases hk3 with rfl | rfl | rfl <;> rfl) ?_
  have hp : ([64, 8, 1].getD k 1 : Int) ≠ 0 /\ ([64, 8, 1].getD k 1 : Int).natAbs < 1073741824 := by rcases hk3 with rfl | rfl | rfl <;> decide
  refine WBin_floordiv hp.1 hp.2 ?_
  w_fin
  refine ⟨by decide +kernel, fun ab ha2 => ?_⟩
  w_fin
  refine zW (x := .int ([2048, 1024, 512].getD k 1) 0) (by walk_at "s") (by exact Int.natCast_nonneg _) (by omega) (by rcases hk3 with rfl | rfl | rfl <;> rfl) ?_
  have hp2 : ([2048, 1024, 512].getD k 1 : Int) ≠ 0 /\ ([2048, 1024, 512].getD k 1 : Int).natAbs < 1073741824 := by rcases hk3 with rfl | rfl | rfl <;> decide
  refine WBin_floordiv hp2.1 hp2.2 ?_
  w_fin
  by_cases hst : (mode.fdiv ([2048, 1024, 512].getD k 1)).fmod 2 = 1
  ·first | refine zR (by rw [hst]; rfl) ?_ | rw [if_pos (by rw [hst]; rfl)]
   w_fin
   by_cases hk2 : k = 2
   ·first | refine zR (by rw [hk2]; rfl) ?_ | rw [if_pos (by rw [hk2]; rfl)]
    w_fin
    have he : ofString "Tt" = rowEnds mode k := by unfold rowEnds; rw [if_pos hst, if_pos hk2]
    rw [he]
    w_fin
    refine zV f4.1 (by rw [len1]; exact f4.2) (by decide +kernel) ?_
    w_fin
    refine zV f2.1 (by rw [len2]; exact f2.2) (by decide +kernel) ?_
    refine zi (by simp only [zM, zh]; decide +kernel) ?_
    w_fin
    refine zV f1.1 (by rw [len3]; exact f1.2) (by lia) ?_
    refine zi (by simp only [zM, zh]; decide +kernel) ?_
    refine WIn_adds (by rw [rowUp_len]; rw [sizeLine_eq]; simp only [zM, zh]; lia) ?_
    w_fin
    exact ⟨by walk_at "l", by walk_at "l", fun b o e => by have := hle b o e; walk_at "s"⟩
   first | refine zS (by intro q; exact hk2 (by have := eq_of_beq q; exact Int.natCast_inj.mp ‹_›)) ?_ | rw [if_neg (by intro q; exact hk2 (by have := eq_of_beq q; omega))]
   w_fin
   have he : ofString "Ss" = rowEnds mode k := by unfold rowEnds; rw [if_pos hst, if_neg hk2]
   rw [he]
   w_fin
   refine zV f4.1 (by rw [len1]; exact f4.2) (by decide +kernel) ?_
   w_fin
   refine zV f2.1 (by rw [len2]; exact f2.2) (by decide +kernel) ?_
   refine zi (by simp only [zM, zh]; decide +kernel) ?_
   w_fin
   refine zV f1.1 (by rw [len3]; exact f1.2) (by omega) ?_
   refine zi (by simp only [zM, zh]; decide +kernel) ?_
   refine WIn_adds (by rw [rowUp_len]; rw [sizeLine_eq]; simp only [zM, zh]; lia) ?_
   w_fin
   exact ⟨by walk_at "l", by walk_at "l", fun b o e => by have := hle b o e; walk_at "s"⟩
  first | refine zS (by intro q; exact hst (eq_of_beq q)) ?_ | rw [if_neg (by intro q; exact hst (eq_of_beq q))]
  w_fin
  have he : ofString "-x" = rowEnds mode k := by unfold rowEnds; rw [if_neg hst]
  rw [he]
  w_fin
  refine zV f4.1 (by rw [len1]; exact f4.2) (by decide +kernel) ?_
  w_fin
  refine zV f2.1 (by rw [len2]; exact f2.2) (by decide +kernel) ?_
  refine zi (by simp only [zM, zh]; decide +kernel) ?_
  w_fin
  refine zV f1.1 (by rw [len3]; exact f1.2) (by omega) ?_
  refine zi (by simp only [zM, zh]; decide +kernel) ?_
  refine WIn_adds (by rw [rowUp_len]; rw [sizeLine_eq]; simp only [zM, zh]; omega) ?_
  w_fin
  exact ⟨by walk_at "l", by walk_at "l", fun b o e => by have := hle b o e; walk_at "s"⟩
 refine el_AA q_ ?_; clear q_; intro hm hrow hle
 w_fin
 exact ⟨S, ⟨fun _ _ e => e, hle⟩, h⟩
end
section
variable {P : Params}
theorem fn_ifmt (hK : g.K = hd.heap_1 P) : FnIs g.K 169 (bodyOf P 169) (fdOf P 169).scope (fdOf P 169) :=
 fnIs ⟨_, _, _, rfl⟩ (by kernel_rfl) rfl rfl rfl rfl hK
theorem so_ifmt : scopeOk (fdOf P 169).scope = true := by kernel_rfl
theorem fn_fm (hK : g.K = hd.heap_1 P) : FnIs g.K 209 (bodyOf P 209) (fdOf P 209).scope (fdOf P 209) :=
 fnIs ⟨_, _, _, rfl⟩ (by kernel_rfl) rfl rfl rfl rfl hK
theorem so_fm : scopeOk (fdOf P 209).scope = true := by kernel_rfl
theorem W_ifmt (hK : g.K = hd.heap_1 P) (hd : c.Deep 1) {mode : Int} (h : Q (.int (Builtin.bitAnd mode 61440) 0) S) : WC g c (.ref 169) [.int mode 0] S Q := by
 refine WC_def (n := 0) hd (fn_ifmt hK) so_ifmt (B := [(ofString "mode", .int mode 0)]) (fun us hu => ?_) (by kernel_rfl) fun c' hs hx hd' => ?_
 ·(refine zB (z3 hu) ?_; intro u rfl_63 hu'; subst rfl_63)
  exact ⟨[(ofString "mode", u)], by kernel_rfl, by simp [hu']⟩
 refine WXs.le (S' := ⟨setv (fun _ => none) (ofString "mode") (.int mode 0), S.σ⟩) ?_ (Le.refl _)
 show WXs g c' (_ :: _) _ _
 w_fin
 exact h
noncomputable def fmTab : Nat -> List (Int × Nat)
 | 0 => [(40960, 108), (49152, 115), (32768, 45), (24576, 98), (16384, 100), (8192, 99), (4096, 112)]
 | 1 => [(256, 114)]
 | 2 => [(128, 119)]
 | 3 => [(2112, 115), (2048, 83), (64, 120)]
 | 4 => [(32, 114)]
 | 5 => [(16, 119)]
 | 6 => [(1032, 115), (1024, 83), (8, 120)]
 | 7 => [(4, 114)]
 | 8 => [(2, 119)]
 | 9 => [(513, 116), (512, 84), (1, 120)]
 | _ => []
noncomputable def fmHit (mode : Int) (i : Nat) (p : Int × Nat) : Bool := if i = 0 then Builtin.bitAnd mode 61440 == p.1 else Builtin.bitAnd mode p.1 == p.1
noncomputable def fmChar (mode : Int) (i : Nat) : Nat := match (fmTab i).find? (fmHit mode i) with | some p => p.2 | none => if i = 0 then 63 else 45
noncomputable def fmUp (mode : Int) (i : Nat) : List Str := (List.range i).map fun j => chr1 (fmChar mode j)
noncomputable def fm (mode : Int) : Str := Txt.join (ofString "") (fmUp mode 10)
noncomputable def Pairs2 (g : Gl Str) (S : St Str) (rs : List Value) (tab : List (Int × Nat)) : Prop := rs.length = tab.length /\ ∀ (j : Nat) (p : Int × Nat), tab[j]? = some p -> ∃ r : Addr, rs[j]? = some (Value.ref r) /\ At g S r (.tup [.int p.1 0, .str (chr1 p.2) 0])
theorem Pairs2.nil : Pairs2 g S [] [] := ⟨rfl, fun j p h => by simp at h⟩
theorem Pairs2.cons {r : Addr} {p : Int × Nat} {rs : List Value} {tab : List (Int × Nat)} (h : At g S r (.tup [.int p.1 0, .str (chr1 p.2) 0])) (t : Pairs2 g S rs tab) : Pairs2 g S (.ref r :: rs) (p :: tab) :=
 ⟨by rw [List.length_cons, List.length_cons, t.1], fun j q hq => by
  cases j with
  | zero => simp at hq; subst hq; exact ⟨r, rfl, h⟩
  | succ j => exact t.2 j q (by simpa using hq)⟩
theorem pairK (hK : g.K = hd.heap_1 P) (hG : g.Ok) {r : Addr} {v : Int} {x : Str} {t u : Tok} {n ch : Nat} (h : (Mine.hd.heap_1 P).lookup r = some { cls := .type "tuple", data := .seq #[.int v t, .str x u] n }) (e : x = chr1 ch) : At g S r (.tup [.int v 0, .str (chr1 ch) 0]) := by
 subst e
 exact hG.at hK h
theorem tables (hK : g.K = hd.heap_1 P) (hG : g.Ok) : ∃ ts : List Value, (∀ S, At g S 202 (.tup ts)) /\ ts.length = 10 /\ ∀ i, i < 10 -> ∃ t rs, ts[i]? = some (.ref t) /\ (∀ S, At g S t (.tup rs)) /\ ∀ S, Pairs2 g S rs (fmTab i) := by
 refine ⟨_, fun S => hG.at hK (by rfl), by rfl, fun i hi => ?_⟩
 match i, hi with
 | 0, _ => refine ⟨_, _, rfl, fun S => hG.at hK rfl, fun S => ?_⟩; show Pairs2 g S _ [(40960, 108), (49152, 115), (32768, 45), (24576, 98), (16384, 100), (8192, 99), (4096, 112)]; repeat (first | exact Pairs2.nil | refine Pairs2.cons (pairK hK hG rfl (by decide +kernel)) ?_)
 | 1, _ => refine ⟨_, _, rfl, fun S => hG.at hK rfl, fun S => ?_⟩; show Pairs2 g S _ [(256, 114)]; repeat (first | exact Pairs2.nil | refine Pairs2.cons (pairK hK hG rfl (by decide +kernel)) ?_)
 | 2, _ => refine ⟨_, _, rfl, fun S => hG.at hK rfl, fun S => ?_⟩; show Pairs2 g S _ [(128, 119)]; repeat (first | exact Pairs2.nil | refine Pairs2.cons (pairK hK hG rfl (by decide +kernel)) ?_)
 | 3, _ => refine ⟨_, _, rfl, fun S => hG.at hK rfl, fun S => ?_⟩; show Pairs2 g S _ [(2112, 115), (2048, 83), (64, 120)]; repeat (first | exact Pairs2.nil | refine Pairs2.cons (pairK hK hG rfl (by decide +kernel)) ?_)
 | 4, _ => refine ⟨_, _, rfl, fun S => hG.at hK rfl, fun S => ?_⟩; show Pairs2 g S _ [(32, 114)]; repeat (first | exact Pairs2.nil | refine Pairs2.cons (pairK hK hG rfl (by decide +kernel)) ?_)
 | 5, _ => refine ⟨_, _, rfl, fun S => hG.at hK rfl, fun S => ?_⟩; show Pairs2 g S _ [(16, 119)]; repeat (first | exact Pairs2.nil | refine Pairs2.cons (pairK hK hG rfl (by decide +kernel)) ?_)
 | 6, _ => refine ⟨_, _, rfl, fun S => hG.at hK rfl, fun S => ?_⟩; show Pairs2 g S _ [(1032, 115), (1024, 83), (8, 120)]; repeat (first | exact Pairs2.nil | refine Pairs2.cons (pairK hK hG rfl (by decide +kernel)) ?_)
 | 7, _ => refine ⟨_, _, rfl, fun S => hG.at hK rfl, fun S => ?_⟩; show Pairs2 g S _ [(4, 114)]; repeat (first | exact Pairs2.nil | refine Pairs2.cons (pairK hK hG rfl (by decide +kernel)) ?_)
 | 8, _ => refine ⟨_, _, rfl, fun S => hG.at hK rfl, fun S => ?_⟩; show Pairs2 g S _ [(2, 119)]; repeat (first | exact Pairs2.nil | refine Pairs2.cons (pairK hK hG rfl (by decide +kernel)) ?_)
 | 9, _ => refine ⟨_, _, rfl, fun S => hG.at hK rfl, fun S => ?_⟩; show Pairs2 g S _ [(513, 116), (512, 84), (1, 120)]; repeat (first | exact Pairs2.nil | refine Pairs2.cons (pairK hK hG rfl (by decide +kernel)) ?_)
noncomputable def sL (ss : List Str) : List Value := ss.map fun x => .str x 0
theorem sL_are : ∀ ss : List Str, AreStr (sL ss) ss
 | [] => .nil
 | x :: ss => .cons x (sL_are ss)
theorem find_first {α : Type} {p : α -> Bool} : ∀ {l : List α} {j : Nat} {x : α}, l[j]? = some x -> p x = true -> (∀ j' y, j' < j -> l[j']? = some y -> p y = false) -> l.find? p = some x
 | [], j, x, h, _, _ => by simp at h
 | y :: l, 0, x, h, hp, _ => by simp at h; subst h; simp [hp]
 | y :: l, j + 1, x, h, hp, hn => by
  rw [List.find?_cons, hn 0 y (by exact Nat.le_add_left _ _) rfl]
  exact find_first (l := l) (j := j) (by simpa using h) hp fun j' z q e => hn (j' + 1) z (by exact Nat.lt_succ_of_le ‹_›) (by simpa using e)
theorem find_no {α : Type} {p : α -> Bool} {l : List α} (h : ∀ (j : Nat) (y : α), l[j]? = some y -> p y = false) : l.find? p = none := by
 rw [List.find?_eq_none]
 intro x hx
 refine zI (List.getElem?_of_mem hx) ?_; intro j hj
 rw [h j x hj]; simp
theorem fmUp_succ (mode : Int) (i : Nat) : sL (fmUp mode (i + 1)) = sL (fmUp mode i) ++ [.str (chr1 (fmChar mode i)) 0] := by
 unfold sL fmUp
 rw [List.range_succ, List.map_append, List.map_append]
 rfl
theorem fmUp_len (mode : Int) (i : Nat) : (sL (fmUp mode i)).length = i := by unfold sL fmUp; simp
theorem W_fm (hK : g.K = hd.heap_1 P) (hG : g.Ok) (hd : c.Deep 2) {mode : Int} (h : Q (.str (fm mode) 0) S) : WC g c (.ref 209) [.int mode 0] S Q := by
 refine zJ (tables hK hG) ?_; intro ts hts htl hti
 refine WC.drop (WC_def (n := 1) hd (fn_fm hK) so_fm (B := [(ofString "mode", .int mode 0)]) (fun us hu => ?_) (by kernel_rfl) fun c' hs hx hd' => ?_)
 ·(refine zB (z3 hu) ?_; intro u rfl_62 hu'; subst rfl_62)
  exact ⟨[(ofString "mode", u)], by kernel_rfl, by simp [hu']⟩
 refine WXs.le (S' := ⟨setv (fun _ => none) (ofString "mode") (.int mode 0), S.σ⟩) ?_ (Le.refl _)
 show WXs g c' (_ :: _) _ _
 w_fin
 refine ⟨by decide +kernel, fun p hp => ?_⟩
 w_fin
 refine WX.le (S' := ⟨setv (setv (fun _ => none) (ofString "mode") (.int mode 0)) (ofString "perm") (.ref p), upd S.σ p (.list [])⟩) ?_ (Le.refl _)
 refine WX_ForEnum hs hx (by kernel_rfl) (by kernel_rfl) (fun _ _ => rfl) ?_
 w_fin
 have up : ∀ {σ : Addr -> Option (AO Str)} {o : AO Str}, (∀ b o', S.σ b = some o' -> σ b = some o') -> ∀ b o', S.σ b = some o' -> upd σ p o b = some o' := fun hle b o' e => upd_other (by rintro rfl; rw [show S.σ b = none from hp] at e; exact Mine.ns e) (hle b o' e)
 refine WC_enumT (hts _) fun e it he hit hne => ?_
 let Inv_1 : Nat -> St Str -> Prop := fun i S' => S'.m (ofString "mode") = some (.int mode 0) /\ S'.m (ofString "perm") = some (.ref p) /\ S'.σ p = some (.list (sL (fmUp mode i))) /\ (∀ b o, S.σ b = some o -> S'.σ b = some o)
 refine ⟨e, it, 202, ts, ⟨setv (setv (fun _ => none) (ofString "mode") (.int mode 0)) (ofString "perm") (.ref p), upd S.σ p (.list [])⟩, rfl, hne, s_self, (if_neg (Ne.symm hne)).trans (if_pos rfl), ⟨fun _ _ q => q, ?_⟩, he, hit, Inv_1, ⟨by walk_at "l", by walk_at "l", zA, up fun _ _ e => e⟩, fun i S2 hI => hts S2, fun i S2 hi q_ => ?_, fun S' q_ => ?_⟩
 ·exact fun b o q => zC ((if_neg hne).trans he) b o (zC hit b o q)
 ·(refine el_AAA q_ ?_; clear q_; intro hm hperm hl hle)
  refine zD (hti i (by lia)) ?_; intro t rs et htt hpr
  have ht : ts.getD i .none = .ref t := by rw [List.getD_eq_getElem?_getD, et]; rfl
  show WXs g c' _ ⟨setv (setv S2.m (ofString "index") (.int i 0)) (ofString "table") (ts.getD i .none), S2.σ⟩ _
  rw [ht]
  refine z0 ?_
  intro Q_
  refine WX_For (fun _ _ => rfl) ?_
  w_fin
  refine zL (hpr S) ?_; intro hrl hpr
  let Inv_2 : Nat -> St Str -> Prop := fun j S' => S'.m (ofString "mode") = some (.int mode 0) /\ S'.m (ofString "perm") = some (.ref p) /\ S'.m (ofString "index") = some (.int i 0) /\ S'.σ p = some (.list (sL (fmUp mode i))) /\ (∀ b o, S.σ b = some o -> S'.σ b = some o) /\ ∀ j' q, j' < j -> (fmTab i)[j']? = some q -> fmHit mode i q = false
  refine ⟨rs, _, iter_tupAt (htt _), Inv_2,
   ⟨by walk_at "l", by walk_at "l", by walk_at "l", hl, hle, fun j' q h => by exact (Nat.not_lt_zero _ ‹_›).elim⟩, fun _ S' _ => htt S', fun j y S3 hy q_ => ?_, fun S' q_ => ?_⟩
  ·(refine zx q_ ?_; clear q_; intro hm hperm hidx hl hle hno)
   have hj : j < (fmTab i).length := by rw [← hrl]; exact (List.getElem?_eq_some_iff.mp hy).1
   refine zB (hpr j (fmTab i)[j] (List.getElem?_eq_getElem hj)) ?_; intro r e1 hr
   rw [e1] at hy
   (replace hy := Option.some.inj hy; subst hy)
   have hr : At g S3 r (.tup [.int ((fmTab i)[j]).1 0, .str (chr1 ((fmTab i)[j]).2) 0]) := hr.le hle
   refine WAsg_tup2 hr (zo hs hx (by kernel_rfl) (zo hs hx (by kernel_rfl) ?_))
   have find : fmHit mode i (fmTab i)[j] = true -> fmChar mode i = ((fmTab i)[j]).2 := fun hh => by
    unfold fmChar
    rw [find_first (List.getElem?_eq_getElem hj) hh hno]
   have hz : (sL (fmUp mode i)).length ≤ sizeLine := by rw [fmUp_len, sizeLine_eq]; lia
   have next : fmHit mode i (fmTab i)[j] = false -> ∀ j' q, j' < j + 1 -> (fmTab i)[j']? = some q -> fmHit mode i q = false := fun hh j' q h1 h2 => by
    by_cases q1 : j' = j
    ·subst q1
     rw [List.getElem?_eq_getElem hj] at h2
     (replace h2 := Option.some.inj h2; subst h2); exact hh
    exact hno j' q (by exact om11 ‹_› ‹_›) h2
   w_fin
   by_cases hi0 : i = 0
   ·first | refine zR (by rw [hi0]; rfl) ?_ | rw [if_pos (by rw [hi0]; rfl)]
    w_fin
    refine W_ifmt hK (hd'.less (by exact Nat.le_refl _)) ?_
    w_fin
    by_cases hh : Builtin.bitAnd mode 61440 = ((fmTab i)[j]).1
    ·first | refine zR (by rw [hh]; exact beq_self_eq_true _) ?_ | rw [if_pos (by rw [hh]; exact beq_self_eq_true _)]
     have hf := find (by unfold fmHit; rw [if_pos hi0, hh]; exact beq_self_eq_true _)
     w_fin
     refine ⟨p, _, rfl, hl, ?_⟩
     w_fin
     refine ⟨_, hl, hz, ?_⟩
     w_fin
     rw [← hf, ← fmUp_succ]
     exact ⟨by walk_at "l", by walk_at "l", s_self, up hle⟩
    first | refine zS (by intro q; exact hh (eq_of_beq q)) ?_ | rw [if_neg (by intro q; exact hh (eq_of_beq q))]
    w_fin
    exact ⟨by walk_at "l", by walk_at "l", by walk_at "l", hl, hle, next (by unfold fmHit; rw [if_pos hi0]; exact beq_eq_false_iff_ne.mpr hh)⟩
   first | refine zS (by intro q; have := eq_of_beq q; lia) ?_ | rw [if_neg (by intro q; have := eq_of_beq q; omega)]
   w_fin
   by_cases hh : Builtin.bitAnd mode ((fmTab i)[j]).1 = ((fmTab i)[j]).1
   ·first | refine zR (by rw [hh]; exact beq_self_eq_true _) ?_ | rw [if_pos (by rw [hh]; exact beq_self_eq_true _)]
    have hf := find (by unfold fmHit; rw [if_neg hi0, hh]; exact beq_self_eq_true _)
    w_fin
    refine ⟨p, _, rfl, hl, ?_⟩
    w_fin
    refine ⟨_, hl, hz, ?_⟩
    w_fin
    rw [← hf, ← fmUp_succ]
    exact ⟨by walk_at "l", by walk_at "l", s_self, up hle⟩
   first | refine zS (by intro q; exact hh (eq_of_beq q)) ?_ | rw [if_neg (by intro q; exact hh (eq_of_beq q))]
   w_fin
   exact ⟨by walk_at "l", by walk_at "l", by walk_at "l", hl, hle, next (by unfold fmHit; rw [if_neg hi0]; exact beq_eq_false_iff_ne.mpr hh)⟩
  refine zx q_ ?_; clear q_; intro hm hperm hidx hl hle hno
  have hnone : (fmTab i).find? (fmHit mode i) = none := find_no fun j y e => hno j y (by rw [hrl]; exact (List.getElem?_eq_some_iff.mp e).1) e
  have hz : (sL (fmUp mode i)).length ≤ sizeLine := by rw [fmUp_len, sizeLine_eq]; lia
  w_fin
  by_cases hi0 : i = 0
  ·first | refine zR (by rw [hi0]; rfl) ?_ | rw [if_pos (by rw [hi0]; rfl)]
   have hf : ofString "?" = chr1 (fmChar mode i) := by unfold fmChar; rw [hnone]; dsimp only; rw [if_pos hi0]; decide +kernel
   w_fin
   refine ⟨p, _, rfl, hl, ?_⟩
   w_fin
   refine ⟨_, hl, hz, ?_⟩
   w_fin
   rw [hf, ← fmUp_succ]
   exact ⟨by walk_at "l", by walk_at "l", s_self, up hle⟩
  first | refine zS (by intro q; have := eq_of_beq q; lia) ?_ | rw [if_neg (by intro q; have := eq_of_beq q; omega)]
  have hf : ofString "-" = chr1 (fmChar mode i) := by unfold fmChar; rw [hnone]; dsimp only; rw [if_neg hi0]; decide +kernel
  w_fin
  refine ⟨p, _, rfl, hl, ?_⟩
  w_fin
  refine ⟨_, hl, hz, ?_⟩
  w_fin
  rw [hf, ← fmUp_succ]
  exact ⟨by walk_at "l", by walk_at "l", s_self, up hle⟩
 refine el_AAA q_ ?_; clear q_; intro hm hperm hl hle
 rw [htl] at hl
 w_fin
 refine ⟨_, rfl, ?_⟩
 w_fin
 refine ⟨p, _, _, rfl, hl, sL_are _, ?_, ?_⟩
 ·have : ((fmUp mode 10).map (·.length)).sum + (fmUp mode 10).length * (ofString "").length = 10 := by
   unfold fmUp
   rw [List.map_map]
   rfl
  rw [this]; decide
 w_fin
 exact ⟨S, ⟨fun _ _ e => e, hle⟩, h⟩
end
section
variable {P : Params}
theorem ownA (hK : g.K = hd.heap_1 P) {x : Str} (h : ownAttr (Mine.hd.heap_1 P) 158 x = true) : ownAttr g.K 158 x = true := by rw [hK]; exact h
section
variable {kv : Str -> Value} {A : SA Str} {G : SG Str} {fr : Addr -> Option (AO Str)} {k : Str}
theorem G_n2i (hK : g.K = hd.heap_1 P) (s : SrtF 158 61 kv A G a fr S.σ) (h : Q (.ref A.D) S) : WGet g c (.ref a) (ofString "_node2info") S Q :=
 let ⟨_, h1, h2⟩ := s.s.ns
 WGet_own (ownA hK (by kernel_rfl)) s.s.inst h1 h2.n2i rfl h
theorem G_rdy (hK : g.K = hd.heap_1 P) (s : SrtF 158 61 kv A G a fr S.σ) (h : Q (rdyV A G) S) : WGet g c (.ref a) (ofString "_ready_nodes") S Q :=
 let ⟨_, h1, h2⟩ := s.s.ns
 WGet_own (ownA hK (by kernel_rfl)) s.s.inst h1 h2.rdy (by unfold rdyV; cases G.ready <;> rfl) h
theorem G_po (hK : g.K = hd.heap_1 P) (s : SrtF 158 61 kv A G a fr S.σ) (h : Q (.int G.po 0) S) : WGet g c (.ref a) (ofString "_npassedout") S Q :=
 let ⟨_, h1, h2⟩ := s.s.ns
 WGet_own (ownA hK (by kernel_rfl)) s.s.inst h1 h2.po rfl h
theorem G_nf (hK : g.K = hd.heap_1 P) (s : SrtF 158 61 kv A G a fr S.σ) (h : Q (.int G.nf 0) S) : WGet g c (.ref a) (ofString "_nfinished") S Q :=
 let ⟨_, h1, h2⟩ := s.s.ns
 WGet_own (ownA hK (by kernel_rfl)) s.s.inst h1 h2.nf rfl h
theorem fn_of (hK : g.K = hd.heap_1 P) {x : Str} {f : Addr} (h1 : plainGet (Mine.hd.heap_1 P) 158 x = true) (h2 : findIn (Mine.hd.heap_1 P) (.ref 158) x = some (some (.ref f))) (h3 : isFn (Mine.hd.heap_1 P) (.ref f) = true)
  (s : SrtF 158 61 kv A G a fr S.σ) (hx : x ≠ n_n2i /\ x ≠ n_rdy /\ x ≠ n_po /\ x ≠ n_nf) {Q : Value -> List Value -> St Str -> Prop} (h : Q (.ref f) [.ref a] S) : WGM g c (.ref a) x S Q :=
 let ⟨_, k1, k2⟩ := s.s.ns
 WGM_inst (by rw [hK]; exact h1) (by rw [hK]; exact h2) (by rw [hK]; exact h3) s.s.inst k1 (k2.out x hx.1 hx.2.1 hx.2.2.1 hx.2.2.2) h
theorem M_get_nodeinfo (hK : g.K = hd.heap_1 P) (s : SrtF 158 61 kv A G a fr S.σ) {Q : Value -> List Value -> St Str -> Prop} (h : Q (.ref 101) [.ref a] S) : WGM g c (.ref a) (ofString "_get_nodeinfo") S Q :=
 fn_of hK (by kernel_rfl) (by kernel_rfl) (by kernel_rfl) s (by unfold n_n2i n_rdy n_po n_nf; decide +kernel) h
theorem M_add (hK : g.K = hd.heap_1 P) (s : SrtF 158 61 kv A G a fr S.σ) {Q : Value -> List Value -> St Str -> Prop} (h : Q (.ref 108) [.ref a] S) : WGM g c (.ref a) (ofString "add") S Q :=
 fn_of hK (by kernel_rfl) (by kernel_rfl) (by kernel_rfl) s (by unfold n_n2i n_rdy n_po n_nf; decide +kernel) h
theorem M_prepare (hK : g.K = hd.heap_1 P) (s : SrtF 158 61 kv A G a fr S.σ) {Q : Value -> List Value -> St Str -> Prop} (h : Q (.ref 113) [.ref a] S) : WGM g c (.ref a) (ofString "prepare") S Q :=
 fn_of hK (by kernel_rfl) (by kernel_rfl) (by kernel_rfl) s (by unfold n_n2i n_rdy n_po n_nf; decide +kernel) h
theorem M_get_ready (hK : g.K = hd.heap_1 P) (s : SrtF 158 61 kv A G a fr S.σ) {Q : Value -> List Value -> St Str -> Prop} (h : Q (.ref 120) [.ref a] S) : WGM g c (.ref a) (ofString "get_ready") S Q :=
 fn_of hK (by kernel_rfl) (by kernel_rfl) (by kernel_rfl) s (by unfold n_n2i n_rdy n_po n_nf; decide +kernel) h
theorem M_is_active (hK : g.K = hd.heap_1 P) (s : SrtF 158 61 kv A G a fr S.σ) {Q : Value -> List Value -> St Str -> Prop} (h : Q (.ref 127) [.ref a] S) : WGM g c (.ref a) (ofString "is_active") S Q :=
 fn_of hK (by kernel_rfl) (by kernel_rfl) (by kernel_rfl) s (by unfold n_n2i n_rdy n_po n_nf; decide +kernel) h
theorem M_done (hK : g.K = hd.heap_1 P) (s : SrtF 158 61 kv A G a fr S.σ) {Q : Value -> List Value -> St Str -> Prop} (h : Q (.ref 141) [.ref a] S) : WGM g c (.ref a) (ofString "done") S Q :=
 fn_of hK (by kernel_rfl) (by kernel_rfl) (by kernel_rfl) s (by unfold n_n2i n_rdy n_po n_nf; decide +kernel) h
theorem M_find_cycle (hK : g.K = hd.heap_1 P) (s : SrtF 158 61 kv A G a fr S.σ) {Q : Value -> List Value -> St Str -> Prop} (h : Q (.ref 148) [.ref a] S) : WGM g c (.ref a) (ofString "_find_cycle") S Q :=
 fn_of hK (by kernel_rfl) (by kernel_rfl) (by kernel_rfl) s (by unfold n_n2i n_rdy n_po n_nf; decide +kernel) h
theorem fn_niInit (hK : g.K = hd.heap_1 P) : FnIs g.K 57 (bodyOf P 57) (fdOf P 57).scope (fdOf P 57) :=
 fnIs ⟨_, _, _, rfl⟩ (by kernel_rfl) rfl rfl rfl rfl hK
theorem so_niInit : scopeOk (fdOf P 57).scope = true := by kernel_rfl
theorem slotA (hK : g.K = hd.heap_1 P) {x : Str} {i : Nat} (h : slotAttr (Mine.hd.heap_1 P) 61 x i = true) : slotAttr g.K 61 x i = true := by rw [hK]; exact h
theorem W_niInit (hK : g.K = hd.heap_1 P) (hd : c.Deep 1) {x dx : Addr} {v : Value} (hv : handedIn v = true) (hx : S.σ x = some (.slots 61 dx [])) (hdx : S.σ dx = some (.ns (fun _ => none) 0))
  (h : ∀ y, S.σ y = none -> Q .none ⟨S.m, upd (upd S.σ y (.list [])) x (.slots 61 dx [some v, some (.int 0 0), some (.ref y)])⟩) : WD g c (.ref 57) [.ref x, v] S Q := by
 refine WD.drop (WD_def (n := 0) hd (fn_niInit hK) so_niInit (B := [(ofString "self", .ref x), (ofString "node", v)]) (fun us hu => ?_) (by kernel_rfl) fun c' hs hx' hd' => ?_)
 ·(refine zD (map2 hu) ?_; intro u u' rfl_9 hu1 hu2; subst rfl_9)
  exact ⟨[(ofString "self", u), (ofString "node", u')], by kernel_rfl, by simp [hu1, hu2]⟩
 refine WXs.le (S' := ⟨setv (setv (fun _ => none) (ofString "self") (.ref x)) (ofString "node") v, S.σ⟩) ?_ (Le.refl _)
 show WXs g c' (_ :: _) _ _
 have hne : dx ≠ x := zF hdx hx (fun e => by exact (nomatch e))
 w_fin
 refine WSet_slot (slotA hK (i := 0) (by kernel_rfl)) hx hdx (by decide) ?_
 w_fin
 refine WSet_slot (slotA hK (i := 1) (by kernel_rfl)) zA ((if_neg hne).trans hdx) (by decide) ?_
 w_fin
 refine ⟨by decide +kernel, fun y hy => ?_⟩
 w_fin
 have hyx : x ≠ y := fun e => by
  have hy : upd (upd S.σ x _) x _ y = none := hy
  rw [← e, zA] at hy; exact Mine.sn hy
 have hyS : S.σ y = none := by
  have hy : upd (upd S.σ x _) x _ y = none := hy
  unfold upd at hy
  rw [if_neg (Ne.symm hyx), if_neg (Ne.symm hyx)] at hy
  exact hy
 have hdy : dx ≠ y := fun e => by rw [← e, hdx] at hyS; exact Mine.sn hyS
 refine WSet_slot (slotA hK (i := 2) (by kernel_rfl)) ((if_neg hyx).trans zA) ((if_neg hdy).trans ((if_neg hne).trans ((if_neg hne).trans hdx))) (by decide) ?_
 w_fin
 refine ⟨⟨S.m, upd (upd S.σ y (.list [])) x (.slots 61 dx [some v, some (.int 0 0), some (.ref y)])⟩, ⟨fun _ _ e => e, fun b o e => ?_⟩, h y hyS⟩
 have e : upd (upd S.σ y (.list [])) x _ b = some o := e
 show upd (upd (upd (upd S.σ x _) x _) y _) x _ b = some o
 unfold upd at e ⊢
 by_cases q : b = x
 ·rw [if_pos q] at e ⊢; exact e
 rw [if_neg q] at e ⊢
 by_cases q2 : b = y
 ·rw [if_pos q2] at e ⊢; exact e
 rw [if_neg q2] at e ⊢; rw [if_neg q, if_neg q]; exact e
end
end
section
variable {P : Params}
section
variable {kv : Str -> Value} {A : SA Str} {G : SG Str} {fr : Addr -> Option (AO Str)} {k : Str}
theorem fn_tsInit (hK : g.K = hd.heap_1 P) : FnIs g.K 94 (bodyOf P 94) (fdOf P 94).scope (fdOf P 94) :=
 fnIs ⟨_, _, _, rfl⟩ (by kernel_rfl) rfl rfl rfl rfl hK
theorem so_tsInit : scopeOk (fdOf P 94).scope = true := by kernel_rfl
noncomputable def SG.nil : SG Str := ⟨[], fun _ => 0, fun _ => [], none, 0, 0⟩
theorem setsA (hK : g.K = hd.heap_1 P) {x : Str} (h : setsAttr (Mine.hd.heap_1 P) 158 x = true) : setsAttr g.K 158 x = true := by rw [hK]; exact h
theorem W_new (hK : g.K = hd.heap_1 P) (hd : c.Deep 2) (kv : Str -> Value) (h : ∀ A a σ', (∀ b o, S.σ b = some o -> σ' b = some o) -> SrtF 158 61 kv A SG.nil a S.σ σ' -> Q (.ref a) ⟨S.m, σ'⟩) : WC g c (.ref 158) [] S Q := by
 refine WC_new (n := 1) hd (fI := 94) (by rw [hK]; kernel_rfl) (by rw [hK]; kernel_rfl) (by rw [hK]; kernel_rfl) (fun d => .inst 158 d) (fun _ => .inl rfl) fun x dx hx hdx hne c₁ ec ed hda => ?_
 refine WD_defP (n := 0) hda (fn_tsInit hK) so_tsInit (B := [(ofString "self", .ref x), (ofString "graph", .none)]) (fun us hu => ?_) (by kernel_rfl) fun c' hs hx' hd' => ?_
 ·(refine zB (z3 hu) ?_; intro u rfl_10 hu1; subst rfl_10)
  exact ⟨[(ofString "self", u), (ofString "graph", .none)], by rw [hK]; kernel_rfl, by simp [hu1]; rfl⟩
 refine WXs.le (S' := ⟨setv (setv (fun _ => none) (ofString "self") (.ref x)) (ofString "graph") .none, upd (upd S.σ dx (.ns (fun _ => none) 0)) x (.inst 158 dx)⟩) ?_ (Le.refl _)
 show WXs g c' (_ :: _) _ _
 have hdx1 : upd (upd S.σ dx (.ns (fun _ => none) 0)) x (.inst 158 dx) dx = some (.ns (fun _ => none) 0) := (if_neg (Ne.symm hne)).trans zA
 w_fin
 intro D hD lo
 have hDx : x ≠ D := fun e => by
  have hD : upd (upd S.σ dx _) x _ D = none := hD
  rw [← e, zA] at hD; exact Mine.sn hD
 have hDdx : dx ≠ D := fun e => by
  have hD : upd (upd S.σ dx _) x _ D = none := hD
  rw [← e] at hD
  rw [hdx1] at hD; exact Mine.sn hD
 have hDS : S.σ D = none := by
  have hD : upd (upd S.σ dx _) x _ D = none := hD
  unfold upd at hD
  rwa [if_neg (Ne.symm hDx), if_neg (Ne.symm hDdx)] at hD
 w_fin
 refine WSet_own (k' := 1) (setsA hK (by kernel_rfl)) ((if_neg hDx).trans zA) ((if_neg hDdx).trans hdx1) (by decide) (.inl rfl) ?_
 w_fin
 refine WSet_own (k' := 2) (setsA hK (by kernel_rfl)) ((if_neg hne).trans ((if_neg hDx).trans zA)) zA (by decide) (.inl rfl) ?_
 w_fin
 refine WSet_own (k' := 3) (setsA hK (by kernel_rfl)) ((if_neg hne).trans ((if_neg hne).trans ((if_neg hDx).trans zA))) zA (by decide) (.inl rfl) ?_
 w_fin
 refine WSet_own (k' := 4) (setsA hK (by kernel_rfl)) ((if_neg hne).trans ((if_neg hne).trans ((if_neg hne).trans ((if_neg hDx).trans zA)))) zA (by decide) (.inl rfl) ?_
 w_fin
 rw [show (!(Value.none == Value.none)) = false from rfl]
 w_fin
 refine ⟨rfl, h ⟨dx, D, fun _ => 0, fun _ => 0, fun _ => 0, 0⟩ x _ (fun b o e => ?_) ⟨⟨?_, ⟨_, zA, ?_⟩, ⟨0, ?_⟩, lo, (fun _ h => nomatch h), (fun _ h => nomatch h), (fun _ h => nomatch h), List.nodup_nil, (fun _ h => nomatch h), (fun _ h => nomatch h), (fun _ h => nomatch h), (fun _ h => nomatch h)⟩, fun b o e => ?_, fun b o e ho => ?_⟩⟩
 ·have n1 : b ≠ dx := by rintro rfl; rw [hdx] at e; exact Mine.ns e
  have n2 : b ≠ x := by rintro rfl; rw [hx] at e; exact Mine.ns e
  have n3 : b ≠ D := by rintro rfl; rw [hDS] at e; exact Mine.ns e
  exact (if_neg n1).trans ((if_neg n1).trans ((if_neg n1).trans ((if_neg n1).trans ((if_neg n3).trans ((if_neg n2).trans ((if_neg n1).trans e))))))
 ·exact (if_neg hne).trans ((if_neg hne).trans ((if_neg hne).trans ((if_neg hne).trans ((if_neg hDx).trans zA))))
 ·exact NsIs.four rfl rfl rfl
 ·have n1 : D ≠ dx := Ne.symm hDdx
  exact (if_neg n1).trans ((if_neg n1).trans ((if_neg n1).trans ((if_neg n1).trans zA)))
 ·have n1 : b ≠ dx := by rintro rfl; rw [hdx] at e; exact Mine.ns e
  have n2 : b ≠ x := by rintro rfl; rw [hx] at e; exact Mine.ns e
  have n3 : b ≠ D := by rintro rfl; rw [hDS] at e; exact Mine.ns e
  exact (if_neg n1).trans ((if_neg n1).trans ((if_neg n1).trans ((if_neg n1).trans ((if_neg n3).trans ((if_neg n2).trans ((if_neg n1).trans e))))))
 rcases ho with rfl | rfl | rfl | ⟨k, hk, _⟩ | ⟨hr, _⟩
 ·rw [hx] at e; exact Mine.ns e
 ·rw [hdx] at e; exact Mine.ns e
 ·rw [hDS] at e; exact Mine.ns e
 ·cases hk
 exact Mine.ft hr
end
end
section
variable {P : Params}
section
variable {kv : Str -> Value} {A : SA Str} {G : SG Str} {fr : Addr -> Option (AO Str)} {k : Str}
theorem fn_getinfo (hK : g.K = hd.heap_1 P) : FnIs g.K 101 (bodyOf P 101) (fdOf P 101).scope (fdOf P 101) :=
 fnIs ⟨_, _, _, rfl⟩ (by kernel_rfl) rfl rfl rfl rfl hK
theorem so_getinfo : scopeOk (fdOf P 101).scope = true := by kernel_rfl
theorem W_getinfo (hK : g.K = hd.heap_1 P) (hd : c.Deep 3) (K : KeyOk g kv) (s : SrtF 158 61 kv A G a fr S.σ) (hz : G.ks.length ≤ 1000)
  (h : ∀ A' σ', SrtF 158 61 kv A' (G.addNode k) a fr σ' -> Q (.ref (A'.info k)) ⟨S.m, σ'⟩) : WC g c (.ref 101) [.ref a, kv k] S Q := by
 refine WC.drop (WC_of (WD_def (n := 2) hd (fn_getinfo hK) so_getinfo (B := [(ofString "self", .ref a), (ofString "node", kv k)]) (fun us hu => ?_) (by kernel_rfl) fun c' hs hx hd' => ?_))
 ·(refine zD (map2 hu) ?_; intro u u' rfl_11 hu1 hu2; subst rfl_11)
  exact ⟨[(ofString "self", u), (ofString "node", u')], by kernel_rfl, by simp [hu1, hu2]⟩
 refine WXs.le (S' := ⟨setv (setv (fun _ => none) (ofString "self") (.ref a)) (ofString "node") (kv k), S.σ⟩) ?_ (Le.refl _)
 show WXs g c' (_ :: _) _ _
 refine zI s.s.dict ?_; intro ep hD
 w_fin
 refine G_n2i hK s ?_
 refine WGM_dict (kvs := _) PySem.F.slot_dict_get PySem.F.type_dict_get (by walk_at "s") ?_
 w_fin
 refine WC_dictGet K (kvs := _) (by walk_at "s") s.s.lo ?_
 rw [zr]
 by_cases hk : k ∈ G.ks
 ·first | refine zR hk ?_ | rw [if_pos hk]
  dsimp only [Option.getD]
  w_fin
  rw [show (Value.ref (A.info k) == Value.none) = false from rfl]
  w_fin
  refine ⟨S, ⟨fun _ _ e => e, fun b o e => e⟩, h A S.σ ?_⟩
  unfold SG.addNode
  first | refine zR hk ?_ | rw [if_pos hk]
  exact s
 first | refine zS hk ?_ | rw [if_neg hk]
 dsimp only [Option.getD]
 w_fin
 refine WC_new (n := 1) (hd'.less (by decide)) (fI := 57) (by rw [hK]; kernel_rfl) (by rw [hK]; kernel_rfl) (by rw [hK]; kernel_rfl) (fun d => .slots 61 d []) (fun _ => .inr rfl) fun x dx hx0 hdx0 hne c₁ ec ed hda => ?_
 have hxS : S.σ x = none := hx0
 have hdxS : S.σ dx = none := hdx0
 refine W_niInit hK (hda.less (by decide)) (K.hand k) zA ((if_neg (Ne.symm hne)).trans zA) fun y hy => ⟨rfl, ?_⟩
 have hyx : y ≠ x := fun e => by
  have hy : upd (upd S.σ dx _) x _ y = none := hy
  rw [e, zA] at hy; exact Mine.sn hy
 have hydx : y ≠ dx := fun e => by
  have hy : upd (upd S.σ dx _) x _ y = none := hy
  rw [e] at hy
  rw [show upd (upd S.σ dx (.ns (fun _ => none) 0)) x (.slots 61 dx []) dx = _ from (if_neg (Ne.symm hne)).trans zA] at hy; exact Mine.sn hy
 have hyS : S.σ y = none := by
  have hy : upd (upd S.σ dx _) x _ y = none := hy
  unfold upd at hy
  rwa [if_neg hyx, if_neg hydx] at hy
 have keep : ∀ b o, S.σ b = some o -> upd (upd (upd (upd S.σ dx (.ns (fun _ => none) 0)) x (.slots 61 dx [])) y (.list [])) x (.slots 61 dx [some (kv k), some (.int 0 0), some (.ref y)]) b = some o := fun b o e => by
  have n1 : b ≠ dx := by rintro rfl; rw [hdxS] at e; exact Mine.ns e
  have n2 : b ≠ x := by rintro rfl; rw [hxS] at e; exact Mine.ns e
  have n3 : b ≠ y := by rintro rfl; rw [hyS] at e; exact Mine.ns e
  exact (if_neg n2).trans ((if_neg n3).trans ((if_neg n2).trans ((if_neg n1).trans e)))
 have s1 := s.le keep
 have hD1 := keep _ _ hD
 have fx : upd (upd (upd (upd S.σ dx (.ns (fun _ => none) 0)) x (.slots 61 dx [])) y (.list [])) x (.slots 61 dx [some (kv k), some (.int 0 0), some (.ref y)]) x = some (.slots 61 dx [some (kv k), some (.int 0 0), some (.ref y)]) := zA
 have fdx : upd (upd (upd (upd S.σ dx (.ns (fun _ => none) 0)) x (.slots 61 dx [])) y (.list [])) x (.slots 61 dx [some (kv k), some (.int 0 0), some (.ref y)]) dx = some (.ns (fun _ => none) 0) := (if_neg (Ne.symm hne)).trans ((if_neg (Ne.symm hydx)).trans ((if_neg (Ne.symm hne)).trans zA))
 have fy : upd (upd (upd (upd S.σ dx (.ns (fun _ => none) 0)) x (.slots 61 dx [])) y (.list [])) x (.slots 61 dx [some (kv k), some (.int 0 0), some (.ref y)]) y = some (.list []) := (if_neg hyx).trans zA
 generalize hσ1 : upd (upd (upd (upd S.σ dx (.ns (fun _ => none) 0)) x (.slots 61 dx [])) y (.list [])) x (.slots 61 dx [some (kv k), some (.int 0 0), some (.ref y)]) = σ1 at *
 show WAsg g c' _ _ ⟨_, σ1⟩ _
 w_fin
 refine G_n2i hK s1 ?_
 w_fin
 refine WSetItem_dict K (kvs := _) (by walk_at "s") (by rw [List.length_map, sizeLine_eq]; exact Nat.le_trans ‹_› (by decide)) fun ep' => ?_
 rw [stored_new (by rw [List.map_map]; simpa using hk)]
 w_fin
 have hnx : ∀ {z : Addr}, S.σ z = none -> z ≠ A.D := fun hz e => by rw [e, hD] at hz; exact Mine.sn hz
 refine ⟨⟨S.m, upd σ1 A.D (.dict ((G.ks.map fun j => (j, .ref (A.info j))) ++ [(k, .ref x)]) ep')⟩, ⟨fun _ _ e => e, fun b o e => e⟩, ?_⟩
 have fin := s.addNode (σ' := upd σ1 A.D (.dict ((G.ks.map fun j => (j, .ref (A.info j))) ++ [(k, .ref x)]) ep')) hk (fun b o e hb => (if_neg hb).trans (keep b o e)) zA
  ((if_neg (hnx hxS)).trans fx) ((if_neg (hnx hdxS)).trans fdx) ((if_neg (hnx hyS)).trans fy) hxS hdxS hyS
 have := h _ _ fin
 have e : (A.addNode k x dx y).info k = x := if_pos rfl
 rw [e] at this
 exact this
end
end
end
section
variable {P : Params}
section
variable {kv : Str -> Value} {A : SA Str} {G : SG Str} {fr : Addr -> Option (AO Str)} {k : Str}
theorem fn_add (hK : g.K = hd.heap_1 P) : FnIs g.K 108 (bodyOf P 108) (fdOf P 108).scope (fdOf P 108) :=
 fnIs ⟨_, _, _, rfl⟩ (by kernel_rfl) rfl rfl rfl rfl hK
theorem so_add : scopeOk (fdOf P 108).scope = true := by kernel_rfl
noncomputable def SG.add1 (k : Str) (G : SG Str) (p : Str) : SG Str := (G.addNode p).pushSu p k
noncomputable def SG.add0 (G : SG Str) (k : Str) (n : Int) : SG Str := (G.addNode k).setNp k ((G.addNode k).np k + n)
noncomputable def SG.add (G : SG Str) (k : Str) (ps : List Str) : SG Str := ps.foldl (SG.add1 k) (G.add0 k ps.length)
theorem SG.mem_addNode (G : SG Str) (k : Str) : k ∈ (G.addNode k).ks := by
 unfold SG.addNode
 split
 ·assumption
 simp
theorem SG.sub_addNode (G : SG Str) (k : Str) {j : Str} (h : j ∈ G.ks) : j ∈ (G.addNode k).ks := by
 unfold SG.addNode
 split
 ·exact h
 exact List.mem_append_left _ h
theorem SG.len_addNode (G : SG Str) (k : Str) : (G.addNode k).ks.length ≤ G.ks.length + 1 := by
 unfold SG.addNode
 split
 ·exact Nat.le_succ _
 simp
theorem SG.add1_ok (k : Str) (G : SG Str) (n : Nat) (ps : List Str) : ∀ i, k ∈ ((ps.take i).foldl (SG.add1 k) (G.add0 k n)).ks /\ ((ps.take i).foldl (SG.add1 k) (G.add0 k n)).ks.length ≤ G.ks.length + 1 + i
 | 0 => ⟨G.mem_addNode k, G.len_addNode k⟩
 | i + 1 => by
  refine zL (SG.add1_ok k G n ps i) ?_; intro h1 h2
  cases h : ps[i]? with
  | none =>
   have : ps.length ≤ i := List.getElem?_eq_none_iff.mp h
   rw [List.take_of_length_le (by exact om50 ‹_›)]
   rw [List.take_of_length_le this] at h1 h2
   exact ⟨h1, by exact om50 ‹_›⟩
  | some p =>
   rw [List.take_succ, h, Option.toList, List.foldl_append]
   refine ⟨SG.sub_addNode _ p h1, Nat.le_trans (SG.len_addNode _ p) (by exact Nat.lt_succ_of_le ‹_›)⟩
theorem SG.su_addNode (G : SG Str) (k j : Str) : ((G.addNode k).su j).length ≤ (G.su j).length := by
 unfold SG.addNode
 split
 ·exact Nat.le_refl _
 dsimp only
 split
 ·exact Nat.zero_le _
 exact Nat.le_refl _
theorem SG.su_add1 {k : Str} {G : SG Str} {b : Nat} (hb : ∀ j, (G.su j).length ≤ b) (p j : Str) : ((SG.add1 k G p).su j).length ≤ b + 1 := by
 unfold SG.add1 SG.pushSu
 dsimp only
 have := G.su_addNode p
 split
 ·rw [List.length_append]
  exact Nat.add_le_add_right (Nat.le_trans (this p) (hb p)) 1
 exact Nat.le_trans (this j) (Nat.le_trans (hb j) (Nat.le_succ _))
theorem SG.su_fold {k : Str} {b n : Nat} {G : SG Str} (hb : ∀ j, (G.su j).length ≤ b) : ∀ (ps : List Str) (j : Str), ((ps.foldl (SG.add1 k) (G.add0 k n)).su j).length ≤ b + ps.length := by
 have gen : ∀ (ps : List Str) (G : SG Str) (b : Nat), (∀ j, (G.su j).length ≤ b) -> ∀ j, ((ps.foldl (SG.add1 k) G).su j).length ≤ b + ps.length := by
  intro ps
  induction ps with
  | nil => exact fun G b hb j => hb j
  | cons p ps ih =>
   intro G b hb j
   rw [List.foldl_cons, List.length_cons]
   have := ih (SG.add1 k G p) (b + 1) (fun j => SG.su_add1 hb p j) j
   lia
 intro ps j
 exact gen ps (G.add0 k n) b (fun j => Nat.le_trans (G.su_addNode k j) (hb j)) j
theorem SrtF.weak {C NI : Addr} {σ fr' : Addr -> Option (AO Str)} (s : SrtF C NI kv A G a fr σ) (h : ∀ b o, fr' b = some o -> fr b = some o) : SrtF C NI kv A G a fr' σ := ⟨s.s, fun b o e => s.keep b o (h b o e), fun b o e => s.apart b o (h b o e)⟩
theorem G_slot (hK : g.K = hd.heap_1 P) (s : SrtF 158 61 kv A G a fr S.σ) (hk : k ∈ G.ks) {x : Str} {i : Nat} {v : Value} (hx : slotAttr (Mine.hd.heap_1 P) 61 x i = true) (hi : (slotsOf kv A G k)[i]? = some (some v)) (hv : handedIn v = true) (h : Q v S) : WGet g c (.ref (A.info k)) x S Q :=
 WGet_slot (slotA hK hx) (s.s.info k hk) (s.s.dx k hk) hi hv h
theorem S_np (hK : g.K = hd.heap_1 P) (K : KeyOk g kv) (s : SrtF 158 61 kv A G a fr S.σ) (hk : k ∈ G.ks) {v : Int} {Q : St Str -> Prop} (h : ∀ σ', SrtF 158 61 kv A (G.setNp k v) a fr σ' -> Q ⟨S.m, σ'⟩) : WSet g c (.ref (A.info k)) (ofString "npredecessors") (.int v 0) S Q :=
 WSet_slot (slotA hK (i := 1) (by kernel_rfl)) (s.s.info k hk) (s.s.dx k hk) (by decide) (h _ (s.setNp (fun _ _ => K.inj) hk v))
theorem fr_new {T : Addr} {o : AO Str} {σ : Addr -> Option (AO Str)} {C NI : Addr} (s : SrtF C NI kv A G a fr σ) (hT : σ T = none) : ∀ b o', fr b = some o' -> upd fr T o b = some o' := fun b o' e => (if_neg (by
 rintro rfl
 have := s.keep _ _ e
 rw [hT] at this; exact Mine.ns this)).trans e
theorem W_add (hK : g.K = hd.heap_1 P) (hd : c.Deep 5) (K : KeyOk g kv) (s : SrtF 158 61 kv A G a fr S.σ) (hr : G.ready = none) (ps : List Str) (hz : G.ks.length + ps.length ≤ 900) {b : Nat} (hb : ∀ j, (G.su j).length ≤ b) (hb' : b + ps.length ≤ 10000) {as : List Value} (has : as = .ref a :: kv k :: ps.map kv)
  (hbind : ∀ us, us.map er = as -> ∃ (rest : List Value) (bs : Addr -> List (Str × Value)) (gg : Addr -> Option (List (Str × Value))), peek1 g.K ⟨g.prog, g.w.params⟩ (bindArgs (fdOf P 108) ⟨us, []⟩) = some (({ cls := .type "tuple", data := .seq rest.toArray } : Obj), gg) /\ (∀ D, gg D = some (bs D)) /\ rest.map er = ps.map kv /\ ∀ D, (bs D).map (fun p => (p.1, er p.2)) = [(ofString "self", .ref a), (ofString "node", kv k), (ofString "predecessors", .ref D)])
  (h : ∀ A' σ', SrtF 158 61 kv A' (G.add k ps) a fr σ' -> Q .none ⟨S.m, σ'⟩) : WC g c (.ref 108) as S Q := by
 subst has
 refine WC.drop (WC_of (WD_defS (n := 4) hd (fn_add hK) so_add hbind (fun D => by kernel_rfl) fun T hT c' hs hx hd' => ?_))
 refine WXs.le (S' := ⟨setv (setv (setv (fun _ => none) (ofString "self") (.ref a)) (ofString "node") (kv k)) (ofString "predecessors") (.ref T), upd S.σ T (.tup (ps.map kv))⟩) ?_ (Le.refl _)
 show WXs g c' (_ :: _) _ _
 have s1 := s.frame (b := T) (o := .tup (ps.map kv)) hT
 have back := fr_new (o := .tup (ps.map kv)) s hT
 have frT : upd fr T (.tup (ps.map kv)) T = some (.tup (ps.map kv)) := zA
 generalize upd fr T (.tup (ps.map kv)) = fr1 at *
 generalize upd S.σ T (.tup (ps.map kv)) = σ1 at *
 w_fin
 refine G_rdy hK s1 ?_
 rw [show rdyV A G = .none by unfold rdyV; rw [hr]]
 w_fin
 rw [show (!(Value.none == Value.none)) = false from rfl]
 w_fin
 refine M_get_nodeinfo hK s1 ?_
 w_fin
 refine W_getinfo hK (hd'.less (by decide)) K s1 (by lia) fun A1 σ2 s2 => ?_
 have kc := G.mem_addNode k
 w_fin
 refine G_slot hK s2 kc (i := 1) (by kernel_rfl) rfl rfl ?_
 w_fin
 refine WC_lenT (s2.keep _ _ frT) (by rw [List.length_map]; lia) ?_
 rw [List.length_map]
 w_fin
 refine S_np hK K s2 kc fun σ3 s3 => ?_
 have s3 : SrtF 158 61 kv A1 (G.add0 k ps.length) a fr1 σ3 := s3
 w_fin
 obtain ⟨Gi, hGi⟩ : ∃ f : Nat -> SG Str, ∀ i, f i = (ps.take i).foldl (SG.add1 k) (G.add0 k ps.length) := ⟨_, fun _ => rfl⟩
 have G0 : Gi 0 = G.add0 k ps.length := hGi 0
 refine WX_For (fun _ _ => rfl) ?_
 w_fin
 let Inv_1 : Nat -> St Str -> Prop := fun i S' => S'.m (ofString "self") = some (.ref a) /\ S'.m (ofString "node") = some (kv k) /\ ∃ A', SrtF 158 61 kv A' (Gi i) a fr1 S'.σ
 refine ⟨ps.map kv, _, iter_tup (s3.keep _ _ frT), Inv_1,
  ⟨by walk_at "l", by walk_at "l", A1, by rw [G0]; exact s3⟩, fun i S2 ⟨_, _, A', s'⟩ => s'.keep _ _ frT, fun i x S2 hx' q_ => ?_, fun S2 q_ => ?_⟩
 ·(refine el_AAE q_ ?_; clear q_; intro hself hnode A' s')
  rw [List.getElem?_map, Option.map_eq_some_iff] at hx'
  refine zB hx' ?_; (try clear hx'); intro p hp rfl_14; subst rfl_14
  refine zL (SG.add1_ok k G ps.length ps i) ?_; intro o1 o2
  have hil : i < ps.length := (List.getElem?_eq_some_iff.mp hp).1
  have hsucc : Gi (i + 1) = SG.add1 k (Gi i) p := by
   rw [hGi, hGi, List.take_succ, hp, Option.toList, List.foldl_append]; rfl
  have hsu : ∀ j, ((Gi i).su j).length ≤ 10000 := fun j => by
   have := SG.su_fold (k := k) (n := ps.length) hb (ps.take i) j
   rw [← hGi, List.length_take] at this
   lia
  rw [← hGi] at o1 o2
  obtain ⟨mc, σ2'⟩ := S2
  have s' : SrtF 158 61 kv A' (Gi i) a fr1 σ2' := s'
  have hself : mc (ofString "self") = some (.ref a) := hself
  have hnode : mc (ofString "node") = some (kv k) := hnode
  generalize Gi i = G1 at *
  w_fin
  refine M_get_nodeinfo hK s' ?_
  w_fin
  refine W_getinfo hK (hd'.less (by decide)) K s' (by lia) fun A2 σ4 s4 => ?_
  have ka := G1.mem_addNode p
  have ke := G1.sub_addNode p o1
  w_fin
  refine G_slot hK s4 ka (i := 2) (by kernel_rfl) rfl rfl ?_
  refine ⟨_, _, rfl, s4.s.sl p ka, ?_⟩
  w_fin
  refine ⟨_, s4.s.sl p ka, by rw [List.length_map, sizeLine_eq]; exact Nat.le_trans (Nat.le_trans (G1.su_addNode p p) (hsu p)) (by decide), ?_⟩
  w_fin
  refine ⟨by walk_at "l", by walk_at "l", A2, ?_⟩
  rw [hsucc]
  exact s4.pushSu ka ke
 refine el_AAE q_ ?_; clear q_; intro hself hnode A' s'
 w_fin
 rw [List.length_map, hGi, List.take_of_length_le (Nat.le_refl _)] at s'
 exact ⟨⟨S.m, S2.σ⟩, ⟨fun _ _ e => e, fun b o e => e⟩, h A' _ (s'.weak back)⟩
theorem W_add1 (hK : g.K = hd.heap_1 P) (hd : c.Deep 5) (K : KeyOk g kv) (s : SrtF 158 61 kv A G a fr S.σ) (hr : G.ready = none) {p : Str} (hz : G.ks.length ≤ 800) {b : Nat} (hb : ∀ j, (G.su j).length ≤ b) (hb' : b ≤ 9000)
  (h : ∀ A' σ', SrtF 158 61 kv A' (G.add k [p]) a fr σ' -> Q .none ⟨S.m, σ'⟩) : WC g c (.ref 108) [.ref a, kv k, kv p] S Q := by
 refine W_add hK hd K s hr [p] (by simp; exact Nat.le_trans ‹_› (by decide)) hb (by simp; exact Nat.le_trans ‹_› (by decide)) rfl (fun us hu => ?_) h
 refine zN (map3 hu) ?_; intro u v w rfl_13 h1 h2 h3; subst rfl_13
 exact ⟨[w], fun D => [(ofString "self", u), (ofString "node", v), (ofString "predecessors", .ref D)], fun D => some [(ofString "self", u), (ofString "node", v), (ofString "predecessors", .ref D)], by rw [hK]; kernel_rfl, fun _ => rfl, by rw [List.map_cons, List.map_nil, h3]; rfl, fun D => by rw [List.map_cons, List.map_cons, List.map_cons, List.map_nil, h1, h2]; rfl⟩
theorem W_add0 (hK : g.K = hd.heap_1 P) (hd : c.Deep 5) (K : KeyOk g kv) (s : SrtF 158 61 kv A G a fr S.σ) (hr : G.ready = none) (hz : G.ks.length ≤ 800) {b : Nat} (hb : ∀ j, (G.su j).length ≤ b) (hb' : b ≤ 9000)
  (h : ∀ A' σ', SrtF 158 61 kv A' (G.add k []) a fr σ' -> Q .none ⟨S.m, σ'⟩) : WC g c (.ref 108) [.ref a, kv k] S Q := by
 refine W_add hK hd K s hr [] (by simp; exact Nat.le_trans ‹_› (by decide)) hb (by simp; exact Nat.le_trans ‹_› (by decide)) rfl (fun us hu => ?_) h
 refine zD (map2 hu) ?_; intro u v rfl_12 h1 h2; subst rfl_12
 exact ⟨[], fun D => [(ofString "self", u), (ofString "node", v), (ofString "predecessors", .ref D)], fun D => some [(ofString "self", u), (ofString "node", v), (ofString "predecessors", .ref D)], by rw [hK]; kernel_rfl, fun _ => rfl, rfl, fun D => by rw [List.map_cons, List.map_cons, List.map_cons, List.map_nil, h1, h2]; rfl⟩
end
end
section
variable {P : Params}
section
variable {kv : Str -> Value} {A : SA Str} {G : SG Str} {fr : Addr -> Option (AO Str)} {k : Str} {l : List Str}
theorem boot_boolX : bootBuiltins "bool" = some (.type "bool") := by decide +kernel
theorem fn_active (hK : g.K = hd.heap_1 P) : FnIs g.K 127 (bodyOf P 127) (fdOf P 127).scope (fdOf P 127) :=
 fnIs ⟨_, _, _, rfl⟩ (by kernel_rfl) rfl rfl rfl rfl hK
theorem so_active : scopeOk (fdOf P 127).scope = true := by kernel_rfl
theorem W_active (hK : g.K = hd.heap_1 P) (hd : c.Deep 1) (s : SrtF 158 61 kv A G a fr S.σ) (hr : G.ready = some l) (hz : l.length ≤ 10000)
  (h : Q (.bool (decide (G.nf < G.po) || !l.isEmpty)) S) : WC g c (.ref 127) [.ref a] S Q := by
 refine WC.drop (WC_def (n := 0) hd (fn_active hK) so_active (B := [(ofString "self", .ref a)]) (fun us hu => ?_) (by kernel_rfl) fun c' hs hx hd' => ?_)
 ·(refine zB (z3 hu) ?_; intro u rfl_17 hu'; subst rfl_17)
  exact ⟨[(ofString "self", u)], by kernel_rfl, by simp [hu']⟩
 refine WXs.le (S' := ⟨setv (fun _ => none) (ofString "self") (.ref a), S.σ⟩) ?_ (Le.refl _)
 show WXs g c' (_ :: _) _ _
 have eR : rdyV A G = .ref A.R := by unfold rdyV; rw [hr]
 w_fin
 refine G_rdy hK s ?_
 rw [eR]
 w_fin
 rw [show (Value.ref A.R == Value.none) = false from rfl]
 w_fin
 refine WE_Or2 ?_
 w_fin
 refine G_nf hK s ?_
 w_fin
 refine G_po hK s ?_
 w_fin
 have fin : ∀ b : Bool, b = (decide (G.nf < G.po) || !l.isEmpty) -> ∃ S'', Le S'' (⟨S.m, S.σ⟩ : St Str) /\ Q (.bool b) S'' := fun b hb => ⟨S, ⟨fun _ _ e => e, fun b o e => e⟩, by rw [hb]; exact h⟩
 by_cases q : G.nf < G.po
 ·rw [if_pos (decide_eq_true q)]
  exact fin _ (by rw [decide_eq_true q]; rfl)
 first | refine zS (by simpa using q) ?_ | rw [if_neg (by simpa using q)]
 w_fin
 refine WE_BuiltS hs hK boot_boolX (by kernel_rfl) (by kernel_rfl) (by decide +kernel) ?_
 w_fin
 refine G_rdy hK s ?_
 rw [eR]
 w_fin
 refine WC_boolL (s.s.rdy l hr).1 (by rw [List.length_map]; exact om26 (Nat.le_trans ‹_› (by decide))) ?_
 exact fin _ (by rw [decide_eq_false q]; cases l <;> rfl)
theorem fn_get_ready (hK : g.K = hd.heap_1 P) : FnIs g.K 120 (bodyOf P 120) (fdOf P 120).scope (fdOf P 120) :=
 fnIs ⟨_, _, _, rfl⟩ (by kernel_rfl) rfl rfl rfl rfl hK
theorem so_get_ready : scopeOk (fdOf P 120).scope = true := by kernel_rfl
noncomputable def SG.outs (G : SG Str) (l : List Str) : SG Str := l.foldl (fun G k => G.setNp k (-1)) G
noncomputable def SG.getReady (G : SG Str) (l : List Str) : SG Str := { (G.outs l) with ready := some [], po := G.po + l.length }
theorem SG.outs_ok (G : SG Str) : ∀ l : List Str, (G.outs l).ks = G.ks /\ (G.outs l).su = G.su /\ (G.outs l).ready = G.ready /\ (G.outs l).po = G.po /\ (G.outs l).nf = G.nf := by
 intro l
 unfold SG.outs
 induction l generalizing G with
 | nil => exact ⟨rfl, rfl, rfl, rfl, rfl⟩
 | cons k l ih => rw [List.foldl_cons]; exact ih (G.setNp k (-1))
theorem W_get_ready (hK : g.K = hd.heap_1 P) (hd : c.Deep 1) (K : KeyOk g kv) (s : SrtF 158 61 kv A G a fr S.σ) (hr : G.ready = some l) (hz : l.length ≤ 10000)
  (h : ∀ T σ', S.σ T = none -> SrtF 158 61 kv A (G.getReady l) a (upd fr T (.tup (l.map kv))) σ' -> Q (.ref T) ⟨S.m, σ'⟩) : WC g c (.ref 120) [.ref a] S Q := by
 refine WC.drop (WC_def (n := 0) hd (fn_get_ready hK) so_get_ready (B := [(ofString "self", .ref a)]) (fun us hu => ?_) (by kernel_rfl) fun c' hs hx hd' => ?_)
 ·(refine zB (z3 hu) ?_; intro u rfl_16 hu'; subst rfl_16)
  exact ⟨[(ofString "self", u)], by kernel_rfl, by simp [hu']⟩
 refine WXs.le (S' := ⟨setv (fun _ => none) (ofString "self") (.ref a), S.σ⟩) ?_ (Le.refl _)
 show WXs g c' (_ :: _) _ _
 have eR : rdyV A G = .ref A.R := by unfold rdyV; rw [hr]
 w_fin
 refine G_rdy hK s ?_
 rw [eR]
 w_fin
 rw [show (Value.ref A.R == Value.none) = false from rfl]
 w_fin
 refine G_rdy hK s ?_
 rw [eR]
 w_fin
 refine WC_tuple (xs := l.map kv) (s.s.rdy l hr).1 (by rw [List.length_map]; exact Nat.le_trans ‹_› (by decide)) fun T hT => ?_
 have hT : S.σ T = none := hT
 have s1 := s.frame (b := T) (o := .tup (l.map kv)) hT
 have frT : upd fr T (.tup (l.map kv)) T = some (.tup (l.map kv)) := zA
 generalize hfr : upd fr T (.tup (l.map kv)) = fr1 at *
 generalize hσ : upd S.σ T (.tup (l.map kv)) = σ1 at *
 show WXs g c' _ ⟨_, σ1⟩ _
 w_fin
 refine G_n2i hK s1 ?_
 w_fin
 refine WX_For (fun _ _ => rfl) ?_
 w_fin
 let Inv_1 : Nat -> St Str -> Prop := fun i S' => S'.m (ofString "self") = some (.ref a) /\ S'.m (ofString "result") = some (.ref T) /\ S'.m (ofString "n2i") = some (.ref A.D) /\ SrtF 158 61 kv A (G.outs (l.take i)) a fr1 S'.σ
 refine ⟨l.map kv, _, iter_tup (s1.keep _ _ frT), Inv_1,
  ⟨by walk_at "l", by walk_at "l", by walk_at "l", s1⟩, fun i S2 ⟨_, _, _, s'⟩ => s'.keep _ _ frT, fun i x S2 hx' q_ => ?_, fun S2 q_ => ?_⟩
 ·(refine el_AAA q_ ?_; clear q_; intro hself hres hn2i s')
  rw [List.getElem?_map, Option.map_eq_some_iff] at hx'
  refine zB hx' ?_; (try clear hx'); intro p hp rfl_15; subst rfl_15
  have hpl : p ∈ l := List.mem_of_getElem? hp
  have hpk := s.s.rin l hr p hpl
  have hsucc : G.outs (l.take (i + 1)) = (G.outs (l.take i)).setNp p (-1) := by
   unfold SG.outs
   rw [List.take_add_one, hp, Option.toList, List.foldl_append]; rfl
  refine el_AAAA (G.outs_ok (l.take i)) ?_; intro o1 o2 o3 o4 o5
  obtain ⟨mc, σ2'⟩ := S2
  have s' : SrtF 158 61 kv A (G.outs (l.take i)) a fr1 σ2' := s'
  have hself : mc (ofString "self") = some (.ref a) := hself
  have hres : mc (ofString "result") = some (.ref T) := hres
  have hn2i : mc (ofString "n2i") = some (.ref A.D) := hn2i
  have hp' : p ∈ (G.outs (l.take i)).ks := by rw [o1]; exact hpk
  refine zI s'.s.dict ?_; intro ep hD
  w_fin
  refine WSub_dict (kvs := _) hD ⟨_, fun _ _ => rfl⟩ (WItem_dict K (kvs := _) hD (by rw [zr, if_pos hp']) ?_)
  refine S_np hK K s' hp' fun σ3 s3 => ?_
  w_fin
  exact ⟨by walk_at "l", by walk_at "l", by walk_at "l", by rw [hsucc]; exact s3⟩
 refine el_AAA q_ ?_; clear q_; intro hself hres hn2i s'
 rw [List.length_map, List.take_of_length_le (Nat.le_refl _)] at s'
 refine el_AAAA (G.outs_ok l) ?_; intro o1 o2 o3 o4 o5
 obtain ⟨mc, σ2⟩ := S2
 have s' : SrtF 158 61 kv A (G.outs l) a fr1 σ2 := s'
 have hself : mc (ofString "self") = some (.ref a) := hself
 have hres : mc (ofString "result") = some (.ref T) := hres
 have hr' : (G.outs l).ready = some l := o3.trans hr
 have eR' : rdyV A (G.outs l) = .ref A.R := by unfold rdyV; rw [hr']
 w_fin
 refine G_rdy hK s' ?_
 rw [eR']
 refine WGM_list PySem.F.slot_list_clear PySem.F.type_list_clear (s'.s.rdy l hr').1 ?_
 w_fin
 refine WC_clear' (s'.s.rdy l hr').1 (by rw [List.length_map, sizeLine_eq]; exact om24 (Nat.le_trans ‹_› (by decide))) ?_
 have s3 := s'.setRdy (l' := []) hr' (fun _ h => nomatch h)
 rw [List.map_nil] at s3
 generalize upd σ2 A.R (.list []) = σ3 at *
 show WXs g c' _ ⟨_, σ3⟩ _
 w_fin
 refine G_po hK s3 ?_
 w_fin
 refine WC_lenT (s3.keep _ _ frT) (by rw [List.length_map]; exact om26 (Nat.le_trans ‹_› (by decide))) ?_
 rw [List.length_map]
 w_fin
 refine zB s3.s.ns ?_; intro m n1 n2
 refine WSet_own (k' := 4) (setsA hK (by kernel_rfl)) s3.s.inst n1 (by decide) (.inr ⟨rfl, by rw [show m (ofString "_npassedout") = _ from n2.po]; rfl⟩) ?_
 have e4 : (G.outs l).po = G.po := o4
 have s4 := s3.setNs (A' := A) (G' := G.getReady l) (m := setv m n_po (.int ((G.outs l).po + l.length) 0)) (by
   have := n2.setPo (G' := G.getReady l) rfl rfl
   rw [o4]; exact this) rfl rfl rfl rfl (fun l' hl' => by
   (replace hl' := Option.some.inj hl'; subst hl')
   exact ⟨(s3.s.rdy [] rfl).1, (s3.s.rdy [] rfl).2, (fun _ h => nomatch h), fun o e => s3.apart _ o e (.inr (.inr (.inr (.inr ⟨rfl, rfl⟩))))⟩)
 w_fin
 subst hfr
 exact ⟨⟨S.m, _⟩, ⟨fun _ _ e => e, fun b o e => e⟩, h T _ hT s4⟩
end
end
section
variable {P : Params}
section
variable {kv : Str -> Value} {A : SA Str} {G : SG Str} {fr : Addr -> Option (AO Str)} {k : Str} {l : List Str}
theorem WIn_sub {i j : Int} (h : Q (.int (i - j) 0) S) : WIn g c .Sub (.int i 0) (.int j 0) S Q := by
 intro u v hu hv H s R
 refine zI (zf hu) ?_; intro t rfl_21; subst rfl_21
 refine zI (zf hv) ?_; intro t' rfl_20; subst rfl_20
 exact isub_int ⟨S, R.toks, h⟩
theorem fn_done (hK : g.K = hd.heap_1 P) : FnIs g.K 141 (bodyOf P 141) (fdOf P 141).scope (fdOf P 141) :=
 fnIs ⟨_, _, _, rfl⟩ (by kernel_rfl) rfl rfl rfl rfl hK
theorem so_done : scopeOk (fdOf P 141).scope = true := by kernel_rfl
noncomputable def SG.dec (G : SG Str) (w : Str) : SG Str := { (G.setNp w (G.np w - 1)) with ready := if G.np w - 1 = 0 then G.ready.map (· ++ [w]) else G.ready }
noncomputable def SG.decs (G : SG Str) (ws : List Str) : SG Str := ws.foldl SG.dec G
noncomputable def SG.done (G : SG Str) (k : Str) : SG Str := { (G.setNp k (-2)).decs (G.su k) with nf := G.nf + 1 }
theorem SG.decs_ok {l : List Str} : ∀ (ws : List Str) (G : SG Str), G.ready = some l -> (G.decs ws).ks = G.ks /\ (G.decs ws).su = G.su /\ (G.decs ws).po = G.po /\ (G.decs ws).nf = G.nf /\ ∃ l', (G.decs ws).ready = some l' /\ l'.length ≤ l.length + ws.length := by
 intro ws
 unfold SG.decs
 induction ws generalizing l with
 | nil => intro G h; exact ⟨rfl, rfl, rfl, rfl, l, h, Nat.le_refl _⟩
 | cons w ws ih =>
  intro G h
  rw [List.foldl_cons, List.length_cons]
  obtain ⟨la, e1, e2⟩ : ∃ la, (G.dec w).ready = some la /\ la.length ≤ l.length + 1 := by
   unfold SG.dec
   dsimp only
   split
   ·rw [h]; exact ⟨_, rfl, by simp⟩
   rw [h]; exact ⟨_, rfl, by exact Nat.le_succ _⟩
  refine el_AAAAEA (ih (G.dec w) e1) ?_; intro o1 o2 o3 o4 l' o5 o6
  exact ⟨o1, o2, o3, o4, l', o5, by lia⟩
theorem W_done (hK : g.K = hd.heap_1 P) (hd : c.Deep 1) (K : KeyOk g kv) (s : SrtF 158 61 kv A G a fr S.σ) (hr : G.ready = some l) (hk : k ∈ G.ks) (hnp : G.np k = -1) (hz : l.length + (G.su k).length ≤ 10000)
  (h : ∀ σ', SrtF 158 61 kv A (G.done k) a fr σ' -> Q .none ⟨S.m, σ'⟩) : WC g c (.ref 141) [.ref a, kv k] S Q := by
 refine WC.drop (WC_of (WD_defS (n := 0) hd (fn_done hK) so_done (B := fun D => [(ofString "self", .ref a), (ofString "nodes", .ref D)]) (restE := [kv k]) (fun us hu => ?_) (fun D => by kernel_rfl) fun T hT c' hs hx hd' => ?_))
 ·(refine zD (map2 hu) ?_; intro u v rfl_19 h1 h2; subst rfl_19)
  exact ⟨[v], fun D => [(ofString "self", u), (ofString "nodes", .ref D)], fun D => some [(ofString "self", u), (ofString "nodes", .ref D)], by rw [hK]; kernel_rfl, fun _ => rfl, by rw [List.map_cons, List.map_nil, h2], fun D => by rw [List.map_cons, List.map_cons, List.map_nil, h1]; rfl⟩
 refine WXs.le (S' := ⟨setv (setv (fun _ => none) (ofString "self") (.ref a)) (ofString "nodes") (.ref T), upd S.σ T (.tup [kv k])⟩) ?_ (Le.refl _)
 show WXs g c' (_ :: _) _ _
 have s1 := s.frame (b := T) (o := .tup [kv k]) hT
 have back := fr_new (o := .tup [kv k]) s hT
 have frT : upd fr T (.tup [kv k]) T = some (.tup [kv k]) := zA
 generalize upd fr T (.tup [kv k]) = fr1 at *
 generalize upd S.σ T (.tup [kv k]) = σ1 at *
 have eR : rdyV A G = .ref A.R := by unfold rdyV; rw [hr]
 w_fin
 refine G_rdy hK s1 ?_
 rw [eR]
 w_fin
 rw [show (Value.ref A.R == Value.none) = false from rfl]
 w_fin
 refine G_n2i hK s1 ?_
 w_fin
 refine WX_For (fun _ _ => rfl) ?_
 w_fin
 let Inv_1 : Nat -> St Str -> Prop := fun i S' => S'.m (ofString "self") = some (.ref a) /\ S'.m (ofString "n2i") = some (.ref A.D) /\ SrtF 158 61 kv A (if i = 0 then G else G.done k) a fr1 S'.σ
 refine ⟨[kv k], _, iter_tup (s1.keep _ _ frT), Inv_1,
  ⟨by walk_at "l", by walk_at "l", s1⟩, fun i S2 ⟨_, _, s'⟩ => s'.keep _ _ frT, fun i x S2 hx' q_ => ?_, fun S2 q_ => ?_⟩
 ·(refine el_AA q_ ?_; clear q_; intro hself hn2i s')
  match i, hx' with
  | 0, hx' =>
   have hx' : some (kv k) = some x := hx'
   obtain rfl := Option.some.inj hx'
   obtain ⟨mc, σ2⟩ := S2
   have s' : SrtF 158 61 kv A G a fr1 σ2 := s'
   have hself : mc (ofString "self") = some (.ref a) := hself
   have hn2i : mc (ofString "n2i") = some (.ref A.D) := hn2i
   refine zI s'.s.dict ?_; intro ep hD
   w_fin
   refine WGM_dict (kvs := _) PySem.F.slot_dict_get PySem.F.type_dict_get hD ?_
   w_fin
   refine WC_dictGet K (kvs := _) hD s'.s.lo ?_
   rw [zr, if_pos hk]
   dsimp only [Option.getD]
   w_fin
   rw [show (Value.ref (A.info k) == Value.none) = false from rfl]
   w_fin
   refine G_slot hK s' hk (i := 1) (by kernel_rfl) rfl rfl ?_
   rw [hnp]
   w_fin
   refine WCmp_ne (i := -1) (j := -1) ?_
   rw [show ((-1 : Int) != -1) = false from rfl]
   w_fin
   refine S_np hK K s' hk fun σ3 s3 => ?_
   w_fin
   have hka : k ∈ (G.setNp k (-2)).ks := hk
   refine WX_For (fun _ _ => rfl) ?_
   w_fin
   refine G_slot hK s3 hka (i := 2) (by kernel_rfl) rfl rfl ?_
   obtain ⟨Gi, hGi⟩ : ∃ f : Nat -> SG Str, ∀ i, f i = (G.setNp k (-2)).decs ((G.su k).take i) := ⟨_, fun _ => rfl⟩
   have G0 : Gi 0 = G.setNp k (-2) := hGi 0
   have ok : ∀ i, (Gi i).ks = G.ks /\ (Gi i).su = G.su /\ (Gi i).po = G.po /\ (Gi i).nf = G.nf /\ ∃ l', (Gi i).ready = some l' /\ l'.length ≤ 10000 := fun i => by
    refine el_AAAAEA (SG.decs_ok (l := l) ((G.su k).take i) (G.setNp k (-2)) hr) ?_; intro o1 o2 o3 o4 l' o5 o6
    rw [← hGi] at o1 o2 o3 o4 o5
    exact ⟨o1, o2, o3, o4, l', o5, by rw [List.length_take] at o6; lia⟩
   let Inv_2 : Nat -> St Str -> Prop := fun i S' => S'.m (ofString "self") = some (.ref a) /\ S'.m (ofString "n2i") = some (.ref A.D) /\ SrtF 158 61 kv A (Gi i) a fr1 S'.σ
   refine ⟨(G.su k).map kv, _, zU (s3.s.sl k hka), Inv_2,
    ⟨by walk_at "l", by walk_at "l", by rw [G0]; exact s3⟩, fun i S4 q_ => ?_, fun i x S4 hx' q_ => ?_, fun S4 q_ => ?_⟩
   ·(refine el_AA q_ ?_; clear q_; intro _ _ s'')
    refine el_AA (ok i) ?_; intro o1 o2 _
    have := s''.s.sl k (by rw [o1]; exact hk)
    rw [o2] at this; exact this
   ·(refine el_AA q_ ?_; clear q_; intro hself hn2i s'')
    rw [List.getElem?_map, Option.map_eq_some_iff] at hx'
    refine zB hx' ?_; (try clear hx'); intro w hw rfl_18; subst rfl_18
    have hsucc : Gi (i + 1) = (Gi i).dec w := by
     rw [hGi, hGi]
     unfold SG.decs
     rw [List.take_add_one, hw, Option.toList, List.foldl_append]; rfl
    refine el_AAAAEA (ok i) ?_; intro o1 o2 o3 o4 l' o5 o6
    have hwk : w ∈ (Gi i).ks := by rw [o1]; exact s.s.clo k hk w (List.mem_of_getElem? hw)
    obtain ⟨m4, σ4⟩ := S4
    have s'' : SrtF 158 61 kv A (Gi i) a fr1 σ4 := s''
    have hself : m4 (ofString "self") = some (.ref a) := hself
    have hn2i : m4 (ofString "n2i") = some (.ref A.D) := hn2i
    generalize Gi i = G1 at *
    refine zI s''.s.dict ?_; intro ep2 hD2
    w_fin
    refine WSub_dict (kvs := _) hD2 ⟨_, fun _ _ => rfl⟩ (WItem_dict K (kvs := _) hD2 (by rw [zr, if_pos hwk]) ?_)
    w_fin
    refine G_slot hK s'' hwk (i := 1) (by kernel_rfl) rfl rfl ?_
    w_fin
    refine WIn_sub ?_
    refine S_np hK K s'' hwk fun σ5 sa => ?_
    w_fin
    refine G_slot hK sa (show w ∈ (G1.setNp w (G1.np w - 1)).ks from hwk) (i := 1) (by kernel_rfl) rfl rfl ?_
    have e5 : (G1.setNp w (G1.np w - 1)).np w = G1.np w - 1 := if_pos rfl
    rw [e5]
    w_fin
    by_cases q : G1.np w - 1 = 0
    ·first | refine zR (by rw [q]; rfl) ?_ | rw [if_pos (by rw [q]; rfl)]
     w_fin
     refine G_rdy hK sa ?_
     have eR5 : rdyV A (G1.setNp w (G1.np w - 1)) = .ref A.R := by unfold rdyV SG.setNp; dsimp only; rw [o5]
     rw [eR5]
     have r5 := (sa.s.rdy l' o5).1
     refine ⟨_, _, rfl, r5, ?_⟩
     w_fin
     refine ⟨_, r5, by rw [List.length_map, sizeLine_eq]; exact om24 (Nat.le_trans ‹_› (by decide)), ?_⟩
     w_fin
     refine ⟨by walk_at "l", by walk_at "l", ?_⟩
     have s6 := sa.setRdy (l' := l' ++ [w]) o5 (fun x hx => by
      rcases List.mem_append.mp hx with hx | hx
      ·exact sa.s.rin l' o5 x hx
      ·rw [List.mem_singleton.mp hx]; exact hwk)
     have e : (G1.dec w) = { (G1.setNp w (G1.np w - 1)) with ready := some (l' ++ [w]) } := by
      unfold SG.dec
      rw [if_pos q, o5]; rfl
     rw [hsucc, e]
     rw [List.map_append] at s6
     exact s6
    first | refine zS (by simpa using q) ?_ | rw [if_neg (by simpa using q)]
    w_fin
    refine ⟨by walk_at "l", by walk_at "l", ?_⟩
    have e : (G1.dec w) = G1.setNp w (G1.np w - 1) := by
     unfold SG.dec
     rw [if_neg q]; rfl
    rw [hsucc, e]; exact sa
   refine el_AA q_ ?_; clear q_; intro hself hn2i s''
   refine el_AAAAEA (ok ((G.su k).map kv).length) ?_; intro o1 o2 o3 o4 l' o5 o6
   have eG : Gi ((G.su k).map kv).length = (G.setNp k (-2)).decs (G.su k) := by
    rw [hGi, List.length_map, List.take_of_length_le (Nat.le_refl _)]
   rw [eG] at s'' o4 o5
   obtain ⟨m4, σ4⟩ := S4
   have s'' : SrtF 158 61 kv A ((G.setNp k (-2)).decs (G.su k)) a fr1 σ4 := s''
   have hself : m4 (ofString "self") = some (.ref a) := hself
   have hn2i : m4 (ofString "n2i") = some (.ref A.D) := hn2i
   w_fin
   refine G_nf hK s'' ?_
   w_fin
   refine zB s''.s.ns ?_; intro m n1 n2
   refine WSet_own (k' := 4) (setsA hK (by kernel_rfl)) s''.s.inst n1 (by decide) (.inr ⟨rfl, by rw [show m (ofString "_nfinished") = _ from n2.nf]; rfl⟩) ?_
   have s4 := s''.setNs (A' := A) (G' := G.done k) (m := setv m n_nf (.int (((G.setNp k (-2)).decs (G.su k)).nf + 1) 0)) (by
     have := n2.setNf (G' := G.done k) rfl rfl
     rw [o4]; exact this) rfl rfl rfl rfl (fun lb hlb => by
     have hlb : ((G.setNp k (-2)).decs (G.su k)).ready = some lb := hlb
     exact ⟨(s''.s.rdy lb hlb).1, (s''.s.rdy lb hlb).2, s''.s.rin lb hlb, fun o e => s''.apart _ o e (.inr (.inr (.inr (.inr ⟨by rw [hlb]; rfl, rfl⟩))))⟩)
   w_fin
   exact ⟨by walk_at "l", by walk_at "l", s4⟩
  | i + 1, hx' => exact nomatch (show (none : Option Value) = some x from hx')
 refine el_AA q_ ?_; clear q_; intro hself hn2i s'
 obtain ⟨mc, σ2⟩ := S2
 have s' : SrtF 158 61 kv A (G.done k) a fr1 σ2 := s'
 w_fin
 exact ⟨⟨S.m, _⟩, ⟨fun _ _ e => e, fun b o e => e⟩, h _ (s'.weak back)⟩
end
end
section
variable {P : Params}
section
variable {kv : Str -> Value} {A : SA Str} {G : SG Str} {fr : Addr -> Option (AO Str)} {k : Str} {l : List Str}
theorem fn_find_cycle (hK : g.K = hd.heap_1 P) : FnIs g.K 148 (bodyOf P 148) (fdOf P 148).scope (fdOf P 148) :=
 fnIs ⟨_, _, _, rfl⟩ (by kernel_rfl) rfl rfl rfl rfl hK
theorem so_find_cycle : scopeOk (fdOf P 148).scope = true := by kernel_rfl
theorem W_find_cycle (hK : g.K = hd.heap_1 P) (hd : c.Deep 1) (K : KeyOk g kv) (s : SrtF 158 61 kv A G a fr S.σ) (hz : G.ks.length ≤ 1000)
  (h1 : ∀ (r : Str -> Nat) σ', (∀ k ∈ G.ks, ∀ w ∈ G.su k, r w < r k) -> (∀ b o, S.σ b = some o -> σ' b = some o) -> Q .none ⟨S.m, σ'⟩)
  (h2 : ∀ q R σ', IsRing G.su q -> (∀ z ∈ q, z ∈ G.ks) -> S.σ R = none -> (∀ b o, S.σ b = some o -> σ' b = some o) -> σ' R = some (.list (q.map kv)) -> Q (.ref R) ⟨S.m, σ'⟩) : WCX g c .none (.ref 148) [.ref a] S Q (fun _ => False) := by
 refine WCX.drop (WCX.ofD (WDX_def (n := 0) hd (fn_find_cycle hK) so_find_cycle (B := [(ofString "self", .ref a)]) (fun us hu => ?_) (by kernel_rfl) fun c' hs hx hd' => ?_))
 ·(refine zB (z3 hu) ?_; intro u rfl_27 hu'; subst rfl_27)
  exact ⟨[(ofString "self", u)], by kernel_rfl, by simp [hu']⟩
 refine WXsX.of (WXsF.le (S' := ⟨setv (fun _ => none) (ofString "self") (.ref a), S.σ⟩) ?_ (Le.refl _))
 show WXsF g c' (_ :: _) _ _
 obtain ⟨sm, σ0⟩ := S
 have s : SrtF 158 61 kv A G a fr σ0 := s
 w_fin
 refine G_n2i hK s ?_
 w_fin
 refine ⟨by decide +kernel, fun T hT => ?_⟩
 w_fin
 refine ⟨by decide +kernel, fun I hI => ?_⟩
 w_fin
 refine WC_set0 fun E hE => ?_
 w_fin
 intro D hD lo
 w_fin
 have hσ0 : ∀ b o, σ0 b = some o -> upd (upd (upd (upd σ0 T (.list [])) I (.list [])) E (.set (fun _ => false) 0)) D (.dict [] 0) b = some o := fun b o e => by
  rw [zC hD b o (zC hE b o (zC hI b o (zC hT b o e)))]
 have hD : upd (upd (upd σ0 T (.list [])) I (.list [])) E (.set (fun _ => false) 0) D = none := hD
 have hE : upd (upd σ0 T (.list [])) I (.list []) E = none := hE
 have hI : upd σ0 T (.list []) I = none := hI
 have hT : σ0 T = none := hT
 have TI : T ≠ I := by rintro rfl; rw [zA] at hI; exact Mine.sn hI
 have TE : T ≠ E := by rintro rfl; rw [zC hI _ _ zA] at hE; exact Mine.sn hE
 have IE : I ≠ E := by rintro rfl; rw [zA] at hE; exact Mine.sn hE
 have d0 : DS kv A σ0 T I E D [] [] [] (upd (upd (upd (upd σ0 T (.list [])) I (.list [])) E (.set (fun _ => false) 0)) D (.dict [] 0)) := by
  refine ⟨hσ0, zC hD _ _ (zC hE _ _ (zC hI _ _ zA)), zC hD _ _ (zC hE _ _ zA), ⟨_, fun _ => rfl, zC hD _ _ zA⟩, ⟨0, zA⟩, trivial, fun b hb => ?_, TI, List.nodup_nil, (fun _ h => nomatch h)⟩
  have no : ∀ {σ : Addr -> Option (AO Str)} {z : Addr} {σ1 : Addr -> Option (AO Str)}, (∀ b o, σ1 b = some o -> σ b = some o) -> σ z = none -> σ1 z = none := fun {σ z σ1} h e => by
   cases q : σ1 z with
   | none => rfl
   | some o => rw [h _ _ q] at e; exact Mine.sn e
  rcases hb with rfl | rfl | rfl | rfl | ⟨_, hm, _⟩
  ·exact hT
  ·exact no (zC hT) hI
  ·exact no (fun b o e => zC hI b o (zC hT b o e)) hE
  ·exact no (fun b o e => zC hE b o (zC hI b o (zC hT b o e))) hD
  cases hm
 refine zI s.s.dict ?_; intro ep0 hAD
 refine WXF_For (fun _ _ => rfl) ?_
 w_fin
 generalize upd (upd (upd (upd σ0 T (.list [])) I (.list [])) E (.set (fun _ => false) 0)) D (.dict [] 0) = σ1 at *
 let Inv_1 : Nat -> St Str -> Prop := fun i S' => Nm S'.m A.D T I E D /\ ∃ sn r cnt, DS kv A σ0 T I E D sn [] [] S'.σ /\ DI G.ks G.su sn [] r cnt /\ ∀ j x, j < i -> G.ks[j]? = some x -> x ∈ sn
 refine ⟨_, _, iter_dict K (d0.keep _ _ hAD) s.s.lo, Inv_1,
  ⟨⟨by walk_at "l", by walk_at "l", by walk_at "l", by walk_at "l", by walk_at "l"⟩, [], _, _, d0, .start, fun j x h => absurd h (Nat.not_lt_zero _)⟩, fun i S2 ⟨_, sn, r, cnt, d, _⟩ => d.keep _ _ hAD, fun i x S2 hx' q_ => ?_, fun S2 q_ => ?_⟩
 ·(refine el_AEEEAA q_ ?_; clear q_; intro nm sn r cnt d di old)
  rw [List.getElem?_map, List.getElem?_map, Option.map_map, Option.map_eq_some_iff] at hx'
  refine zB hx' ?_; (try clear hx'); intro xb hx0 rfl_26; subst rfl_26
  show WAsg g c' _ (kv xb) _ _
  have hx0k : xb ∈ G.ks := List.mem_of_getElem? hx0
  obtain ⟨mc, σ2⟩ := S2
  have nm : Nm mc A.D T I E D := nm
  have d : DS kv A σ0 T I E D sn [] [] σ2 := d
  obtain ⟨n1, n2, n3, n4, n5⟩ := id nm
  w_fin
  refine zB d.hE ?_; intro Pd hPd hE2
  refine WCmp_inS K hE2 ?_
  rw [hPd]
  w_fin
  by_cases qg : xb ∈ sn
  ·rw [if_pos (decide_eq_true qg)]
   w_fin
   refine ⟨nm.set _, sn, r, cnt, d, di, fun j x hj hx => ?_⟩
   rcases Nat.lt_succ_iff_lt_or_eq.mp hj with hj | rfl
   ·exact old j x hj hx
   rw [hx0] at hx; (replace hx := Option.some.inj hx; subst hx); exact qg
  first | refine zS (by simpa using qg) ?_ | rw [if_neg (by simpa using qg)]
  w_fin
  refine WXF_While (fun n S' => StA kv A G σ0 T I E D sn xb n S') _ ⟨nm.set _, sn, [], [], r, cnt, xb, rfl, by walk_at "l", hx0k, d, di, trivial, .inr rfl, fun _ h => h⟩ fun n S3 q_ => ?_
  refine el_AEEEEEEAAAAAAA q_ ?_; clear q_; intro nm3 sn3 stk ms rd cnt3 x hn hnode hxk da di3 pa hx0' sub
  obtain ⟨m3, σ3⟩ := S3
  have nm3 : Nm m3 A.D T I E D := nm3
  have hnode : m3 (ofString "node") = some (kv x) := hnode
  have da : DS kv A σ0 T I E D sn3 stk ms σ3 := da
  obtain ⟨n1, n2, n3, n4, n5⟩ := id nm3
  refine zB da.hE ?_; intro Pd3 hPd3 hE3
  refine WT_value (fun _ _ => rfl) (WE_bool (zP ?_))
  first | refine zR rfl ?_ | rw [if_pos rfl]
  refine WXsF_cons ?_
  refine WXF.mono (Q := fun f S' => match f with | .next => ∃ m, m ≤ n /\ StB kv A G σ0 T I E D sn xb m S' | .ret v => ∃ q R, v = .ref R /\ IsRing G.su q /\ (∀ z ∈ q, z ∈ G.ks) /\ σ0 R = none /\ (∀ b o, σ0 b = some o -> S'.σ b = some o) /\ S'.σ R = some (.list (q.map kv)) | _ => False) ?_ fun f S4 hf => ?_
  ·w_fin
   refine WCmp_inS K hE3 ?_
   rw [hPd3]
   w_fin
   by_cases qe : x ∈ sn3
   ·rw [if_pos (decide_eq_true qe)]
    refine zI da.hD ?_; intro ep3 hD3
    w_fin
    refine WCmp_inD K hD3 lo ?_
    rw [nk_has]
    w_fin
    by_cases qc : x ∈ stk.map (·.1)
    ·rw [if_pos (decide_eq_true qc)]
     refine zB (List.mem_map.mp qc) ?_; intro nn_25 hm e; obtain ⟨x', p⟩ := nn_25
     obtain rfl : x' = x := e
     refine el_EE (List.append_of_mem hm) ?_; intro top rest rfl_24; subst rfl_24
     refine zp ?_
     intro Q_
     refine WXF_ofReturn (WX_Return (WE_BinOp (WE_SliceL ?_)))
     w_fin
     refine ⟨T, rfl, zn ?_⟩
     w_fin
     refine WSub_dict hD3 ⟨_, fun _ _ => rfl⟩ (WItem_dict K hD3 (v := .int rest.length 0) (by
      have := nk_at (x := x') (top := top.map (·.1)) (rest := rest.map (·.1)) (by have := di3.nd; rw [List.map_append, List.map_cons] at this; exact this)
      rw [List.length_map] at this
      rw [List.map_append, List.map_cons]; exact this) ?_)
     refine ⟨_, rfl, WPart_none ⟨_, .inl da.hT, ?_, fun R1 hRa => ?_⟩⟩
     ·rw [List.length_map, List.length_reverse, sizeLine_eq]
      have := zd di3.nd (fun z hz => di3.sk z (di3.ss z hz))
      exact om23 ‹_› (Nat.le_trans ‹_› (by decide))
     have hRa : σ3 R1 = none := hRa
     have eP : pickL (((top ++ (x', p) :: rest).map (·.1)).reverse.map kv) (some rest.length) none = (x' :: (top.map (·.1)).reverse).map kv := pick_top
     rw [eP]
     w_fin
     refine ⟨(show 1 ≤ sizeLine by decide +kernel), fun R2 hR2 => ?_⟩
     have hR2 : upd σ3 R1 (.list ((x' :: (top.map (·.1)).reverse).map kv)) R2 = none := hR2
     refine WBin_addL (zC hR2 _ _ zA) zA ?_ fun R hR => ?_
     ·have h1 := zd di3.nd (fun z hz => di3.sk z (di3.ss z hz))
      rw [List.map_append, List.map_cons, List.length_append, List.length_cons, List.length_map] at h1
      rw [List.length_map, List.length_cons, List.length_reverse, List.length_map, sizeLine_eq]
      show _ + 1 ≤ _
      lia
     have hR : upd (upd σ3 R1 (.list ((x' :: (top.map (·.1)).reverse).map kv))) R2 (.list [kv x']) R = none := hR
     refine ⟨x' :: (top.map (·.1)).reverse ++ [x'], R, rfl, di3.ring pa, fun z hz => ?_, ?_, fun b o e => zC hR _ _ (zC hR2 _ _ (zC hRa _ _ (da.keep b o e))), ?_⟩
     ·refine di3.sk z (di3.ss z ?_)
      simp only [List.mem_append, List.mem_cons, List.mem_reverse, List.not_mem_nil, or_false] at hz
      rw [List.map_append, List.map_cons, List.mem_append, List.mem_cons]
      rcases hz with (hz | hz) | hz
      ·exact .inr (.inl hz)
      ·exact .inl hz
      exact .inr (.inl hz)
     ·cases q : σ0 R with
      | none => rfl
      | some o => rw [zC hR2 _ _ (zC hRa _ _ (da.keep R o q))] at hR; exact Mine.sn hR
     show upd _ R _ R = _
     rw [zA, List.map_append]; rfl
    first | refine zS (by simpa using qc) ?_ | rw [if_neg (by simpa using qc)]
    w_fin
    exact ⟨n, Nat.le_refl _, nm3, sn3, stk, ms, rd, cnt3, hn, da, di3, pa.seen ⟨qe, qc⟩, hx0'.elim id (fun h => h ▸ qe), sub⟩
   first | refine zS (by simpa using qe) ?_ | rw [if_neg (by simpa using qe)]
   have hlen := zd di3.nd (fun z hz => di3.sk z (di3.ss z hz))
   have hsl := zd di3.snd di3.sk
   w_fin
   refine WGM_setAdd hE3 ?_
   w_fin
   refine WC_setAdd K hE3 (Nat.lt_of_le_of_lt (m := 1001) (by lia) (by decide +kernel)) ?_
   first | refine zS (by rw [hPd3]; simpa using qe) ?_ | rw [if_neg (by rw [hPd3]; simpa using qe)]
   have s3 := da.srt s
   have sE := fun (b : Addr) (o : AO Str) (e : σ3 b = some o) (hb : b ≠ E) => (show upd σ3 E (.set (fun k' => Pd3 k' || decide (k' = x)) (sn3.length + 1)) b = some o from (if_neg hb).trans e)
   have nE : ∀ z, σ3 z = none -> z ≠ E := fun z hz e => by rw [e, hE3] at hz; exact Mine.sn hz
   refine zI da.hD ?_; intro ep3 hD3
   have hDE : D ≠ E := zF hD3 hE3 (fun e => by exact (nomatch e))
   have hTE : T ≠ E := zF da.hT hE3 (fun e => by exact (nomatch e))
   have hIE : I ≠ E := zF da.hI hE3 (fun e => by exact (nomatch e))
   have frE : fr E = none := by
    cases q : fr E with
    | none => rfl
    | some o => have := s.keep E o q; rw [da.loc E (.inr (.inr (.inl rfl)))] at this; exact Mine.ns this
   have owE : ¬ Own A G a E := fun q => by
    refine zI (s.s.own q) ?_; intro o e
    rw [da.loc E (.inr (.inr (.inl rfl)))] at e; exact Mine.ns e
   have s4 : SrtF 158 61 kv A G a fr (upd σ3 E (.set (fun k' => Pd3 k' || decide (k' = x)) (sn3.length + 1))) := s3.ext fun b o e hb => sE b o e (by
    rintro rfl
    rcases hb with hb | ⟨o', hb⟩
    ·exact owE hb
    ·rw [frE] at hb; exact Mine.ns hb)
   have hE4 : upd σ3 E (.set (fun k' => Pd3 k' || decide (k' = x)) (sn3.length + 1)) E = some (.set (fun k' => Pd3 k' || decide (k' = x)) (sn3.length + 1)) := zA
   have hI4 := sE I _ da.hI hIE
   have hT4 := sE T _ da.hT hTE
   have hD4 := sE D _ hD3 hDE
   have kp4 : ∀ b o, σ3 b = some o -> b ≠ T -> b ≠ I -> b ≠ D -> b ≠ E -> upd σ3 E (.set (fun k' => Pd3 k' || decide (k' = x)) (sn3.length + 1)) b = some o := fun b o e _ _ _ hb => sE b o e hb
   have no4 : ∀ z, upd σ3 E (.set (fun k' => Pd3 k' || decide (k' = x)) (sn3.length + 1)) z = none -> σ3 z = none := fun z hz => by
    unfold upd at hz
    split at hz
    ·exact Mine.sn hz
    exact hz
   generalize upd σ3 E (.set (fun k' => Pd3 k' || decide (k' = x)) (sn3.length + 1)) = σ4 at *
   refine zI s4.s.dict ?_; intro ep4 hA4
   w_fin
   refine ⟨I, _, rfl, hI4, ?_⟩
   w_fin
   refine WSub_dict hA4 ⟨_, fun _ _ => rfl⟩ (WItem_dict K (kvs := _) hA4 (by rw [zr, if_pos hxk]) ?_)
   w_fin
   refine G_slot hK s4 hxk (i := 2) (by kernel_rfl) rfl rfl ?_
   w_fin
   refine WC_iter (s4.s.sl x hxk) fun it hit => ?_
   w_fin
   refine WGet_next zA fun mw hmw => ?_
   have hit : σ4 it = none := hit
   have hmw0 : upd σ4 it (litX (A.sl x)) mw = none := hmw
   have hne : it ≠ mw := by rintro rfl; rw [zA] at hmw0; exact Mine.sn hmw0
   have hmw : σ4 mw = none := by
    unfold upd at hmw0
    rwa [if_neg (Ne.symm hne)] at hmw0
   have kp5 : ∀ b o, σ4 b = some o -> upd (upd (upd σ4 it (litX (A.sl x))) it (litO (A.sl x) 0)) mw (mwO it) b = some o := fun b o e => by
    have n1 : b ≠ it := by rintro rfl; rw [hit] at e; exact Mine.ns e
    have n2 : b ≠ mw := by rintro rfl; rw [hmw] at e; exact Mine.ns e
    exact (if_neg n2).trans ((if_neg n1).trans ((if_neg n1).trans e))
   have hmw5 : upd (upd (upd σ4 it (litX (A.sl x))) it (litO (A.sl x) 0)) mw (mwO it) mw = some (mwO it) := zA
   have hit5 : upd (upd (upd σ4 it (litX (A.sl x))) it (litO (A.sl x) 0)) mw (mwO it) it = some (litO (A.sl x) 0) := (if_neg hne).trans zA
   show ∃ xs, upd (upd (upd σ4 it (litX (A.sl x))) it (litO (A.sl x) 0)) mw (mwO it) I = some (.list xs) /\ _ /\ _
   generalize upd (upd (upd σ4 it (litX (A.sl x))) it (litO (A.sl x) 0)) mw (mwO it) = σ5 at *
   refine ⟨_, kp5 _ _ hI4, ?_, ?_⟩
   ·rw [List.length_map, List.length_reverse, da.len, sizeLine_eq]
    rw [List.length_map] at hlen
    exact om23 ‹_› (Nat.le_trans ‹_› (by decide))
   have hTa := kp5 _ _ hT4
   have hD5 := kp5 _ _ hD4
   have hE5 := kp5 _ _ hE4
   have hTI := da.TI
   have hTD : T ≠ D := zF da.hT hD3 (fun e => by exact (nomatch e))
   have hID : I ≠ D := zF da.hI hD3 (fun e => by exact (nomatch e))
   have hT6 : upd σ5 I (.list (List.map (fun m => Value.ref m.fst) ms.reverse ++ [.ref mw])) T = _ := (if_neg hTI).trans hTa
   have hD6 : upd σ5 I (.list (List.map (fun m => Value.ref m.fst) ms.reverse ++ [.ref mw])) D = _ := (if_neg (Ne.symm hID)).trans hD5
   have hI6 : upd σ5 I (.list (List.map (fun m => Value.ref m.fst) ms.reverse ++ [.ref mw])) I = _ := zA
   have kp6 : ∀ b o, b ≠ I -> σ5 b = some o -> upd σ5 I (.list (List.map (fun m => Value.ref m.fst) ms.reverse ++ [.ref mw])) b = some o := fun b o hb e => (if_neg hb).trans e
   show WXsF g c' _ ⟨m3, upd σ5 I (.list (List.map (fun m => Value.ref m.fst) ms.reverse ++ [.ref mw]))⟩ _
   generalize upd σ5 I (.list (List.map (fun m => Value.ref m.fst) ms.reverse ++ [.ref mw])) = σ6 at *
   w_fin
   refine WX_AssignSub (fun _ => rfl) ?_
   w_fin
   refine WC_len (S := ⟨_, σ6⟩) hT6 ?_ ?_
   ·rw [List.length_map, List.length_reverse]; lia
   w_fin
   refine WSetItem_dict K (kvs := _) hD6 ?_ fun ep' => ?_
   ·rw [nk_len, sizeLine_eq]; exact om23 ‹_› (Nat.le_trans ‹_› (by decide))
   have hT7 := (if_neg hTD : (if T = D then some (AO.dict (stored (nk (List.map (·.1) stk)) x (.int (List.map kv (List.map (·.1) stk).reverse).length 0)) ep') else σ6 T) = _).trans hT6
   w_fin
   refine ⟨T, _, rfl, hT7, ?_⟩
   w_fin
   refine ⟨_, hT7, ?_, ?_⟩
   ·rw [List.length_map, List.length_reverse, sizeLine_eq]; omega
   have hxs : x ∉ stk.map (·.1) := fun q => qe (di3.ss x q)
   have hst : stored (nk (List.map (·.1) stk)) x (.int (List.map kv (List.map (·.1) stk).reverse).length 0) = nk (x :: stk.map (·.1)) := by
    rw [stored_new (by rw [nk_keys, List.mem_reverse]; exact hxs), List.length_map, List.length_reverse]; rfl
   refine zL (di3.push qe hxk pa) ?_; intro di4 pb4
   w_fin
   refine ⟨_, Nat.le_of_lt (hn ▸ dm_push hxk qe), nm3, sn3 ++ [x], (x, 0) :: stk, (mw, it) :: ms, rd, cnt3, rfl, da.push (x := x) (mw := mw) (it := it) (fun b o e h1 h2 h3 h4 => ?_) ?_ ?_ ⟨ep', ?_⟩ ⟨fun k' => Pd3 k' || decide (k' = x), fun k => ?_, ?_⟩ ?_ ?_ (no4 _ hmw) (no4 _ hit) hne, di4, pb4, ?_, fun z hz => List.mem_append_left _ (sub z hz)⟩
   ·exact (if_neg h1).trans ((if_neg h3).trans (kp6 _ _ h2 (kp5 _ _ (kp4 b o e h1 h2 h3 h4))))
   ·show upd _ T _ T = _
    rw [zA, List.reverse_cons, List.map_append]; rfl
   ·refine (if_neg (Ne.symm hTI)).trans ((if_neg hID).trans (hI6.trans ?_))
    rw [List.reverse_cons, List.map_append]; rfl
   ·refine (if_neg (Ne.symm hTD)).trans ?_
    rw [← hst]; exact zA
   ·show (Pd3 k || decide (k = x)) = _
    rw [hPd3]
    by_cases h1 : k ∈ sn3 <;> by_cases h2 : k = x <;> simp [h1, h2]
   ·refine (if_neg (Ne.symm hTE)).trans ((if_neg (Ne.symm hDE)).trans (kp6 _ _ (Ne.symm hIE) (hE5.trans ?_)))
    rw [List.length_append]; rfl
   ·have n0 := no4 _ hmw
    have nn : ∀ z o, σ3 z = some o -> mw ≠ z := fun z o e q => by rw [← q, n0] at e; exact Mine.ns e
    exact (if_neg (nn _ _ da.hT)).trans ((if_neg (nn _ _ hD3)).trans (kp6 _ _ (nn _ _ da.hI) hmw5))
   ·have n0 := no4 _ hit
    have nn : ∀ z o, σ3 z = some o -> it ≠ z := fun z o e q => by rw [← q, n0] at e; exact Mine.ns e
    exact (if_neg (nn _ _ da.hT)).trans ((if_neg (nn _ _ hD3)).trans (kp6 _ _ (nn _ _ da.hI) hit5))
   rcases hx0' with h | h
   ·exact List.mem_append_left _ h
   rw [h]; simp
  cases f with
  | brk => exact hf.elim
  | cont => exact hf.elim
  | ret v =>
   refine zk hf ?_; (try clear hf); intro q R rfl_23 hq hqk hR hk hl; subst rfl_23
   exact ⟨⟨sm, S4.σ⟩, ⟨fun _ _ e => e, fun b o e => e⟩, h2 q R _ hq hqk hR hk hl⟩
  | next =>
   refine zB hf ?_; (try clear hf); intro m hm hB
   refine WXsF_cons ?_
   refine WXF_While (fun k S' => k ≤ n /\ StB kv A G σ0 T I E D sn xb k S') m ⟨hm, hB⟩ fun k S5 q_ => ?_
   refine el_AAEEEEEAAAAA q_ ?_; clear q_; intro hk nm5 sn5 stk5 ms5 r5 cnt5 hna d5 di5 pb5 hx05 sub5
   obtain ⟨m5, σ5⟩ := S5
   have nm5 : Nm m5 A.D T I E D := nm5
   have d5 : DS kv A σ0 T I E D sn5 stk5 ms5 σ5 := d5
   obtain ⟨n1, n2, n3, n4, n5⟩ := id nm5
   have hlen := zd di5.nd (fun z hz => di5.sk z (di5.ss z hz))
   rw [List.length_map] at hlen
   w_fin
   refine WTr_list d5.hT (by rw [List.length_map, List.length_reverse, List.length_map]; lia) ?_
   cases stk5 with
   | nil =>
    obtain rfl : ms5 = [] := List.length_eq_zero_iff.mp d5.len
    first | refine zS (by simp) ?_ | rw [if_neg (by simp)]
    w_fin
    refine ⟨nm5, sn5, r5, cnt5, d5, di5, fun j z hj hz => ?_⟩
    rcases Nat.lt_succ_iff_lt_or_eq.mp hj with hj | rfl
    ·exact sub5 z (old j z hj hz)
    rw [hx0] at hz; (replace hz := Option.some.inj hz; subst hz); exact hx05
   | cons yp stk5 =>
    obtain ⟨y, p⟩ := yp
    obtain ⟨⟨mw, it⟩, ms5, rfl⟩ : ∃ m ms', ms5 = m :: ms' := by
     cases ms5 with
     | nil => exact d5.its.elim
     | cons m ms' => exact ⟨m, ms', rfl⟩
    first | refine zR (by simp) ?_ | rw [if_pos (by simp)]
    have hI5 := d5.hI
    have hTa := d5.hT
    rw [List.reverse_cons, List.map_append] at hI5
    rw [List.map_cons, List.reverse_cons, List.map_append] at hTa
    refine el_AA d5.its ?_; intro its1 its2 its3
    have hms := d5.len
    rw [List.length_cons, List.length_cons] at hms
    have hyk : y ∈ G.ks := di5.sk y (di5.ss y (by rw [List.map_cons]; exact .head _))
    refine zp ?_
    intro Q_
    refine WXF_TryNext hs hx (by kernel_rfl) (by kernel_rfl) (by rw [hK]; kernel_rfl) (fun _ => rfl) ?_
    w_fin
    refine WSub_neg (S := ⟨m5, σ5⟩) (k := -1) (x := .ref mw) hI5 (by decide) (by rw [List.length_append, List.length_map]; simp; lia) (by decide) (by
     rw [List.length_append, List.length_map, List.length_reverse]
     show (_ ++ [Value.ref mw])[(-1 + ((ms5.length + 1 : Nat) : Int)).toNat]? = _
     rw [show (-1 + ((ms5.length + 1 : Nat) : Int)).toNat = (List.map (fun m : Addr × Addr => Value.ref m.1) ms5.reverse).length by rw [List.length_map, List.length_reverse]; lia]
     simp) ?_
    refine ⟨mw, it, _, _, rfl, its1, its2, _, (d5.srt s).s.sl y hyk, fun v hv => ?_, fun hv => ?_⟩
    ·rw [List.getElem?_map, Option.map_eq_some_iff] at hv
     refine zB hv ?_; (try clear hv); intro w hw rfl_22; subst rfl_22
     refine zL (di5.adv pb5 hw) ?_; intro di6 pa6
     refine WXsF_nil ?_
     exact ⟨_, Nat.lt_of_lt_of_le (hna ▸ dm_adv (List.getElem?_eq_some_iff.mp hw).1) hk, nm5.set _, sn5, (y, p + 1) :: stk5, (mw, it) :: ms5, r5, cnt5, w, rfl, by walk_at "l", s.s.clo y hyk w (List.mem_of_getElem? hw), d5.adv, di6, pa6, .inl hx05, sub5⟩
    rw [List.getElem?_map, Option.map_eq_none_iff] at hv
    refine zL (di5.pop pb5 hv) ?_; intro di6 pb6
    refine zI d5.hD ?_; intro ep5 hD5
    have nit : ∀ {b o}, σ5 b = some o -> (∀ P, o ≠ .raw P) -> upd σ5 it (.raw fun _ => True) b = some o := fun h hn => (if_neg (zF h its2 (hn _))).trans h
    have nd := di5.nd
    rw [List.map_cons, List.nodup_cons] at nd
    have hTI := d5.TI
    have hTD : T ≠ D := zF d5.hT hD5 (fun e => by exact (nomatch e))
    have hID : I ≠ D := zF d5.hI hD5 (fun e => by exact (nomatch e))
    rw [List.length_cons] at hlen
    refine WXsM_pops K (fun _ => rfl) (fun _ => rfl) (fun _ => rfl) (by rw [hs]; kernel_rfl) (by rw [hs]; kernel_rfl) (by rw [hs]; kernel_rfl) n5 n2 n3 (nit hD5 (fun _ e => by exact (nomatch e))) (nit hTa (fun _ e => by exact (nomatch e))) (nit hI5 (fun _ e => by exact (nomatch e))) hTI
     (by rw [nk_len, List.length_map, List.length_cons, sizeLine_eq]; exact om23 ‹_› (Nat.le_trans ‹_› (by decide))) (by rw [List.length_map, List.length_reverse, List.length_map, sizeLine_eq]; omega) (by rw [List.length_map, List.length_reverse, sizeLine_eq]; lia) (by rw [nk_has, List.map_cons]; simp) fun ep' => ?_
    refine WXsF_nil ?_
    refine ⟨_, hna ▸ dm_pop, Nat.le_trans (Nat.le_of_lt (hna ▸ dm_pop)) hk, nm5, sn5, stk5, ms5, _, _, rfl, d5.pop (fun b o e h1 h2 h3 h4 => ?_) ?_ ?_ ⟨ep', ?_⟩, di6, pb6, hx05, sub5⟩
    ·exact (if_neg h2).trans ((if_neg h3).trans ((if_neg h1).trans ((if_neg h4).trans e)))
    ·exact (if_neg hTI).trans ((if_neg hTD).trans zA)
    ·exact zA
    refine (if_neg (Ne.symm hID)).trans (zA.trans ?_)
    rw [List.map_cons, nk_without nd.1]
 refine el_AEEEAA q_ ?_; clear q_; intro nm sn r cnt d di old
 obtain ⟨mc, σ2⟩ := S2
 have d : DS kv A σ0 T I E D sn [] [] σ2 := d
 w_fin
 refine ⟨⟨sm, _⟩, ⟨fun _ _ e => e, fun b o e => e⟩, h1 r _ (fun k hk w hw => ?_) d.keep⟩
 refine zI (List.getElem?_of_mem hk) ?_; intro j hj
 have hjl : j < (List.map (fun p => kv p.1) (List.map (fun k => (k, Value.ref (A.info k))) G.ks)).length := by
  rw [List.length_map, List.length_map]; exact (List.getElem?_eq_some_iff.mp hj).1
 exact (di.fin k ⟨old j k hjl hj, (fun h => nomatch h)⟩ w hw).2
end
end
section
variable {P : Params}
section
variable {kv : Str -> Value} {A : SA Str} {G : SG Str} {fr : Addr -> Option (AO Str)} {k : Str} {l : List Str}
theorem fn_prepare (hK : g.K = hd.heap_1 P) : FnIs g.K 113 (bodyOf P 113) (fdOf P 113).scope (fdOf P 113) :=
 fnIs ⟨_, _, _, rfl⟩ (by kernel_rfl) rfl rfl rfl rfl hK
theorem so_prepare : scopeOk (fdOf P 113).scope = true := by kernel_rfl
noncomputable def SG.prep (G : SG Str) : SG Str := { G with ready := some (G.ks.filter fun k => decide (G.np k = 0)) }
theorem W_prepare (hK : g.K = hd.heap_1 P) (hd : c.Deep 2) (K : KeyOk g kv) (s : SrtF 158 61 kv A G a fr S.σ) (hr : G.ready = none) (hz : G.ks.length ≤ 1000) (hno : ∀ q, IsRing G.su q -> False)
  (h1 : ∀ (r : Str -> Nat) A' σ', (∀ k ∈ G.ks, ∀ w ∈ G.su k, r w < r k) -> SrtF 158 61 kv A' G.prep a fr σ' -> Q .none ⟨S.m, σ'⟩) : WCX g c .none (.ref 113) [.ref a] S Q fun _ => False := by
 refine WCX.drop (WCX.ofD (WDX_def (n := 1) hd (fn_prepare hK) so_prepare (B := [(ofString "self", .ref a)]) (fun us hu => ?_) (by kernel_rfl) fun c' hs hx hd' => ?_))
 ·(refine zB (z3 hu) ?_; intro u rfl_30 hu'; subst rfl_30)
  exact ⟨[(ofString "self", u)], by kernel_rfl, by simp [hu']⟩
 refine WXsX.of ?_
 show WXsF g c' (_ :: _) ⟨setv (fun _ => none) (ofString "self") (.ref a), S.σ⟩ _
 obtain ⟨sm, σ0⟩ := S
 have s : SrtF 158 61 kv A G a fr σ0 := s
 w_fin
 refine G_rdy (S := ⟨_, σ0⟩) hK s ?_
 rw [show rdyV A G = .none by unfold rdyV; rw [hr]]
 w_fin
 rw [show (!(Value.none == Value.none)) = false from rfl]
 w_fin
 refine WE_Comp (fun _ _ => rfl) hs (by kernel_rfl) (by kernel_rfl) (by kernel_rfl) ?_
 w_fin
 refine G_n2i (S := ⟨_, σ0⟩) hK s ?_
 refine zI s.s.dict ?_; intro ep hD
 refine WGM_dict (S := ⟨_, σ0⟩) (kvs := _) PySem.F.slot_dict_values PySem.F.type_dict_values hD ?_
 w_fin
 refine WC_values (S := ⟨_, σ0⟩) hD s.s.lo fun r hr0 => ?_
 have s1 := s.new (o := valsO A.D) hr0
 have hra : upd σ0 r (valsO A.D) r = _ := zA
 have hD1 := zC (o := valsO A.D) hr0 _ _ hD
 show CompPost g c' _ _ _ _ _ _ _ ⟨setv (fun _ => none) (ofString "self") (.ref a), upd σ0 r (valsO A.D)⟩
 generalize upd σ0 r (valsO A.D) = σ1 at *
 have accLen : ∀ i, (((G.ks.take i).filter fun k => decide (G.np k = 0)).map kv).length ≤ i := fun i => by
  rw [List.length_map]
  exact Nat.le_trans (List.length_filter_le _ _) (by rw [List.length_take]; exact Nat.min_le_left _ _)
 let Inv_1 : Nat -> List Value -> St Str -> Prop := fun i acc S' => S'.σ = σ1 /\ acc = ((G.ks.take i).filter fun k => decide (G.np k = 0)).map kv
 refine ⟨_, _, iter_vals hra hD1, Inv_1, ⟨rfl, rfl⟩, fun i acc S2 ⟨e, ea⟩ => ⟨by rw [e]; exact hD1, by rw [ea]; exact accLen i⟩, by rw [List.length_map, List.length_map, sizeLine_eq]; exact Nat.le_trans ‹_› (by decide), fun c2 hsa hx2 hd2 i y acc S2 hy q_ => ?_, fun acc S2 ⟨e, ea⟩ R hR => ?_⟩
 ·(refine zL q_ ?_; clear q_; intro e ea)
  rw [List.getElem?_map, List.getElem?_map, Option.map_map, Option.map_eq_some_iff] at hy
  refine zB hy ?_; (try clear hy); intro k hk rfl_29; subst rfl_29
  have hkk : k ∈ G.ks := List.mem_of_getElem? hk
  obtain ⟨mc, σ2⟩ := S2
  obtain rfl : σ2 = σ1 := e
  show WIfs g c2 _ ⟨setv mc _ (.ref (A.info k)), σ2⟩ _
  w_fin
  refine G_slot (S := ⟨_, σ2⟩) hK s1 hkk (i := 1) (by kernel_rfl) rfl rfl ?_
  w_fin
  have hsucc : (((G.ks.take (i + 1)).filter fun k => decide (G.np k = 0)).map kv) = ((G.ks.take i).filter fun k => decide (G.np k = 0)).map kv ++ (if G.np k = 0 then [kv k] else []) := by
   rw [List.take_add_one, hk, Option.toList, List.filter_append, List.map_append, List.filter_cons]
   by_cases q : G.np k = 0
   ·rw [if_pos q, if_pos (by simpa using q)]; rfl
   rw [if_neg q, if_neg (by simpa using q)]; rfl
  by_cases q : G.np k = 0
  ·first | refine zR (by rw [q]; rfl) ?_ | rw [if_pos (by rw [q]; rfl)]
   w_fin
   refine G_slot (S := ⟨_, σ2⟩) hK s1 hkk (i := 0) (by kernel_rfl) rfl (K.hand k) ?_
   exact ⟨rfl, by rw [hsucc, if_pos q, ea]⟩
  first | refine zS (by simpa using q) ?_ | rw [if_neg (by simpa using q)]
  exact ⟨rfl, by rw [hsucc, if_neg q, ea, List.append_nil]⟩
 obtain ⟨mc, σ2⟩ := S2
 obtain rfl : σ2 = σ1 := e
 have hR : σ2 R = none := hR
 have hacc : acc = (G.ks.filter fun k => decide (G.np k = 0)).map kv := by
  rw [ea, List.take_of_length_le (by rw [List.length_map, List.length_map]; exact Nat.le_refl _)]
 subst hacc
 have s2 := s1.new (o := .list ((G.ks.filter fun k => decide (G.np k = 0)).map kv)) hR
 have hR2 : upd σ2 R (.list ((G.ks.filter fun k => decide (G.np k = 0)).map kv)) R = _ := zA
 w_fin
 refine zB s2.s.ns ?_; intro m n1 n2
 refine WSet_own (k' := 4) (setsA hK (by kernel_rfl)) s2.s.inst n1 (by decide) (.inr ⟨rfl, by rw [show m (ofString "_ready_nodes") = _ from n2.rdy]; rfl⟩) ?_
 have s3 := s2.setNs (A' := { A with R := R }) (G' := G.prep) (m := setv m n_rdy (.ref R)) (n2.setRdy (A' := { A with R := R }) (G' := G.prep) rfl rfl rfl) rfl rfl rfl rfl (fun l hl => by
  (replace hl := Option.some.inj hl; subst hl)
  refine ⟨hR2, fun k hk e => ?_, fun w hw => (List.mem_filter.mp hw).1, fun o e => ?_⟩
  ·have := s1.s.sl k hk
   rw [e, hR] at this; exact Mine.ns this
  ·have := s1.keep _ o e
   rw [hR] at this; exact Mine.ns this)
 show WXsF g c' (_ :: _) ⟨_, upd (upd σ2 R (.list ((G.ks.filter fun k => decide (G.np k = 0)).map kv))) A.d (.ns (setv m n_rdy (.ref R)) 4)⟩ _
 generalize upd (upd σ2 R (.list ((G.ks.filter fun k => decide (G.np k = 0)).map kv))) A.d (.ns (setv m n_rdy (.ref R)) 4) = σ3 at *
 have hK3 := G.prep.ks
 refine WXsF_cons (WXF_AssignName (fun _ => rfl) (WEF_Meth (fun _ => rfl) rfl ?_))
 w_fin
 refine M_find_cycle (S := ⟨_, σ3⟩) hK s3 ?_
 refine ⟨by rw [hK]; kernel_rfl, W_find_cycle (S := ⟨_, σ3⟩) hK hd' K s3 hz (fun r σ4 hrk kp => ?_) fun q R' σ4 hq hqk hR' kp hl => ?_⟩
 ·have s4 : SrtF 158 61 kv _ G.prep a fr σ4 := s3.ext fun b o e _ => kp b o e
  w_fin
  exact ⟨⟨sm, σ4⟩, ⟨fun _ _ e => e, fun b o e => e⟩, h1 r _ _ hrk s4⟩
 exact (hno q hq).elim
end
end
noncomputable def DoneOk : List Str -> SG Str -> Prop
 | [], _ => True
 | k :: l, G => k ∈ G.ks /\ G.np k = -1 /\ (∃ r, G.ready = some r /\ r.length + (G.su k).length ≤ 10000) /\ DoneOk l (G.done k)
noncomputable def SG.round (G : SG Str) (l : List Str) : SG Str := l.foldl SG.done (G.getReady l)
noncomputable def Runs : List (List Str) -> SG Str -> Prop
 | [], G => G.ready = some [] /\ G.nf = G.po
 | l :: ls, G => G.ready = some l /\ l ≠ [] /\ l.length ≤ 10000 /\ G.nf = G.po /\ DoneOk l (G.getReady l) /\ Runs ls (G.round l)
theorem DoneOk.at {G : SG Str} : ∀ {l : List Str} {i : Nat} {k : Str}, DoneOk l G -> l[i]? = some k -> k ∈ ((l.take i).foldl SG.done G).ks /\ ((l.take i).foldl SG.done G).np k = -1 /\ ∃ r, ((l.take i).foldl SG.done G).ready = some r /\ r.length + (((l.take i).foldl SG.done G).su k).length ≤ 10000 := by
 intro l
 induction l generalizing G with
 | nil => intro i k _ h; exact Mine.ns h
 | cons x l ih =>
  intro i k ⟨h1, h2, h3, h4⟩ h
  cases i with
  | zero => (replace h := Option.some.inj h; subst h); exact ⟨h1, h2, h3⟩
  | succ i => exact ih h4 h
structure Led2 (N : List Str) (es : List (Str × Str)) (G : SG Str) : Prop where
 ks : G.ks = N
 su : ∀ k, G.su k = (es.filter fun e => decide (e.1 = k)).map (·.2)
 np : ∀ k, G.np k = ((es.filter fun e => decide (e.2 = k)).length : Int)
 ready : G.ready = none
 po : G.po = 0
 nf : G.nf = 0
theorem Led2.nil : Led2 [] [] (SG.nil : SG Str) := ⟨rfl, fun _ => rfl, fun _ => rfl, rfl, rfl, rfl⟩
theorem Led2.node {N : List Str} {G : SG Str} (h : Led2 N [] G) {k : Str} (hk : k ∉ N) : Led2 (N ++ [k]) [] (G.add k []) := by
 have e : G.add k [] = { G with ks := G.ks ++ [k], np := fun j => if j = k then (0 + (0 : Int)) else (if j = k then 0 else G.np j), su := fun j => if j = k then [] else G.su j } := by
  unfold SG.add SG.add0 SG.setNp SG.addNode
  rw [if_neg (by rw [h.ks]; exact hk)]
  simp
 rw [e]
 refine ⟨by show G.ks ++ [k] = _; rw [h.ks], fun j => ?_, fun j => ?_, h.ready, h.po, h.nf⟩
 ·show (if j = k then [] else G.su j) = _
  split
  ·rfl
  exact h.su j
 show (if j = k then (0 + (0 : Int)) else (if j = k then 0 else G.np j)) = _
 split
 ·rfl
 exact h.np j
theorem Led2.edge {N : List Str} {es : List (Str × Str)} {G : SG Str} (h : Led2 N es G) {p k : Str} (hp : p ∈ N) (hk : k ∈ N) : Led2 N (es ++ [(p, k)]) (G.add k [p]) := by
 have n1 : ∀ {x : Str} {G' : SG Str}, G'.ks = N -> x ∈ N -> G'.addNode x = G' := fun e hx => by
  unfold SG.addNode; rw [if_pos (by rw [e]; exact hx)]
 have e0 : G.add0 k ([p] : List Str).length = G.setNp k (G.np k + 1) := by
  unfold SG.add0; rw [n1 h.ks hk]; rfl
 have e : G.add k [p] = ((G.setNp k (G.np k + 1)).pushSu p k) := by
  show ((G.add0 k ([p] : List Str).length).addNode p).pushSu p k = _
  rw [e0, n1 (by show G.ks = N; exact h.ks) hp]
 rw [e]
 refine ⟨h.ks, fun j => ?_, fun j => ?_, h.ready, h.po, h.nf⟩
 ·show (if j = p then G.su p ++ [k] else G.su j) = _
  rw [List.filter_append, List.map_append, h.su, h.su]
  split
  ·rename_i q; subst q; simp
  rename_i q
  have : p ≠ j := fun e => q e.symm
  simp [this]
 show (if j = k then G.np k + 1 else G.np j) = _
 rw [List.filter_append, List.length_append, h.np, h.np]
 split
 ·rename_i q; subst q; simp
 rename_i q
 have : k ≠ j := fun e => q e.symm
 simp [this]
theorem Led2.suLen {N : List Str} {es : List (Str × Str)} {G : SG Str} (h : Led2 N es G) (k : Str) : (G.su k).length ≤ es.length := by
 rw [h.su, List.length_map]; exact List.length_filter_le _ _
theorem Led2.suMem {N : List Str} {es : List (Str × Str)} {G : SG Str} (h : Led2 N es G) {k w : Str} : w ∈ G.su k ↔ (k, w) ∈ es := by
 rw [h.su]
 constructor
 ·intro q
  obtain ⟨⟨x, y⟩, h1, rfl⟩ := List.mem_map.mp q
  obtain ⟨h1, h2⟩ := List.mem_filter.mp h1
  rw [← of_decide_eq_true h2]; exact h1
 intro q
 exact List.mem_map.mpr ⟨(k, w), List.mem_filter.mpr ⟨q, decide_eq_true rfl⟩, rfl⟩
noncomputable def SG.nodes (N : List Str) : SG Str := N.foldl (fun G k => G.add k []) SG.nil
noncomputable def SG.edges (G : SG Str) (es : List (Str × Str)) : SG Str := es.foldl (fun G e => G.add e.2 [e.1]) G
theorem SG.nodes_take {N : List Str} {i : Nat} {k : Str} (h : N[i]? = some k) : SG.nodes (N.take (i + 1)) = (SG.nodes (N.take i)).add k [] := by
 rw [List.take_add_one, h]; unfold SG.nodes; rw [List.foldl_append]; rfl
theorem SG.edges_snoc (G : SG Str) (es : List (Str × Str)) (e : Str × Str) : G.edges (es ++ [e]) = (G.edges es).add e.2 [e.1] := by
 unfold SG.edges; rw [List.foldl_append]; rfl
theorem nodes_ok : ∀ N : List Str, N.Nodup -> Led2 N [] (SG.nodes N) := by
 have gen : ∀ (l acc : List Str) (G : SG Str), (acc ++ l).Nodup -> Led2 acc [] G -> Led2 (acc ++ l) [] (l.foldl (fun G k => G.add k []) G) := by
  intro l
  induction l with
  | nil => intro acc G _ h; rw [List.append_nil]; exact h
  | cons k l ih =>
   intro acc G hn h
   rw [List.foldl_cons]
   have e : acc ++ k :: l = (acc ++ [k]) ++ l := by simp
   rw [e] at hn ⊢
   refine ih _ _ hn (h.node fun hk => ?_)
   rw [List.nodup_append] at hn
   have := (List.nodup_append.mp hn.1).2.2 k hk k (by simp)
   exact this rfl
 exact fun N hn => gen N [] SG.nil hn .nil
theorem edges_ok {N : List Str} {G : SG Str} (h : Led2 N [] G) : ∀ es : List (Str × Str), (∀ e ∈ es, e.1 ∈ N /\ e.2 ∈ N) -> Led2 N es (G.edges es) := by
 have gen : ∀ (l acc : List (Str × Str)) (G : SG Str), (∀ e ∈ l, e.1 ∈ N /\ e.2 ∈ N) -> Led2 N acc G -> Led2 N (acc ++ l) (l.foldl (fun G e => G.add e.2 [e.1]) G) := by
  intro l
  induction l with
  | nil => intro acc G _ h; rw [List.append_nil]; exact h
  | cons e l ih =>
   intro acc G hl h
   rw [List.foldl_cons, show acc ++ e :: l = (acc ++ [e]) ++ l by simp]
   exact ih _ _ (fun x hx => hl x (.tail _ hx)) (h.edge (hl e (.head _)).1 (hl e (.head _)).2)
 exact fun es he => gen es [] G he h
section
variable {succ pred : Str -> Option Str}
noncomputable def npAt (pred : Str -> Option Str) (D la lb : List Str) (x : Str) : Int := if x ∈ D ∨ x ∈ la then -2 else if x ∈ lb then -1 else match pred x with | some p => if p ∈ D ∨ p ∈ la then 0 else 1 | none => 0
structure DInv (succ pred : Str -> Option Str) (K : List Str) (n po : Int) (G : SG Str) (D la lb : List Str) : Prop where
 ks : G.ks = K
 su : ∀ k, G.su k = (succ k).toList
 np : ∀ x, G.np x = npAt pred D la lb x
 ready : G.ready = some (la.filterMap succ)
 nf : G.nf = n + la.length
 po : G.po = po
theorem DInv.step {K : List Str} {n po : Int} {G : SG Str} {D la lb : List Str} {k : Str} (I : DInv succ pred K n po G D la (k :: lb)) (hsp : ∀ k w, succ k = some w ↔ pred w = some k) (nd : (la ++ k :: lb).Nodup) (dis : k ∉ D) (dp : ∀ x ∈ D, ∀ p, pred x = some p -> p ∈ D)
  (rp : ∀ x ∈ la ++ k :: lb, ∀ p, pred x = some p -> p ∈ D) : G.np k = -1 /\ DInv succ pred K n po (G.done k) D (la ++ [k]) lb := by
 obtain ⟨n1, n2, n3⟩ := List.nodup_append.mp nd
 have k1 : k ∉ la := fun h => n3 k h k (.head _) rfl
 have k2 : k ∉ lb := (List.nodup_cons.mp n2).1
 have hk : G.np k = -1 := by
  rw [I.np]; unfold npAt
  rw [if_neg (fun h => h.elim dis k1), if_pos (.head _)]
 refine ⟨hk, ?_⟩
 have base : ∀ x, x ≠ k -> pred x ≠ some k -> npAt pred D (la ++ [k]) lb x = npAt pred D la (k :: lb) x := fun x hx hp => by
  unfold npAt
  have e1 : (x ∈ D ∨ x ∈ la ++ [k]) ↔ (x ∈ D ∨ x ∈ la) := by simp [hx]
  have e2 : (x ∈ k :: lb) ↔ x ∈ lb := by simp [hx]
  simp only [e1, e2]
  cases q : pred x with
  | none => rfl
  | some p =>
   have hpk : p ≠ k := fun e => hp (by rw [q, e])
   have e3 : (p ∈ D ∨ p ∈ la ++ [k]) ↔ (p ∈ D ∨ p ∈ la) := by simp [hpk]
   simp only [e3]
 have atk : npAt pred D (la ++ [k]) lb k = -2 := by unfold npAt; rw [if_pos (.inr (by simp))]
 cases hs : succ k with
 | none =>
  have e : G.done k = { G.setNp k (-2) with nf := G.nf + 1 } := by
   unfold SG.done SG.decs
   rw [I.su, hs]; rfl
  rw [e]
  refine ⟨I.ks, I.su, fun x => ?_, ?_, ?_, I.po⟩
  ·show (if x = k then -2 else G.np x) = _
   split
   ·rename_i q; rw [q, atk]
   rename_i q
   rw [base x q fun h => by rw [← hsp, hs] at h; exact (nomatch h), I.np]
  ·show G.ready = _
   rw [I.ready, List.filterMap_append, List.filterMap_cons, hs, List.filterMap_nil, List.append_nil]
  show G.nf + 1 = _
  rw [I.nf, List.length_append]; simp; lia
 | some w =>
  have hw : pred w = some k := (hsp k w).mp hs
  have w1 : w ∉ la ++ k :: lb := fun h => dis (rp w h k hw)
  have w2 : w ∉ D := fun h => dis (dp w h k hw)
  have wk : w ≠ k := fun e => w1 (by rw [e]; simp)
  have wl1 : w ∉ la := fun h => w1 (List.mem_append_left _ h)
  have wl2 : w ∉ k :: lb := fun h => w1 (List.mem_append_right _ h)
  have nw : G.np w = 1 := by
   rw [I.np]; unfold npAt
   rw [if_neg (fun h => h.elim w2 wl1), if_neg wl2, hw]
   show (if k ∈ D ∨ k ∈ la then (0 : Int) else 1) = 1
   rw [if_neg (fun h => h.elim dis k1)]
  have e : G.done k = { G with np := fun j => if j = w then 0 else if j = k then -2 else G.np j, ready := some (la.filterMap succ ++ [w]), nf := G.nf + 1 } := by
   unfold SG.done SG.decs
   rw [I.su, hs]
   show { ((G.setNp k (-2)).dec w) with nf := G.nf + 1 } = _
   unfold SG.dec
   have e1 : (G.setNp k (-2)).np w = 1 := by
    show (if w = k then -2 else G.np w) = 1
    rw [if_neg wk, nw]
   rw [e1]
   have e2 : (G.setNp k (-2)).ready = some (la.filterMap succ) := I.ready
   simp only [e2]
   rfl
  rw [e]
  refine ⟨I.ks, I.su, fun x => ?_, ?_, ?_, I.po⟩
  ·show (if x = w then 0 else if x = k then -2 else G.np x) = _
   split
   ·rename_i q; subst q
    unfold npAt
    rw [if_neg (by simp [w2, wl1, wk]), if_neg (show ¬ x ∈ lb from fun h => wl2 (.tail _ h)), hw]
    show (0 : Int) = if k ∈ D ∨ k ∈ la ++ [k] then 0 else 1
    rw [if_pos (.inr (by simp))]
   rename_i qw
   split
   ·rename_i q; rw [q, atk]
   rename_i q
   rw [base x q fun h => by rw [← hsp, hs] at h; exact qw (Option.some.inj h).symm, I.np]
  ·show some (la.filterMap succ ++ [w]) = _
   rw [List.filterMap_append, List.filterMap_cons, hs, List.filterMap_nil]
  show G.nf + 1 = _
  rw [I.nf, List.length_append]; simp; lia
theorem DInv.all {K : List Str} {n po : Int} (hsp : ∀ k w, succ k = some w ↔ pred w = some k) {D R : List Str} (nd : R.Nodup) (dis : ∀ k ∈ R, k ∉ D) (dp : ∀ x ∈ D, ∀ p, pred x = some p -> p ∈ D)
  (rp : ∀ x ∈ R, ∀ p, pred x = some p -> p ∈ D) (hK : ∀ x ∈ R, x ∈ K) (hz : R.length ≤ 1000) : ∀ (lb la : List Str) (G : SG Str), R = la ++ lb -> DInv succ pred K n po G D la lb -> DoneOk lb G /\ DInv succ pred K n po (lb.foldl SG.done G) D R []
 | [], la, G, e, I => by
  rw [List.append_nil] at e; subst e
  exact ⟨trivial, I⟩
 | k :: lb, la, G, e, I => by
  subst e
  have hkm : k ∈ la ++ k :: lb := by simp
  obtain ⟨h1, I'⟩ := I.step hsp nd (dis k hkm) dp rp
  obtain ⟨h2, h3⟩ := DInv.all hsp nd dis dp rp hK hz lb (la ++ [k]) (G.done k) (by simp) I'
  refine ⟨⟨by rw [I.ks]; exact hK k hkm, h1, ⟨_, I.ready, ?_⟩, h2⟩, h3⟩
  have a1 := List.length_filterMap_le succ la
  have a2 : la.length ≤ 1000 := by rw [List.length_append] at hz; lia
  have a3 : (G.su k).length ≤ 1 := by rw [I.su]; cases succ k <;> simp
  lia
structure KInv (succ pred : Str -> Option Str) (K : List Str) (G : SG Str) (D R : List Str) : Prop where
 ks : G.ks = K
 su : ∀ k, G.su k = (succ k).toList
 np : ∀ x, G.np x = npAt pred D [] [] x
 ready : G.ready = some R
 po : G.nf = G.po
 nd : R.Nodup
 dis : ∀ k ∈ R, k ∉ D
 dp : ∀ x ∈ D, ∀ p, pred x = some p -> p ∈ D
 rp : ∀ x ∈ R, ∀ p, pred x = some p -> p ∈ D
 sub : ∀ x ∈ R, x ∈ K
 ln : R.length ≤ 1000
theorem outs_np (l : List Str) : ∀ (G : SG Str) (x : Str), (G.outs l).np x = if x ∈ l then -1 else G.np x := by
 unfold SG.outs
 induction l with
 | nil => intro G x; rfl
 | cons k l ih =>
  intro G x
  rw [List.foldl_cons, ih]
  show (if x ∈ l then -1 else if x = k then -1 else G.np x) = _
  by_cases h1 : x ∈ l
  ·rw [if_pos h1, if_pos (.tail _ h1)]
  rw [if_neg h1]
  by_cases h2 : x = k
  ·rw [if_pos h2, if_pos (by rw [h2]; exact .head _)]
  rw [if_neg h2, if_neg (by simp [h1, h2])]
theorem outs_same (l : List Str) : ∀ G : SG Str, (G.outs l).ks = G.ks /\ (G.outs l).su = G.su /\ (G.outs l).nf = G.nf := by
 unfold SG.outs
 induction l with
 | nil => intro G; exact ⟨rfl, rfl, rfl⟩
 | cons k l ih => intro G; rw [List.foldl_cons]; exact ih _
theorem KInv.step {K : List Str} {G : SG Str} {D R : List Str} (I : KInv succ pred K G D R) (hsp : ∀ k w, succ k = some w ↔ pred w = some k) (hsK : ∀ k w, succ k = some w -> w ∈ K) :
  DoneOk R (G.getReady R) /\ KInv succ pred K (G.round R) (D ++ R) (R.filterMap succ) := by
 obtain ⟨o1, o2, o3⟩ := outs_same R G
 have I0 : DInv succ pred K G.nf (G.po + R.length) (G.getReady R) D [] R := by
  refine ⟨o1.trans I.ks, fun k => ?_, fun x => ?_, rfl, ?_, rfl⟩
  ·show (G.outs R).su k = _
   rw [o2]; exact I.su k
  ·show (G.outs R).np x = _
   rw [outs_np, I.np]
   unfold npAt
   by_cases h : x ∈ R
   ·rw [if_pos h, if_neg (by simp [I.dis x h]), if_pos h]
   rw [if_neg h]
   by_cases h2 : x ∈ D ∨ x ∈ ([] : List Str)
   ·rw [if_pos h2, if_pos h2]
   rw [if_neg h2, if_neg h2, if_neg (by simp), if_neg h]
  show (G.outs R).nf = _
  rw [o3]; simp
 obtain ⟨h1, h2⟩ := DInv.all hsp I.nd I.dis I.dp I.rp I.sub I.ln R [] _ rfl I0
 refine ⟨h1, ?_⟩
 have mem' : ∀ x, x ∈ R.filterMap succ -> ∃ p ∈ R, pred x = some p := fun x hx => by
  obtain ⟨p, hp, e⟩ := List.mem_filterMap.mp hx
  exact ⟨p, hp, (hsp p x).mp e⟩
 refine ⟨h2.ks, h2.su, fun x => ?_, h2.ready, ?_, ?_, fun x hx => ?_, fun x hx p hp => ?_, fun x hx p hp => ?_, fun x hx => ?_, ?_⟩
 ·show ((R.foldl SG.done (G.getReady R)).np x) = _
  rw [h2.np]
  unfold npAt
  have e1 : ∀ y, (y ∈ D ++ R ∨ y ∈ ([] : List Str)) ↔ (y ∈ D ∨ y ∈ R) := fun y => by simp
  simp only [e1]
 ·show (R.foldl SG.done (G.getReady R)).nf = (R.foldl SG.done (G.getReady R)).po
  rw [h2.nf, h2.po, I.po]
 ·have gen : ∀ l : List Str, l.Nodup -> (l.filterMap succ).Nodup := fun l => by
   induction l with
   | nil => intro _; exact List.nodup_nil
   | cons k l ih =>
    intro h
    obtain ⟨a, b⟩ := List.nodup_cons.mp h
    rw [List.filterMap_cons]
    cases q : succ k with
    | none => exact ih b
    | some w =>
     refine List.nodup_cons.mpr ⟨fun hw => ?_, ih b⟩
     obtain ⟨k', hk', e'⟩ := List.mem_filterMap.mp hw
     rw [hsp] at e' q
     rw [q] at e'
     exact a (Option.some.inj e' ▸ hk')
  exact gen R I.nd
 ·obtain ⟨p, hp, e⟩ := mem' x hx
  rw [List.mem_append]
  rintro (h | h)
  ·exact I.dis p hp (I.dp x h p e)
  exact I.dis p hp (I.rp x h p e)
 ·rcases List.mem_append.mp hx with h | h
  ·exact List.mem_append_left _ (I.dp x h p hp)
  exact List.mem_append_left _ (I.rp x h p hp)
 ·obtain ⟨p', hp', e⟩ := mem' x hx
  rw [e] at hp
  exact List.mem_append_right _ (Option.some.inj hp ▸ hp')
 ·obtain ⟨p, hp, e⟩ := List.mem_filterMap.mp hx
  exact hsK p x e
 exact Nat.le_trans (List.length_filterMap_le _ _) I.ln
noncomputable def KChain (succ : Str -> Option Str) : List (List Str) -> List Str -> Prop
 | [], R => R = []
 | l :: ls, R => l = R /\ l ≠ [] /\ KChain succ ls (R.filterMap succ)
theorem KInv.runs {K : List Str} (hsp : ∀ k w, succ k = some w ↔ pred w = some k) (hsK : ∀ k w, succ k = some w -> w ∈ K) : ∀ (ls : List (List Str)) (G : SG Str) (D R : List Str), KInv succ pred K G D R -> KChain succ ls R -> Runs ls G
 | [], G, D, R, I, h => by
  have h : R = [] := h
  subst h
  exact ⟨I.ready, I.po⟩
 | l :: ls, G, D, R, I, h => by
  obtain ⟨rfl, h2, h3⟩ := h
  obtain ⟨d, I'⟩ := I.step hsp hsK
  exact ⟨I.ready, h2, Nat.le_trans I.ln (by decide), I.po, d, KInv.runs hsp hsK ls _ _ _ I' h3⟩
theorem led2_runs {N : List Str} {es : List (Str × Str)} {G : SG Str} (h : Led2 N es G) (hN : N.Nodup) (hz : N.length ≤ 1000) (h1 : ∀ k, es.filter (fun e => decide (e.1 = k)) = ((succ k).map fun w => (k, w)).toList) (h2 : ∀ k, es.filter (fun e => decide (e.2 = k)) = ((pred k).map fun p => (p, k)).toList)
  (he : ∀ e ∈ es, e.1 ∈ N /\ e.2 ∈ N) {ls : List (List Str)} (hls : KChain succ ls (N.filter fun x => (pred x).isNone)) : Runs ls G.prep := by
 have es1 : ∀ k w, succ k = some w ↔ (k, w) ∈ es := fun k w => by
  have : (k, w) ∈ es ↔ (k, w) ∈ es.filter fun e => decide (e.1 = k) := by simp
  rw [this, h1]
  cases succ k <;> simp [eq_comm]
 have es2 : ∀ k p, pred k = some p ↔ (p, k) ∈ es := fun k p => by
  have : (p, k) ∈ es ↔ (p, k) ∈ es.filter fun e => decide (e.2 = k) := by simp
  rw [this, h2]
  cases pred k <;> simp [eq_comm]
 have hnp : ∀ x, G.np x = match pred x with | some p => (1 : Int) | none => 0 := fun x => by
  rw [h.np, h2]
  cases pred x <;> rfl
 refine KInv.runs (pred := pred) (K := N) (fun k w => by rw [es1, es2]) (fun k w e => (he _ ((es1 k w).mp e)).2) ls G.prep [] (N.filter fun x => (pred x).isNone) ?_ hls
 refine ⟨h.ks, fun k => ?_, fun x => ?_, ?_, ?_, List.Pairwise.filter _ hN, fun k _ => List.not_mem_nil, (fun _ h => nomatch h), fun x hx p hp => ?_, fun x hx => (List.mem_filter.mp hx).1, ?_⟩
 ·show G.su k = _
  rw [h.su, h1]
  cases succ k <;> rfl
 ·show G.np x = _
  rw [hnp]
  unfold npAt
  rw [if_neg (by simp), if_neg (by simp)]
  cases pred x with
  | none => rfl
  | some p => exact (if_neg (by simp)).symm
 ·show some (G.ks.filter fun k => decide (G.np k = 0)) = _
  rw [h.ks]
  congr 1
  refine List.filter_congr fun x _ => ?_
  rw [hnp]
  cases pred x <;> rfl
 ·show G.nf = G.po
  rw [h.nf, h.po]
 ·have := (List.mem_filter.mp hx).2
  rw [hp] at this; exact nomatch this
 exact Nat.le_trans (List.length_filter_le _ _) hz
end
section
variable {P : Params}
section
variable {z : Str} {A : Around} {env : Env}
theorem fn_iter (hK : g.K = hd.heap_1 P) : FnIs g.K 28 (bodyOf P 28) (fdOf P 28).scope (fdOf P 28) :=
 fnIs ⟨_, _, _, rfl⟩ (by kernel_rfl) rfl rfl rfl rfl hK
theorem sg_iter : scopeGen (fdOf P 28).scope = true := by kernel_rfl
noncomputable def B28 (b : Bool) (S : St Str) : Prop := S.m (ofString "escape") = some (.bool b)
noncomputable def esc28 (z : Str) : Nat -> Bool
 | 0 => false
 | j + 1 => ((giOf z).txt j).length == 2
noncomputable def MOK28 (z : Str) (m : Nat) (S : St Str) : Prop := B28 (esc28 z m) S
theorem start28 (hK : g.K = hd.heap_1 P) (ha : z.cps.all (· < 128) = true) (hz : z.length ≤ 1000) (he92 : escOk z.cps.toList = true) (hs : env.scope = (fdOf P 28).scope) (hd : Ac.Deep ⟨A, env, fun _ => false⟩ 1) :
  GStart g A env (MOK28 z) (giOf z) z (ofString "addr") (bodyOf P 28) := by
 intro H s S R hm
 have ok := R.ac
 refine ⟨rfl, seg1_func fun Hx => ?_⟩
 show Seg1 _ _ _ _ ((execs (_ :: _) env).wrap _ _ _ _) _ _
 have hsF : (⟨A.over (.func (bodyOf P 28) env) [], env, fun _ => false⟩ : Ac).env.scope = (fdOf P 28).scope := hs
 have R1 := R.around (okG_func (body := bodyOf P 28) (env₂ := env) ok hd)
 refine zQ (seg1_plain (wpAny_mono ((WX_AssignN (c := ⟨A.over (.func (bodyOf P 28) env) [], env, fun _ => false⟩) (S := S) (Q := fun f S' => f = .next /\ S' = ⟨setv S.m (ofString "pos") (.int 0 0), S.σ⟩) rfl hsF rfl (by kernel_rfl) (WE_int ⟨rfl, rfl⟩)) H s R1) (fun f s1 q_ => ?_) fun _ _ x => x))
 refine zJ q_ ?_; clear q_; intro S1 R2 hf e
 obtain rfl : f = .next := by cases f <;> first | rfl | exact (nomatch hf)
 subst e
 refine zQ (seg1_plain (wpAny_mono ((WX_AssignN (c := ⟨A.over (.func (bodyOf P 28) env) [], env, fun _ => false⟩) (S := ⟨setv S.m (ofString "pos") (.int 0 0), S.σ⟩) (Q := fun f S' => f = .next /\ S' = ⟨setv (setv S.m (ofString "pos") (.int 0 0)) (ofString "escape") (.bool false), S.σ⟩) rfl hsF rfl (by kernel_rfl) (WE_bool ⟨rfl, rfl⟩)) H s1 R2) (fun f s2 q_ => ?_) fun _ _ x => x))
 refine zJ q_ ?_; clear q_; intro S2 R3 hf e
 obtain rfl : f = .next := by cases f <;> first | rfl | exact (nomatch hf)
 subst e
 refine zQ (seg1_For (fun _ => rfl) (wpAny_mono ((show WE g ⟨A.over (.func (bodyOf P 28) env) [], env, fun _ => false⟩ _ ⟨setv (setv S.m (ofString "pos") (.int 0 0)) (ofString "escape") (.bool false), S.σ⟩ (fun v S' => ∃ e it, v = .ref e /\ e ≠ it /\ S.σ e = none /\ S.σ it = none /\ S' = ⟨setv (setv S.m (ofString "pos") (.int 0 0)) (ofString "escape") (.bool false), upd (upd S.σ it (siO z)) e (enumO it)⟩) from ?_) H s2 R3) (fun v s3 ⟨S3, R4, e, it, hv, hne, he, hi, eS⟩ => ?_) fun _ _ x => x))
 ·have hx : (⟨A.over (.func (bodyOf P 28) env) [], env, fun _ => false⟩ : Ac).ext = fun _ => false := rfl
  generalize (⟨A.over (.func (bodyOf P 28) env) [], env, fun _ => false⟩ : Ac) = c' at *
  w_fin
  refine WC_enumS ha fun e it he hi hne => ⟨e, it, rfl, hne, he, hi, rfl⟩
 obtain rfl := zH hv
 subst eS
 have m2def : ∃ mc, mc = setv (setv S.m (ofString "pos") (.int 0 0)) (ofString "escape") (.bool false) := ⟨_, rfl⟩
 refine zI m2def ?_; (try clear m2def); intro mc hm2
 rw [← hm2] at R4
 refine zJ (R4.conceal (S₀ := ⟨mc, upd S.σ it (siO z)⟩) (a := e) (o := enumO it) zA ⟨fun _ _ q => q, fun b o q => zC (show upd S.σ it (siO z) e = none from (if_neg hne).trans he) b o q⟩ ((if_neg hne).trans he)) ?_; intro obE i1 f1 R5
 refine zJ (R5.conceal (S₀ := ⟨mc, S.σ⟩) (a := it) (o := siO z) zA ⟨fun _ _ q => q, fun b o q => zC hi b o q⟩ hi) ?_; intro obI i2 f2 R6
 have hE : obE = enumOb it 0 .none := i1
 subst hE
 have f2' : H.objs it = none := by
  have : (if it = e then some _ else H.objs it) = none := f2
  rwa [if_neg (Ne.symm hne)] at this
 have hHe : ((H.put e (enumOb it 0 .none)).put it obI).objs e = some (enumOb it 0 .none) := by
  show (if e = it then some obI else (H.put e _).objs e) = _
  rw [if_neg hne]; exact Hid.put_self _ _ _
 refine wpAny_pyIter_enum (R6.hid e _ hHe) fun kk p hkk => ?_
 have ep : EP z e it 0 H ((H.put e (enumOb it 0 .none)).put it obI) := ⟨.none, obI, hHe, Hid.put_self _ _ _, i2.1, i2.2, fun b b1 b2 => by
  show (if b = it then some obI else if b = e then some _ else H.objs b) = _
  rw [if_neg b2, if_neg b1], rfl⟩
 have mok : B28 false (⟨mc, S.σ⟩ : St Str) := by rw [hm2]; unfold B28; walk_at "l"
 refine (gen_loop2 (g := g) (A := A) (env := env) (MOK := MOK28 z) (z := z) (x := ofString "pos") (y := ofString "ch") (J := giOf z) (fbody := bodyOf P 28) (it := it) (B₀ := B28 false) (B₁ := B28 true) ⟨ok, hd, ⟨_, _, _, _, rfl⟩, by rw [hs]; kernel_rfl, by rw [hs]; kernel_rfl, gi_end z, fun m hm => ?_, fun m hm => ?_, ?_⟩ hne (giOf z).n (Nat.le_refl _) H _ s3 ⟨mc, S.σ⟩ kk _ p (hkk .next) f1 f2' (by rw [Nat.sub_self]; exact ep) (R6.around ok) mok).mono fun en s' q => ⟨e, it, hne, f1, f2', q⟩
 ·obtain ⟨c, hc, q⟩ := gi_item he92 hm
  rcases q with ⟨_, q, _⟩ | ⟨_, d, hd', q, _⟩
  ·rw [q]; exact (Array.getElem?_eq_some_iff.mp hc).1
  rw [q]; exact (Array.getElem?_eq_some_iff.mp hd').1
 ·obtain ⟨c, hc, q⟩ := gi_item he92 hm
  generalize (giOf z).at_ m = i at *
  have hcd : z.cps.getD i 0 = c := by rw [Array.getD_eq_getD_getElem?, hc]; rfl
  rcases q with ⟨hc92, hat, hyv⟩ | ⟨hc92, d, hd', hat, hyv⟩
  ·refine .inl ⟨hat, ?_⟩
   intro S5 mok5 ef kk5 lc p5 H5 sa Hx5 Φ5 R7 cont
   have mok5 : S5.m (ofString "escape") = some (.bool false) := mok5
   refine zQ (seg1_If (wpAny_mono ((show WT g ⟨_, env, fun _ => false⟩ _ (enumStepS (ofString "pos") (ofString "ch") z i S5) (fun b S' => b = false /\ S' = enumStepS (ofString "pos") (ofString "ch") z i S5) from ?_) H5 sa (R7.around (okG_loop ok hd))) (fun b s6 q_ => ?_) fun _ _ x => x))
   ·have mok6 : (enumStepS (ofString "pos") (ofString "ch") z i S5).m (ofString "escape") = some (.bool false) := by
     unfold enumStepS
     walk_at "l"
    exact WT_value (fun _ _ => rfl) (z6 hs (by kernel_rfl) mok6 (zP ⟨rfl, rfl⟩))
   obtain ⟨S6, R8, hb, e6⟩ := q_
   subst hb
   subst e6
   refine zQ (seg1_If (wpAny_mono ((show WT g ⟨_, env, fun _ => false⟩ _ (enumStepS (ofString "pos") (ofString "ch") z i S5) (fun b S' => b = false /\ S' = enumStepS (ofString "pos") (ofString "ch") z i S5) from ?_) H5 s6 R8) (fun b s7 q_ => ?_) fun _ _ x => x))
   ·refine WT_Compare (by kernel_rfl) (z6 hs (by kernel_rfl) (v := .str ⟨#[z.cps.getD i 0]⟩ 0) (by unfold enumStepS; walk_at "l") (WE_str (WCmp_eqs (zP ⟨?_, rfl⟩))))
    rw [beq_eq_false_iff_ne]
    intro e
    have : z.cps.getD i 0 = 92 := congrArg (fun x : Str => x.cps.getD 0 0) e
    exact hc92 (hcd.symm.trans this)
   obtain ⟨S7, R9, hb, e7⟩ := q_
   subst hb
   subst e7
   refine zQ (seg1_Yield rfl rfl rfl (wpAny_mono ((show WE g ⟨_, env, fun _ => false⟩ _ (enumStepS (ofString "pos") (ofString "ch") z i S5) (fun v S' => ∃ T, v = .ref T /\ S' = ⟨(enumStepS (ofString "pos") (ofString "ch") z i S5).m, upd S5.σ T (.tup [.int i 0, .str ⟨#[z.cps.getD i 0]⟩ 0])⟩) from ?_) H5 s7 R9) (fun v s8 q_ => ?_) fun _ _ x => x) ?_ ?_)
   ·have q1 : (enumStepS (ofString "pos") (ofString "ch") z i S5).m (ofString "pos") = some (.int i 0) := by unfold enumStepS; walk_at "l"
    have q2 : (enumStepS (ofString "pos") (ofString "ch") z i S5).m (ofString "ch") = some (.str ⟨#[z.cps.getD i 0]⟩ 0) := by unfold enumStepS; walk_at "l"
    exact WE_Tuple (WEs_cons (by kernel_rfl) (z6 hs (by kernel_rfl) q1 (WEs_cons (by kernel_rfl) (z6 hs (by kernel_rfl) q2 (WEs_nil ⟨(show 2 ≤ sizeLine by decide +kernel), fun T hT => ⟨T, rfl, rfl⟩⟩)))))
   ·obtain ⟨S8, R10, T, hv, e8⟩ := q_
    obtain rfl := zH hv
    subst e8
    intro kb hk9 l9 p9
    have hesc : esc28 z (m + 1) = false := by
     have : (giOf z).txt m = ⟨#[c]⟩ := by
      have := congrArg (fun l : List Value => l.getD 1 .none) hyv
      exact (Value.str.inj this).1
     show (((giOf z).txt m).length == 2) = false
     rw [this]; rfl
    refine cont T _ s8 l9 kb p9 (R10.around ok) (by rw [hyv, ← hcd]; exact zA) ?_ fun Φ' H2 S2 s2 R2' mok2 hres => ?_
    ·unfold MOK28 B28 enumStepS; rw [hesc]; walk_at "l"
    rw [hk9 .none (fun _ h => nomatch h)]
    exact hres S2 s2 R2' (by unfold MOK28 at mok2; rw [hesc] at mok2; exact mok2)
   ·rw [hs]; kernel_rfl
   unfold interactive; rw [hs]; kernel_rfl
  refine .inr ⟨hat, fun S5 A' mok5 => ?_, ?_⟩
  ·have mok5 : S5.m (ofString "escape") = some (.bool false) := mok5
   have hsA : (⟨A', env, fun _ => false⟩ : Ac).env.scope = (fdOf P 28).scope := hs
   have hx : (⟨A', env, fun _ => false⟩ : Ac).ext = fun _ => false := rfl
   unfold enumStepS
   generalize (⟨A', env, fun _ => false⟩ : Ac) = c' at *
   w_fin
   refine WCmp_eqs ?_
   w_fin
   refine zR (by rw [hcd, hc92]; kernel_rfl) ?_
   w_fin
   refine ⟨rfl, ?_⟩
   unfold B28
   walk_at "l"
  intro S5 mok5 ef kk5 lc p5 H5 sa Hx5 Φ5 R7 cont
  have mok5 : S5.m (ofString "escape") = some (.bool true) := mok5
  have hdd : z.cps.getD (i + 1) 0 = d := by rw [Array.getD_eq_getD_getElem?, hd']; rfl
  refine zQ (seg1_If (wpAny_mono ((show WT g ⟨_, env, fun _ => false⟩ _ (enumStepS (ofString "pos") (ofString "ch") z (i + 1) S5) (fun b S' => b = true /\ S' = enumStepS (ofString "pos") (ofString "ch") z (i + 1) S5) from ?_) H5 sa (R7.around (okG_loop ok hd))) (fun b s6 q_ => ?_) fun _ _ x => x))
  ·have mok6 : (enumStepS (ofString "pos") (ofString "ch") z (i + 1) S5).m (ofString "escape") = some (.bool true) := by
    unfold enumStepS
    walk_at "l"
   exact WT_value (fun _ _ => rfl) (z6 hs (by kernel_rfl) mok6 (zP ⟨rfl, rfl⟩))
  obtain ⟨S6, R8, hb, e6⟩ := q_
  subst hb
  subst e6
  refine zQ (seg1_Yield rfl rfl rfl (wpAny_mono ((show WE g ⟨_, env, fun _ => false⟩ _ (enumStepS (ofString "pos") (ofString "ch") z (i + 1) S5) (fun v S' => ∃ T, v = .ref T /\ S' = ⟨(enumStepS (ofString "pos") (ofString "ch") z (i + 1) S5).m, upd S5.σ T (.tup [.int ((i + 1 : Nat) : Int) 0, .str ⟨#[92, z.cps.getD (i + 1) 0]⟩ 0])⟩) from ?_) H5 s6 R8) (fun v s8 q_ => ?_) fun _ _ x => x) ?_ ?_)
  ·have q1 : (enumStepS (ofString "pos") (ofString "ch") z (i + 1) S5).m (ofString "pos") = some (.int ((i + 1 : Nat) : Int) 0) := by unfold enumStepS; walk_at "l"
   have q2 : (enumStepS (ofString "pos") (ofString "ch") z (i + 1) S5).m (ofString "ch") = some (.str ⟨#[z.cps.getD (i + 1) 0]⟩ 0) := by unfold enumStepS; walk_at "l"
   refine WE_Tuple (WEs_cons (by kernel_rfl) (z6 hs (by kernel_rfl) q1 (WEs_cons (by kernel_rfl) (WE_BinOp (WE_str (z6 hs (by kernel_rfl) q2 (zi (by show 1 + 1 ≤ sizeLine; decide +kernel) (WEs_nil ⟨(show 2 ≤ sizeLine by decide +kernel), fun T hT => ⟨T, rfl, ?_⟩⟩))))))))
   rfl
  ·obtain ⟨S8, R10, T, hv, e8⟩ := q_
   obtain rfl := zH hv
   subst e8
   intro kb hk9 l9 p9
   have hesc : esc28 z (m + 1) = true := by
    have : (giOf z).txt m = ⟨#[92, d]⟩ := by
     have := congrArg (fun l : List Value => l.getD 1 .none) hyv
     exact (Value.str.inj this).1
    show (((giOf z).txt m).length == 2) = true
    rw [this]; rfl
   refine cont T _ s8 l9 kb p9 (R10.around ok) (by rw [hyv, ← hdd]; exact zA) ?_ fun Φ' H2 S2 s2 R2' mok2 hres => ?_
   ·unfold MOK28 B28 enumStepS; rw [hesc]; walk_at "l"
   rw [hk9 .none (fun _ h => nomatch h)]
   refine zQ (seg1_plain (wpAny_mono ((WX_AssignN (c := ⟨_, env, fun _ => false⟩) (S := S2) (Q := fun f S' => f = .next /\ S' = ⟨setv S2.m (ofString "escape") (.bool false), S2.σ⟩) rfl hs rfl (by kernel_rfl) (WE_bool ⟨rfl, rfl⟩)) H2 s2 (R2'.around (okG_loop ok hd))) (fun f s3 q_ => ?_) fun _ _ x => x))
   obtain ⟨S9, R11, hf, e9⟩ := q_
   obtain rfl : f = .next := by cases f <;> first | rfl | exact (nomatch hf)
   subst e9
   exact hres _ s3 (R11.around ok) (by unfold B28; walk_at "l")
  ·rw [hs]; kernel_rfl
  unfold interactive; rw [hs]; kernel_rfl
 intro S7 hY
 have hY : S7.m (ofString "escape") = some (.bool false) := hY
 have hx : (⟨A.over (.func (bodyOf P 28) env) [], env, fun _ => false⟩ : Ac).ext = fun _ => false := rfl
 generalize (⟨A.over (.func (bodyOf P 28) env) [], env, fun _ => false⟩ : Ac) = c' at *
 w_fin
 rfl
end
end
section
variable {P : Params}
section
variable {z : Str}
theorem fn_check (hK : g.K = hd.heap_1 P) : FnIs g.K 42 (bodyOf P 42) (fdOf P 42).scope (fdOf P 42) :=
 fnIs ⟨_, _, _, rfl⟩ (by kernel_rfl) rfl rfl rfl rfl hK
theorem so_check : scopeOk (fdOf P 42).scope = true := by kernel_rfl
theorem fn_strip (hK : g.K = hd.heap_1 P) : FnIs g.K 35 (bodyOf P 35) (fdOf P 35).scope (fdOf P 35) :=
 fnIs ⟨_, _, _, rfl⟩ (by kernel_rfl) rfl rfl rfl rfl hK
theorem so_strip : scopeOk (fdOf P 35).scope = true := by kernel_rfl
structure SQ where
 st : Nat
 op : Option Nat
 res : List Str
noncomputable def SQ.step (z : Str) (q : SQ) (i : Nat) : SQ :=
 if z.cps.getD i 0 = 34 then match q.op with
  | none => ⟨q.st, some i, q.res⟩
  | some o => ⟨i + 1, none, if q.st ≠ o then q.res ++ [strCut z q.st o] else q.res⟩
 else q
noncomputable def SQ.upTo (z : Str) (i : Nat) : SQ := (List.range i).foldl (SQ.step z) ⟨0, none, []⟩
theorem SQ.upTo_succ (z : Str) (i : Nat) : SQ.upTo z (i + 1) = (SQ.upTo z i).step z i := by
 unfold SQ.upTo
 rw [List.range_succ, List.foldl_append]; rfl
noncomputable def SQ.parts (z : Str) : List Str := if (SQ.upTo z z.cps.size).st < z.length then (SQ.upTo z z.cps.size).res ++ [strCut z (SQ.upTo z z.cps.size).st z.length] else (SQ.upTo z z.cps.size).res
theorem strCut_len {z : Str} {a b : Nat} : (strCut z a b).length ≤ b - a := by
 unfold strCut Str.length
 simp only [List.size_toArray, List.length_take]
 exact Nat.min_le_left _ _
theorem SQ.inv (z : Str) : ∀ i, (SQ.upTo z i).st ≤ i /\ (∀ o, (SQ.upTo z i).op = some o -> (SQ.upTo z i).st ≤ o /\ o < i) /\ (SQ.upTo z i).res.length ≤ i /\ ((SQ.upTo z i).res.map (·.length)).sum ≤ (SQ.upTo z i).st
 | 0 => ⟨Nat.le_refl _, (fun o e => nomatch e), Nat.le_refl _, Nat.le_refl _⟩
 | i + 1 => by
  refine el_AAA (SQ.inv z i) ?_; intro h1 h2 h3 h4
  rw [SQ.upTo_succ]
  generalize SQ.upTo z i = q at *
  obtain ⟨st, op, res⟩ := q
  dsimp only at h1 h2 h3 h4
  unfold SQ.step
  split
  ·cases op with
   | none =>
    dsimp only
    refine ⟨by exact om50 ‹_›, fun o e => ?_, by exact om50 ‹_›, h4⟩
    (replace e := Option.some.inj e; subst e)
    exact ⟨h1, Nat.lt_succ_self _⟩
   | some o =>
    refine zL (h2 o rfl) ?_; intro k1 k2
    dsimp only
    refine ⟨Nat.le_refl _, (fun o e => nomatch e), ?_, ?_⟩
    ·split
     ·rw [List.length_append, List.length_singleton]; exact Nat.lt_succ_of_le ‹_›
     exact om50 ‹_›
    split
    ·rw [List.map_append, List.sum_append]
     have := strCut_len (z := z) (a := st) (b := o)
     simp only [List.map_cons, List.map_nil, List.sum_cons, List.sum_nil]
     lia
    lia
  dsimp only
  refine ⟨by exact om50 ‹_›, fun o e => ?_, by exact om50 ‹_›, h4⟩
  refine zL (h2 o e) ?_; intro k1 k2
  lia
noncomputable def optV (o : Option Nat) : Value := match o with | none => .none | some o => .int o 0
noncomputable def SInv (z : Str) (R : Addr) (σ0 : Addr -> Option (AO Str)) (i : Nat) (S' : St Str) : Prop := S'.m (ofString "addr") = some (.str z 0) /\ S'.m (ofString "start") = some (.int (SQ.upTo z i).st 0) /\ S'.m (ofString "open_pos") = some (optV (SQ.upTo z i).op) /\ S'.m (ofString "result") = some (.ref R) /\ S'.σ R = some (.list (sL (SQ.upTo z i).res)) /\ ∀ b o, σ0 b = some o -> S'.σ b = some o
noncomputable def SQ.out (z : Str) : Str := if 34 ∈ z.cps.toList then Txt.join (ofString "") (SQ.parts z) else z
theorem sL_snoc (l : List Str) (x : Str) : sL l ++ [.str x 0] = sL (l ++ [x]) := by unfold sL; rw [List.map_append]; rfl
theorem W_strip (hK : g.K = hd.heap_1 P) (hd : c.Deep 4) (ha : z.cps.all (· < 128) = true) (he92 : escOk z.cps.toList = true) (hq92 : ∀ i, z.cps.getD i 0 = 92 -> z.cps.getD (i + 1) 0 ≠ 34) (hz : z.length ≤ 1000) (h : Q (.str (SQ.out z) 0) S) : WC g c (.ref 35) [.str z 0] S Q := by
 refine WC.drop (WC_def (n := 3) hd (fn_strip hK) so_strip (B := [(ofString "addr", .str z 0)]) (fun us hu => ?_) (by kernel_rfl) fun c' hs hx hd' => ?_)
 ·(refine zB (z3 hu) ?_; intro u rfl_40 hu'; subst rfl_40)
  exact ⟨[(ofString "addr", u)], by kernel_rfl, by simp [hu']⟩
 have hsz : z.cps.size = z.length := rfl
 show WXs g c' (_ :: _) ⟨setv (fun _ => none) (ofString "addr") (.str z 0), S.σ⟩ _
 refine z0 ?_
 intro Q_
 refine WX_If (WT_Compare (by kernel_rfl) (WE_str (z6 hs (by kernel_rfl) (by walk_at "l") (WCmp_notInStr ?_))))
 rw [show (Builtin.Str.occurrences z (ofString "\"") 0 z.length 1).isEmpty = !decide (34 ∈ z.cps.toList) from PyProof.Rows.empty_one z 34]
 refine zP ?_
 by_cases hq : 34 ∈ z.cps.toList
 ·rw [decide_eq_true hq]
  first | refine zS (by decide) ?_ | rw [if_neg (by decide)]
  unfold SQ.out at h
  rw [if_pos hq] at h
  refine WXs_nil ?_
  show WXs g c' (_ :: _) _ _
  w_fin
  refine ⟨Nat.zero_le _, fun R hR => ?_⟩
  have hR : S.σ R = none := hR
  w_fin
  refine WX_ForGen (MOK := MOK28 z) (J := giOf z) (z := z) (xa := ofString "addr") hs hx (by kernel_rfl) (by kernel_rfl) (fun _ _ => rfl) (fn_iter hK) sg_iter (by kernel_rfl) (hd'.less (by decide)) (fun _ S h => h) (by rw [hK]; kernel_rfl) (by kernel_rfl) ?_
  w_fin
  refine ⟨rfl, ?_⟩
  w_fin
  refine ⟨rfl, (fun u hu => ?_), (fun env eok => ?_), fun m => SInv z R S.σ ((giOf z).at_ m),
   ⟨by walk_at "l", by walk_at "l", by walk_at "l", by walk_at "l", zA, zC hR⟩, fun m S3 hm q_ => ?_, fun S3 q_ => ?_⟩
  ·(refine zI (zZ hu) ?_; intro t rfl_39; subst rfl_39)
   kernel_rfl
  ·exact start28 hK ha hz he92 eok.scope (show Ac.Deep ⟨c'.A.in1, env, fun _ => false⟩ 1 from ((hd'.less (show 2 ≤ 3 by decide)).in1 : Ac.Deep ⟨c'.A.in1, c'.env, c'.ext⟩ 1))
  ·(refine zx q_ ?_; clear q_; intro v1 v2 v3 v4 v5 kp)
   obtain ⟨cc, hcc, qq⟩ := gi_item he92 hm
   generalize hat0 : (giOf z).at_ m = i at *
   have hcd : z.cps.getD i 0 = cc := by rw [Array.getD_eq_getD_getElem?, hcc]; rfl
   have hi' : i < z.length := (Array.getElem?_eq_some_iff.mp hcc).1
   rcases qq with ⟨_, hat, hyv⟩ | ⟨hc92, d, hd92, hat, hyv⟩
   case inr =>
    have hdd : z.cps.getD (i + 1) 0 = d := by rw [Array.getD_eq_getD_getElem?, hd92]; rfl
    have htx : (giOf z).txt m = ⟨#[92, d]⟩ := (Value.str.inj (congrArg (fun l : List Value => l.getD 1 .none) hyv)).1
    have same : SQ.upTo z ((giOf z).at_ (m + 1)) = SQ.upTo z i := by
     rw [hat, SQ.upTo_succ, SQ.upTo_succ]
     unfold SQ.step
     rw [if_neg (by rw [hdd]; exact fun e => hq92 i (hcd.trans hc92) (hdd.trans e)), if_neg (by rw [hcd, hc92]; decide)]
    show WXs g c' _ ⟨setv (setv S3.m (ofString "pos") (.int ((giOf z).pos m) 0)) (ofString "ch") (.str ((giOf z).txt m) 0), S3.σ⟩ _
    obtain ⟨mc, σ2⟩ := S3
    have v1 : mc (ofString "addr") = _ := v1
    have v2 : mc (ofString "start") = _ := v2
    have v3 : mc (ofString "open_pos") = _ := v3
    have v4 : mc (ofString "result") = _ := v4
    have v5 : σ2 R = _ := v5
    w_fin
    refine WCmp_eqs (zP ?_)
    refine zS (by rw [htx]; intro e; have := congrArg (fun x : Str => x.cps.size) (eq_of_beq e); exact absurd (show 2 = 1 from this) (by decide)) ?_
    w_fin
    show SInv z R S.σ ((giOf z).at_ (m + 1)) _
    unfold SInv
    rw [same]
    exact ⟨by walk_at "l", by walk_at "l", by walk_at "l", by walk_at "l", v5, kp⟩
   have hpo : (giOf z).pos m = i := by
    have := (Value.int.inj (congrArg (fun l : List Value => l.getD 0 .none) hyv)).1
    exact Int.ofNat_inj.mp this
   have htx : (giOf z).txt m = ⟨#[z.cps.getD i 0]⟩ := by rw [hcd]; exact (Value.str.inj (congrArg (fun l : List Value => l.getD 1 .none) hyv)).1
   have htgt : stepI (ofString "pos") (ofString "ch") (giOf z) m S3 = ⟨setv (setv S3.m (ofString "pos") (.int i 0)) (ofString "ch") (.str ⟨#[z.cps.getD i 0]⟩ 0), S3.σ⟩ := by unfold stepI; rw [hpo, htx]
   rw [htgt]
   unfold ForQ
   dsimp only
   rw [hat]
   have nxt := SQ.upTo_succ z i
   have inv := SQ.inv z i
   obtain ⟨mc, σ2⟩ := S3
   have v1 : mc (ofString "addr") = _ := v1
   have v2 : mc (ofString "start") = _ := v2
   have v3 : mc (ofString "open_pos") = _ := v3
   have v4 : mc (ofString "result") = _ := v4
   have v5 : σ2 R = _ := v5
   generalize SQ.upTo z i = q at *
   obtain ⟨st, op, res⟩ := q
   refine el_AAA inv ?_; (try clear inv); intro i1 i2 i3 i4
   dsimp only at i1 i2 i3 i4 v2 v3 v5
   unfold SQ.step at nxt
   w_fin
   refine WCmp_eqs (zP ?_)
   by_cases h34 : z.cps.getD i 0 = 34
   ·rw [if_pos h34] at nxt
    first | refine zR (by rw [h34]; kernel_rfl) ?_ | rw [if_pos (by rw [h34]; kernel_rfl)]
    w_fin
    cases op with
    | none =>
     first | refine zR (by kernel_rfl) ?_ | rw [if_pos (by kernel_rfl)]
     w_fin
     exact ⟨by walk_at "l", by rw [nxt]; walk_at "l", by rw [nxt]; walk_at "l", by walk_at "l", by rw [nxt]; exact v5, kp⟩
    | some o =>
     refine zL (i2 o rfl) ?_; intro k1 k2
     first | refine zS (show ¬ ((optV (some o) == Value.none) = true) from Bool.false_ne_true) ?_ | rw [if_neg (show ¬ ((optV (some o) == Value.none) = true) from Bool.false_ne_true)]
     have v3 : mc (ofString "open_pos") = some (.int o 0) := v3
     w_fin
     by_cases hso : st = o
     ·first | refine zS (by rw [hso]; simp) ?_ | rw [if_neg (by rw [hso]; simp)]
      dsimp only at nxt
      rw [if_neg (fun e => e hso)] at nxt
      w_fin
      exact ⟨by walk_at "l", by rw [nxt]; walk_at "l", by rw [nxt]; walk_at "l", by walk_at "l", by rw [nxt]; exact v5, kp⟩
     first | refine zR (by simp; lia) ?_ | rw [if_pos (by simp; omega)]
     dsimp only at nxt
     rw [if_pos hso] at nxt
     w_fin
     refine ⟨R, _, rfl, v5, ?_⟩
     refine WE_SliceS (fun _ _ => rfl) ?_
     w_fin
     refine ⟨z, rfl, zn ?_⟩
     w_fin
     refine ⟨_, rfl, zn ?_⟩
     w_fin
     refine ⟨_, rfl, st, o, rfl, .inl rfl, k1, by lia, by rw [sizeLine_eq]; exact Nat.le_trans ‹_› (by decide), ?_⟩
     refine ⟨_, v5, (by show (List.map _ res).length ≤ _; rw [List.length_map, sizeLine_eq]; lia), ?_⟩
     w_fin
     exact ⟨by walk_at "l", by rw [nxt]; walk_at "l", by rw [nxt]; walk_at "l", by walk_at "l", by rw [nxt, ← sL_snoc]; exact zA, fun b o e => (if_neg (by rintro rfl; rw [hR] at e; exact Mine.ns e)).trans (kp b o e)⟩
   rw [if_neg h34] at nxt
   first | refine zS (by intro e; exact h34 (by have := eq_of_beq e; exact congrArg (fun x : Str => x.cps.getD 0 0) this)) ?_ | rw [if_neg (by intro e; exact h34 (by have := eq_of_beq e; exact congrArg (fun x : Str => x.cps.getD 0 0) this))]
   w_fin
   exact ⟨by walk_at "l", by rw [nxt]; walk_at "l", by rw [nxt]; walk_at "l", by walk_at "l", by rw [nxt]; exact v5, kp⟩
  have q_ : SInv z R S.σ z.cps.size S3 := by rw [← gi_end z]; exact q_
  refine zx q_ ?_; clear q_; intro v1 v2 v3 v4 v5 kp
  obtain ⟨mc, σ2⟩ := S3
  have v1 : mc (ofString "addr") = _ := v1
  have v2 : mc (ofString "start") = _ := v2
  have v3 : mc (ofString "open_pos") = _ := v3
  have v4 : mc (ofString "result") = _ := v4
  have v5 : σ2 R = _ := v5
  have inv := SQ.inv z z.cps.size
  unfold SQ.parts at h
  generalize SQ.upTo z z.cps.size = q at *
  obtain ⟨st, op, res⟩ := q
  refine el_AAA inv ?_; (try clear inv); intro i1 i2 i3 i4
  dsimp only at i1 i2 i3 i4 v2 v3 v5 h
  have hzz : z.cps.size = z.length := rfl
  have hjoin : ∀ l : List Str, (l.map (·.length)).sum + l.length * (ofString "").length = (l.map (·.length)).sum := fun l => by
   rw [show (ofString "").length = 0 by kernel_rfl, Nat.mul_zero, Nat.add_zero]
  w_fin
  refine WC_lens (by exact om26 (Nat.le_trans ‹_› (by decide))) ?_
  w_fin
  by_cases hlt : st < z.length
  ·rw [if_pos hlt] at h
   first | refine zR (by simpa using hlt) ?_ | rw [if_pos (by simpa using hlt)]
   w_fin
   refine ⟨R, _, rfl, v5, ?_⟩
   refine WE_SliceS (fun _ _ => rfl) ?_
   w_fin
   refine ⟨z, rfl, zn ?_⟩
   w_fin
   refine ⟨_, rfl, WPart_none ?_⟩
   refine ⟨st, z.length, rfl, .inr ⟨rfl, rfl⟩, Nat.le_of_lt hlt, Nat.le_refl _, by rw [sizeLine_eq]; exact Nat.le_trans ‹_› (by decide), ?_⟩
   refine ⟨_, v5, (by show (List.map _ res).length ≤ _; rw [List.length_map, sizeLine_eq]; exact om23 ‹_› (Nat.le_trans ‹_› (by decide))), ?_⟩
   w_fin
   refine ⟨_, rfl, ?_⟩
   w_fin
   refine ⟨R, _, _, rfl, zA, by rw [sL_snoc]; exact sL_are _, ?_, ?_⟩
   ·rw [hjoin, List.map_append, List.sum_append]
    have := strCut_len (z := z) (a := st) (b := z.length)
    simp only [List.map_cons, List.map_nil, List.sum_cons, List.sum_nil]
    lia
   w_fin
   exact ⟨S, ⟨fun _ _ e => e, fun b o e => (if_neg (by rintro rfl; rw [hR] at e; exact Mine.ns e)).trans (kp b o e)⟩, h⟩
  rw [if_neg hlt] at h
  first | refine zS (by simpa using hlt) ?_ | rw [if_neg (by simpa using hlt)]
  w_fin
  refine ⟨_, rfl, ?_⟩
  w_fin
  refine ⟨R, _, _, rfl, v5, sL_are _, ?_, ?_⟩
  ·rw [hjoin]
   lia
  w_fin
  exact ⟨S, ⟨fun _ _ e => e, kp⟩, h⟩
 rw [decide_eq_false hq, if_pos (show (!false) = true from rfl)]
 unfold SQ.out at h
 rw [if_neg hq] at h
 w_fin
 exact ⟨S, ⟨fun _ _ e => e, fun _ _ e => e⟩, h⟩
end
end
noncomputable abbrev tl (s : Str) : List Nat := s.cps.toList
theorem zz (a b : Str) : tl (a ++ b) = tl a ++ tl b := by
 show (a.cps ++ b.cps).toList = _
 exact Array.toList_append
theorem tl_empty : tl (ofString "") = [] := by decide +kernel
theorem str_ext {a b : Str} (h : tl a = tl b) : a = b := by
 cases a; cases b
 exact congrArg _ (Array.toList_inj.mp h)
theorem tl_join : ∀ l : List Str, tl (Txt.join (ofString "") l) = (l.map tl).flatten := by
 intro l
 show tl (Builtin.Str.glued (ofString "") l) = _
 rw [StrLaws.glued_eq_join]
 induction l with
 | nil => rfl
 | cons a l ih =>
  cases l with
  | nil => simp [Str.join]
  | cons b l =>
   show tl (a ++ ofString "" ++ Str.join (ofString "") (b :: l)) = _
   rw [zz, zz, tl_empty, ih]
   simp
noncomputable def unqF (q : List Nat × Bool) (c : Nat) : List Nat × Bool := if c = 34 then (q.1, !q.2) else if q.2 then q else (q.1 ++ [c], false)
noncomputable def unq (l : List Nat) : List Nat × Bool := l.foldl unqF ([], false)
theorem unq_plain : ∀ (l a : List Nat), 34 ∉ l -> l.foldl unqF (a, false) = (a ++ l, false)
 | [], a, _ => by simp
 | c :: l, a, h => by
  have hc : c ≠ 34 := fun e => h (e ▸ .head _)
  rw [List.foldl_cons]
  have : unqF (a, false) c = (a ++ [c], false) := by unfold unqF; rw [if_neg hc]; simp
  rw [this, unq_plain l _ fun e => h (.tail _ e), List.append_assoc]; rfl
section
variable {P : Params}
section
variable {z : Str}
theorem getD_tl {z : Str} {i : Nat} (h : i < z.cps.size) : (tl z)[i]? = some (z.cps.getD i 0) := by
 unfold tl
 rw [Array.getElem?_toList, Array.getD_eq_getD_getElem?, Array.getElem?_eq_getElem h]; rfl
theorem tl_len (z : Str) : (tl z).length = z.length := Array.length_toList
theorem tl_cut (z : Str) (a b : Nat) : tl (strCut z a b) = ((tl z).drop a).take (b - a) := rfl
noncomputable def SQ.Meant (l : List Nat) (i : Nat) (q : SQ) (r : List Nat × Bool) : Prop := match q.op with
 | none => r = ((q.res.map tl).flatten ++ (l.drop q.st).take (i - q.st), false)
 | some o => r = ((q.res.map tl).flatten ++ (l.drop q.st).take (o - q.st), true)
theorem SQ.meant (z : Str) : ∀ i, i ≤ z.length -> SQ.Meant (tl z) i (SQ.upTo z i) (unq ((tl z).take i))
 | 0, _ => rfl
 | i + 1, hi => by
  have ih := SQ.meant z i (by exact Nat.le_of_lt ‹_›)
  have inv := SQ.inv z i
  have hc : (tl z)[i]? = some (z.cps.getD i 0) := getD_tl (show i < z.length by assumption)
  rw [SQ.upTo_succ, List.take_add_one, hc]
  unfold unq at ih ⊢
  rw [Option.toList, List.foldl_append]
  generalize ((tl z).take i).foldl unqF ([], false) = r at *
  generalize SQ.upTo z i = q at *
  obtain ⟨st, op, res⟩ := q
  refine el_AAA inv ?_; (try clear inv); intro i1 i2 i3 i4
  dsimp only at i1 i2 i3 i4
  show SQ.Meant _ _ _ (unqF r (z.cps.getD i 0))
  unfold SQ.step unqF
  by_cases h34 : z.cps.getD i 0 = 34
  ·rw [if_pos h34, if_pos h34]
   cases op with
   | none =>
    obtain rfl := (ih : r = _)
    rfl
   | some o =>
    obtain rfl := (ih : r = _)
    refine zL (i2 o rfl) ?_; intro k1 k2
    show (_, _) = _
    refine Prod.ext ?_ rfl
    dsimp only
    rw [Nat.sub_self, List.take_zero, List.append_nil]
    split
    ·rw [List.map_append, List.flatten_append]
     simp [tl_cut]
    rename_i e
    have e : st = o := Classical.not_not.mp e
    rw [e, Nat.sub_self, List.take_zero, List.append_nil]
  rw [if_neg h34, if_neg h34]
  cases op with
  | none =>
   obtain rfl := (ih : r = _)
   show (_, _) = _
   refine Prod.ext ?_ rfl
   dsimp only
   rw [List.append_assoc, show i + 1 - st = i - st + 1 by exact om44 ‹_›, List.take_add_one, List.getElem?_drop, show st + (i - st) = i by exact Nat.add_sub_cancel' ‹_›, hc]
   rfl
  | some o =>
   obtain rfl := (ih : r = _)
   rfl
theorem SQ.out_eq (z : Str) (h : (unq (tl z)).2 = false) : tl (SQ.out z) = (unq (tl z)).1 := by
 unfold SQ.out
 by_cases h34 : 34 ∈ z.cps.toList
 ·rw [if_pos h34, tl_join]
  have hm := SQ.meant z z.length (Nat.le_refl _)
  rw [List.take_of_length_le (by rw [tl_len]; exact Nat.le_refl _)] at hm
  unfold SQ.parts
  have inv := SQ.inv z z.cps.size
  have e : z.cps.size = z.length := rfl
  rw [e] at inv ⊢
  generalize SQ.upTo z z.length = q at *
  obtain ⟨st, op, res⟩ := q
  cases op with
  | some o =>
   have hm : unq (tl z) = _ := hm
   rw [hm] at h; exact Mine.tf h
  | none =>
   have hm : unq (tl z) = _ := hm
   rw [hm]
   dsimp only
   split
   ·rw [List.map_append, List.flatten_append]
    simp [tl_cut]
   rename_i hlt
   rw [show z.length - st = 0 by omega, List.take_zero, List.append_nil]
 first | refine zS h34 ?_ | rw [if_neg h34]
 unfold unq
 rw [unq_plain _ _ h34]
 rfl
theorem unq_mem : ∀ (l : List Nat) (q : List Nat × Bool) (c : Nat), c ∈ (l.foldl unqF q).1 -> c ∈ q.1 ∨ c ∈ l
 | [], q, c, h => .inl h
 | d :: l, q, c, h => by
  rcases unq_mem l _ c h with h | h
  ·unfold unqF at h
   split at h
   ·exact .inl h
   split at h
   ·exact .inl h
   rcases List.mem_append.mp h with h | h
   ·exact .inl h
   exact .inr (List.mem_singleton.mp h ▸ .head _)
  exact .inr (.tail _ h)
structure Esc (z : Str) : Prop where
 low : ∀ c ∈ tl z, c < 128
 esc : escOk z.cps.toList = true
 quo : ∀ i, z.cps.getD i 0 = 92 -> z.cps.getD (i + 1) 0 ≠ 34
 out : escOk (unq (tl z)).1 = true
theorem low_ascii (h : ∀ c ∈ tl z, c < 128) : z.cps.all (· < 128) = true := by
 rw [← Array.all_toList, List.all_eq_true]
 exact fun c hc => decide_eq_true (h c hc)
noncomputable def chkI : List (Nat × Str × Nat) -> Nat -> Bool
 | [], o => o == 0
 | x :: xs, o => if (x.2.1 == ofString "(") = true then chkI xs (o + 1) else if (x.2.1 == ofString ")") = true then (match o with | 0 => false | o + 1 => chkI xs o) else chkI xs o
theorem unq_len : ∀ (l : List Nat) (q : List Nat × Bool), (l.foldl unqF q).1.length ≤ q.1.length + l.length
 | [], q => Nat.le_refl _
 | d :: l, q => by
  have := unq_len l (unqF q d)
  have : (unqF q d).1.length ≤ q.1.length + 1 := by
   unfold unqF
   split
   ·exact Nat.le_succ _
   split
   ·exact Nat.le_succ _
   simp
  rw [List.foldl_cons, List.length_cons]; lia
theorem W_check (hK : g.K = hd.heap_1 P) (hd : c.Deep 5) (hp : Esc z) (hz : z.length ≤ 1000) (hu : (unq (tl z)).2 = false) (h : Q (.bool (chkI (itemsL (unq (tl z)).1 0) 0)) S) : WC g c (.ref 42) [.str z 0] S Q := by
 refine WC.drop (WC_def (n := 4) hd (fn_check hK) so_check (B := [(ofString "addr", .str z 0)]) (fun us hu => ?_) (by kernel_rfl) fun c' hs hx hd' => ?_)
 ·(refine zB (z3 hu) ?_; intro u rfl_44 hu'; subst rfl_44)
  exact ⟨[(ofString "addr", u)], by kernel_rfl, by simp [hu']⟩
 show WXs g c' (_ :: _) ⟨setv (fun _ => none) (ofString "addr") (.str z 0), S.σ⟩ _
 have ey := SQ.out_eq z hu
 have hyl : (SQ.out z).length ≤ 1000 := by
  rw [← tl_len, ey]
  have := unq_len (tl z) ([], false)
  rw [tl_len] at this
  exact Nat.le_trans (by simpa [unq] using this) hz
 have hylow : ∀ c ∈ tl (SQ.out z), c < 128 := fun c hc => by
  rw [ey] at hc
  rcases unq_mem (tl z) ([], false) c hc with q | q
  ·cases q
  exact hp.low c q
 have hyesc : escOk (SQ.out z).cps.toList = true := by
  have := hp.out
  rw [← ey] at this; exact this
 rw [← ey] at h
 have hstrip : ∀ {S : St Str} {Q : Value -> St Str -> Prop}, Q (.str (SQ.out z) 0) S -> WC g c' (.ref 35) [.str z 0] S Q := fun {S Q} q => W_strip hK (hd'.less (by decide)) (low_ascii hp.low) hp.esc hp.quo hz q
 generalize SQ.out z = y at *
 obtain ⟨res, hres⟩ : ∃ res, chkI (itemsL (tl y) 0) 0 = res := ⟨_, rfl⟩
 rw [hres] at h
 w_fin
 refine hstrip ?_
 w_fin
 refine WX_ForGen (MOK := MOK28 y) (J := giOf y) (z := y) (xa := ofString "addr") hs hx (by kernel_rfl) (by kernel_rfl) (fun _ _ => rfl) (fn_iter hK) sg_iter (by kernel_rfl) (hd'.less (by decide)) (fun _ S h => h) (by rw [hK]; kernel_rfl) (by kernel_rfl) ?_
 w_fin
 refine ⟨rfl, ?_⟩
 w_fin
 let Inv_1 : Nat -> St Str -> Prop := fun i S' => (∃ o : Nat, S'.m (ofString "opens") = some (.int o 0) /\ chkI ((itemsL (tl y) 0).drop i) o = res) /\ S'.σ = S.σ
 refine ⟨rfl, (fun u hu => ?_), (fun env eok => ?_), Inv_1,
  ⟨⟨0, by walk_at "l", hres⟩, rfl⟩, fun i S3 hi q_ => ?_, fun S3 q_ => ?_⟩
 ·(refine zI (zZ hu) ?_; intro t rfl_43; subst rfl_43)
  kernel_rfl
 ·exact start28 hK (low_ascii hylow) hyl hyesc eok.scope (show Ac.Deep ⟨c'.A.in1, env, fun _ => false⟩ 1 from ((hd'.less (show 2 ≤ 4 by decide)).in1 : Ac.Deep ⟨c'.A.in1, c'.env, c'.ext⟩ 1))
 ·(refine zL q_ ?_; clear q_; intro nn_42 v3; obtain ⟨o, v1, v2⟩ := nn_42)
  obtain ⟨mc, σ2⟩ := S3
  have v1 : mc (ofString "opens") = some (.int o 0) := v1
  obtain rfl : σ2 = S.σ := v3
  show WXs g c' _ ⟨setv (setv mc (ofString "pos") (.int ((giOf y).pos i) 0)) (ofString "ch") (.str ((giOf y).txt i) 0), S.σ⟩ _
  have hc : (itemsL (tl y) 0).drop i = (itemsL (tl y) 0).getD i (0, Str.empty, 0) :: (itemsL (tl y) 0).drop (i + 1) := by
   have hi' : i < (itemsL (tl y) 0).length := hi
   rw [List.drop_eq_getElem_cons hi', List.getD_eq_getElem?_getD, List.getElem?_eq_getElem hi']; rfl
  rw [hc] at v2
  unfold chkI at v2
  have htx : ((itemsL (tl y) 0).getD i (0, Str.empty, 0)).2.1 = (giOf y).txt i := rfl
  rw [htx] at v2
  generalize (giOf y).txt i = ch at *
  w_fin
  refine WCmp_eqs (zP ?_)
  by_cases h40 : (ch == ofString "(") = true
  ·rw [if_pos h40] at v2
   refine zR h40 ?_
   w_fin
   exact ⟨⟨o + 1, by walk_at "l", v2⟩, rfl⟩
  ·rw [if_neg h40] at v2
   refine zS h40 ?_
   w_fin
   refine WCmp_eqs (zP ?_)
   by_cases h41 : (ch == ofString ")") = true
   ·rw [if_pos h41] at v2
    refine zR h41 ?_
    w_fin
    refine WIn_sub ?_
    w_fin
    cases o with
    | zero =>
     refine zR (by decide) ?_
     w_fin
     rw [show false = res from v2]
     exact ⟨S, ⟨fun _ _ e => e, fun _ _ e => e⟩, h⟩
    | succ o =>
     refine zS (by simp) ?_
     w_fin
     exact ⟨⟨o, by rw [show ((o : Int)) = ((o + 1 : Nat) : Int) - 1 by (simp)]; walk_at "l", v2⟩, rfl⟩
   rw [if_neg h41] at v2
   refine zS h41 ?_
   w_fin
   exact ⟨⟨o, by walk_at "l", v2⟩, rfl⟩
 refine zL q_ ?_; clear q_; intro nn_41 v3; obtain ⟨o, v1, v2⟩ := nn_41
 obtain ⟨mc, σ2⟩ := S3
 have v1 : mc (ofString "opens") = some (.int o 0) := v1
 obtain rfl : σ2 = S.σ := v3
 have hnil : (itemsL (tl y) 0).drop (giOf y).n = [] := List.drop_eq_nil_of_le (Nat.le_refl _)
 rw [hnil] at v2
 w_fin
 rw [show ((o : Int) == 0) = res by rw [← v2]; unfold chkI; cases o with | zero => rfl | succ o => rw [beq_eq_false_iff_ne.mpr (by lia)]; rfl]
 exact ⟨S, ⟨fun _ _ e => e, fun _ _ e => e⟩, h⟩
end
end
section
variable {P : Params}
theorem fmN (x : Int) {m : Nat} (h : 0 < m) : ∃ k : Nat, k < m /\ x.fmod (m : Int) = (k : Int) := by
 have h1 := Int.fmod_nonneg_of_pos x (Int.ofNat_lt.mpr h)
 have h2 := Int.fmod_lt_of_pos x (Int.ofNat_lt.mpr h)
 obtain ⟨k, hk⟩ := Int.eq_ofNat_of_zero_le h1
 exact ⟨k, Int.ofNat_lt.mp (hk ▸ h2), hk⟩
theorem pqb {j l : Nat} (h : l ≤ 9) : min j l + (l - (j + 1)) + 1 ≤ 1000 :=
 Nat.le_trans (Nat.succ_le_succ (Nat.add_le_add (Nat.le_trans (Nat.min_le_right _ _) h) (Nat.le_trans (Nat.sub_le _ _) h))) (by decide)
theorem pqc : ∀ k : Nat, k < 5 -> (9 - (k : Int)) ≠ 0 /\ (9 - (k : Int)).natAbs < 1073741824 := by decide
theorem pqk {k n : Nat} (h : (k : Int) < (n : Int) - 0) (hn : n ≤ 5) : k < 5 := by omega
theorem pqd {i k l : Nat} (h : k < (l - i) / 2) : i + 1 + 2 * k < l := by omega
theorem pqf (n : Nat) : ((-1 : Int) + n).toNat = n - 1 := by omega
theorem pqe (n : Nat) : (max 0 (min ((-1 : Int) + n) (n : Int))).toNat = n - 1 := by
 cases n with
 | zero => rfl
 | succ k =>
  rw [show (-1 : Int) + ((k + 1 : Nat) : Int) = (k : Int) from Int.neg_add_cancel_left 1 k |> fun e => by rw [← e, Int.natCast_add]; rw [Int.add_comm (k : Int) _]; rfl, Int.min_eq_left (Int.ofNat_le.mpr (Nat.le_succ k)), Int.max_eq_right (Int.natCast_nonneg k)]; rfl
theorem pqg {l : Nat} (h : 1 ≤ l) : (l : Int) - 1 - ((l / 2 : Nat) : Int) = ((l - 1 - l / 2 : Nat) : Int) := by
 rw [Int.ofNat_sub (Nat.le_sub_one_of_lt (Nat.div_lt_self h (by decide))), Int.ofNat_sub h]; rfl
theorem pqh (n : Nat) : (max 0 (min (4 : Int) (n : Int))).toNat = min 4 n := by
 rcases Nat.le_total 4 n with h | h
 ·rw [show min (4 : Int) (n : Int) = 4 from Int.min_eq_left (Int.ofNat_le.mpr h), Nat.min_eq_left h]; rfl
 rw [show min (4 : Int) (n : Int) = n from Int.min_eq_right (Int.ofNat_le.mpr h), Nat.min_eq_right h, Int.max_eq_right (Int.natCast_nonneg _)]; rfl
theorem pqi {i l a : Nat} (h : l ≤ 5) : min a (l - i) ≤ 5 := Nat.le_trans (Nat.min_le_right _ _) (Nat.le_trans (Nat.sub_le _ _) h)
theorem fn_spots (hK : g.K = hd.heap_1 P) : FnIs g.K 223 (bodyOf P 223) (fdOf P 223).scope (fdOf P 223) :=
 fnIs ⟨_, _, _, rfl⟩ (by kernel_rfl) rfl rfl rfl rfl hK
theorem so_spots : scopeOk (fdOf P 223).scope = true := by kernel_rfl
noncomputable def spotSt (draw : Int) : Nat -> List Int × List Int × Int
 | 0 => (rangeKs 0 9, [], draw)
 | k + 1 => let (p, s, d) := spotSt draw k
  (p.eraseIdx (d.fmod (9 - (k : Int))).toNat, s ++ [p.getD (d.fmod (9 - (k : Int))).toNat 0], d.fdiv (9 - (k : Int)))
noncomputable def spotsOf (draw : Int) (many : Nat) : List Int := (spotSt draw many).2.1
theorem spot_lt (draw : Int) (k : Nat) (h : k + 1 ≤ 8) (hl : (spotSt draw k).1.length = 9 - k) : ((spotSt draw k).2.2.fmod (9 - (k : Int))).toNat < (spotSt draw k).1.length := by
 have h1 := Int.fmod_nonneg_of_pos (spotSt draw k).2.2 (show 0 < 9 - (k : Int) by lia)
 have h2 := Int.fmod_lt_of_pos (spotSt draw k).2.2 (show 0 < 9 - (k : Int) by omega)
 omega
theorem spotSt_len (draw : Int) : ∀ k, k ≤ 8 -> (spotSt draw k).1.length = 9 - k /\ (spotSt draw k).2.1.length = k
 | 0, _ => ⟨by show (rangeKs 0 9).length = 9; rfl, rfl⟩
 | k + 1, h => by
  have ih := spotSt_len draw k (by exact Nat.le_of_lt ‹_›)
  have h3 := spot_lt draw k h ih.1
  constructor
  ·show ((spotSt draw k).1.eraseIdx _).length = _
   rw [List.length_eraseIdx_of_lt h3, ih.1]; rfl
  show ((spotSt draw k).2.1 ++ [_]).length = _
  rw [List.length_append, ih.2]; rfl
theorem iL_split {l : List Int} {j : Nat} (h : j < l.length) : iL l = iL (l.take j) ++ .int (l.getD j 0) 0 :: iL (l.drop (j + 1)) := by
 unfold iL
 rw [← List.map_cons (f := fun i => Value.int i 0), ← List.map_append, List.getD_eq_getElem?_getD, List.getElem?_eq_getElem h]
 show _ = List.map _ (_ ++ l[j] :: _)
 rw [← List.drop_eq_getElem_cons h, List.take_append_drop]
theorem iL_erase (l : List Int) (j : Nat) : iL (l.take j) ++ iL (l.drop (j + 1)) = iL (l.eraseIdx j) := by
 unfold iL
 rw [← List.map_append, List.eraseIdx_eq_take_drop_succ]
theorem iL_add (l : List Int) (i : Int) : iL l ++ [.int i 0] = iL (l ++ [i]) := by
 unfold iL
 rw [List.map_append]; rfl
theorem W_spots (hK : g.K = hd.heap_1 P) (hd : c.Deep 1) {draw : Int} {many : Nat} (hm : many ≤ 5)
  (h : ∀ r σ', S.σ r = none -> (∀ b o, S.σ b = some o -> σ' b = some o) -> σ' r = some (.list (iL (spotsOf draw many))) -> Q (.ref r) ⟨S.m, σ'⟩) : WC g c (.ref 223) [.int draw 0, .int many 0] S Q := by
 refine WC.drop (WC_def (n := 0) hd (fn_spots hK) so_spots (B := [(ofString "draw", .int draw 0), (ofString "many", .int many 0)]) (fun us hu => ?_) (by kernel_rfl) fun c' hs hx hd' => ?_)
 ·(refine zD (map2 hu) ?_; intro u u' rfl_1 hu1 hu2; subst rfl_1)
  exact ⟨[(ofString "draw", u), (ofString "many", u')], by kernel_rfl, by simp [hu1, hu2]⟩
 refine WXs.le (S' := ⟨setv (setv (fun _ => none) (ofString "draw") (.int draw 0)) (ofString "many") (.int many 0), S.σ⟩) ?_ (Le.refl _)
 show WXs g c' (_ :: _) _ _
 w_fin
 refine zw fun rb hr0 => ?_
 w_fin
 refine WC_listR (n := 9) zA (by decide) fun p hp => ?_
 have kp : ∀ b o, S.σ b = some o -> upd (upd S.σ rb (rngO 0 9 1)) p (.list (iL (rangeKs 0 9))) b = some o := fun b o e => zC hp b o (zC hr0 b o e)
 have hpp : upd (upd S.σ rb (rngO 0 9 1)) p (.list (iL (rangeKs 0 9))) p = some (.list (iL (rangeKs 0 9))) := zA
 have hps : S.σ p = none := (Le.new (S := S) (o := (.list [] : AO Str)) (zC hr0) hp).1
 generalize upd (upd S.σ rb (rngO 0 9 1)) p (.list (iL (rangeKs 0 9))) = σ1 at *
 w_fin
 refine ⟨Nat.zero_le _, fun q hq => ?_⟩
 have hq : σ1 q = none := hq
 have kp2 : ∀ b o, S.σ b = some o -> upd σ1 q (.list []) b = some o := fun b o e => zC hq b o (kp b o e)
 have hqq : upd σ1 q (.list []) q = some (.list (iL [])) := zA
 have hpq : upd σ1 q (.list []) p = some (.list (iL (rangeKs 0 9))) := zC hq _ _ hpp
 have hqs : S.σ q = none := (Le.new (S := S) (o := (.list [] : AO Str)) kp hq).1
 have hne : p ≠ q := fun e => by rw [← e, hpp] at hq; exact Mine.sn hq
 w_fin
 refine WX_ForR (fun _ _ => rfl) ?_
 w_fin
 refine zw fun r hr => ?_
 let Inv_1 : Nat -> St Str -> Prop := fun k S' => S'.m (ofString "pool") = some (.ref p) /\ S'.m (ofString "spots") = some (.ref q) /\ S'.m (ofString "draw") = some (.int (spotSt draw k).2.2 0) /\ S'.σ p = some (.list (iL (spotSt draw k).1)) /\ S'.σ q = some (.list (iL (spotSt draw k).2.1)) /\ (∀ b o, S.σ b = some o -> S'.σ b = some o)
 refine ⟨r, 0, many, rfl, zA, by decide, by decide, by exact om27 _, by exact om25 (Nat.le_trans ‹_› (by decide)), Inv_1, ⟨by walk_at "l", by walk_at "l", by walk_at "l", zC hr _ _ hpq, zC hr _ _ hqq, fun b o e => zC hr b o (kp2 b o e)⟩, fun k S1 hk q_ => ?_, fun S1 q_ => ?_⟩
 ·(refine zx q_ ?_; clear q_; intro h1 h2 h3 h4 h5 h6)
  obtain ⟨mf, σ2⟩ := S1
  have h1 : mf (ofString "pool") = _ := h1
  have h2 : mf (ofString "spots") = _ := h2
  have h3 : mf (ofString "draw") = _ := h3
  have h4 : σ2 p = _ := h4
  have h5 : σ2 q = _ := h5
  have len := spotSt_len draw k (by lia)
  have lt := spot_lt draw k (by lia) len.1
  have nn := Int.fmod_nonneg_of_pos (spotSt draw k).2.2 (show 0 < 9 - (k : Int) by lia)
  refine zo hs hx (by kernel_rfl) ?_
  rw [Int.zero_add]
  w_fin
  refine ⟨q, _, rfl, h5, ?_⟩
  w_fin
  refine WGM_list (S := ⟨_, σ2⟩) F.slot_list_pop F.type_list_pop h4 ?_
  w_fin
  refine WBin_mod (by lia) ?_
  w_fin
  refine WC_popAt (S := ⟨_, σ2⟩) (k := ((spotSt draw k).2.2.fmod (9 - (k : Int))).toNat) (by rw [← iL_split lt]; exact h4) (by exact (Int.toNat_of_nonneg ‹_›).symm) (by rw [zj, List.length_take]; exact (Nat.min_eq_left (Nat.le_of_lt lt)).symm) (by rw [zj, zj, List.length_take, List.length_drop]; exact pqb (by rw [len.1]; exact Nat.sub_le 9 k)) ?_
  rw [iL_erase]
  refine ⟨_, (if_neg (Ne.symm hne)).trans h5, by rw [zj, sizeLine_eq]; lia, ?_⟩
  rw [iL_add]
  w_fin
  refine WIn_floordiv (pqc k (pqk hk hm)).1 (pqc k (pqk hk hm)).2 ?_
  w_fin
  refine ⟨by walk_at "l", by walk_at "l", by walk_at "l", ?_, zA, fun b o e => ?_⟩
  ·exact (if_neg hne).trans zA
  refine (if_neg ?_).trans ((if_neg ?_).trans (h6 b o e))
  ·rintro rfl; rw [hqs] at e; exact Mine.ns e
  rintro rfl; rw [hps] at e; exact Mine.ns e
 refine zx q_ ?_; clear q_; intro h1 h2 h3 h4 h5 h6
 w_fin
 exact ⟨⟨S.m, S1.σ⟩, Le.refl _, h q S1.σ hqs h6 h5⟩
end
section
variable {P : Params}
theorem fn_modes (hK : g.K = hd.heap_1 P) : FnIs g.K 228 (bodyOf P 228) (fdOf P 228).scope (fdOf P 228) :=
 fnIs ⟨_, _, _, rfl⟩ (by kernel_rfl) rfl rfl rfl rfl hK
theorem so_modes : scopeOk (fdOf P 228).scope = true := by kernel_rfl
noncomputable def rightOf (s : Int) : Int := (256 : Int).fdiv (2 ^ s.toNat)
noncomputable def clearOf (base : Int) (spots : List Int) : Int := base - (spots.map fun s => Builtin.bitAnd base (rightOf s)).sum
noncomputable def setBits (spots : List Int) (mask : Nat) : List Int := (List.range spots.length).filterMap fun k => if Builtin.bitAnd ((mask : Int).fdiv (2 ^ k)) 1 = 1 then some (rightOf (spots.getD k 0)) else none
noncomputable def modeOf (base : Int) (spots : List Int) (mask : Nat) : Int := clearOf base spots + (setBits spots mask).sum
noncomputable def modesOf (base : Int) (spots : List Int) : List Int := (List.range (2 ^ spots.length)).map (modeOf base spots)
theorem areInt : ∀ l : List Int, AreInt (iL l) l
 | [] => .nil
 | x :: l => .cons x (areInt l)
theorem fm_some {α β : Type} (f : α -> β) (l : List α) : l.filterMap (fun x => some (f x)) = l.map f := congrFun List.filterMap_eq_map' l
theorem filterMap_iL {α : Type} (f : α -> Option Int) : ∀ l : List α, l.filterMap (fun x => (f x).map fun i => Value.int i 0) = iL (l.filterMap f)
 | [] => rfl
 | x :: l => by
  rw [List.filterMap_cons, List.filterMap_cons, filterMap_iL f l]
  cases f x <;> rfl
theorem W_modes (hK : g.K = hd.heap_1 P) (hd : c.Deep 1) {base : Int} {spots : List Int} (ha : S.σ a = some (.list (iL spots))) (hs0 : ∀ s ∈ spots, 0 ≤ s) (hl : spots.length ≤ 5)
  (h : ∀ r σ', S.σ r = none -> (∀ b o, S.σ b = some o -> σ' b = some o) -> σ' r = some (.list (iL (modesOf base spots))) -> Q (.ref r) ⟨S.m, σ'⟩) : WC g c (.ref 228) [.int base 0, .ref a] S Q := by
 refine WC.drop (WC_def (n := 0) hd (fn_modes hK) so_modes (B := [(ofString "base", .int base 0), (ofString "spots", .ref a)]) (fun us hu => ?_) (by kernel_rfl) fun c' hs hx hd' => ?_)
 ·(refine zD (map2 hu) ?_; intro u u' rfl_1 hu1 hu2; subst rfl_1)
  exact ⟨[(ofString "base", u), (ofString "spots", u')], by kernel_rfl, by simp [hu1, hu2]⟩
 refine WXs.le (S' := ⟨setv (setv (fun _ => none) (ofString "base") (.int base 0)) (ofString "spots") (.ref a), S.σ⟩) ?_ (Le.refl _)
 show WXs g c' (_ :: _) _ _
 refine z0 ?_
 intro Q_
 refine z5 hs hx (by kernel_rfl) ?_
 refine WE_CompV (fun _ _ => rfl) hs (by kernel_rfl) (by kernel_rfl) (by kernel_rfl) ?_
 w_fin
 refine .mk (Q := _) spots (fun s => .int s 0) (fun S => S.σ a = some (.list (iL spots))) (fun s => some (.int (rightOf s) 0)) (zU ha) (fun S2 k => k _ _ ha) (by exact Nat.le_trans ‹_› (by decide)) (fun c2 hsa hx2 _ y hy => ?_) fun A hA => ?_
 ·w_fin
  exact WBin_shr (hs0 y hy) ⟨rfl, zY (by kernel_rfl)⟩
 rw [fm_some]
 have hA : S.σ A = none := hA
 have ha1 : upd S.σ A (.list (spots.map fun s => Value.int (rightOf s) 0)) a = some (.list (iL spots)) := zC hA _ _ ha
 have hra : upd S.σ A (.list (spots.map fun s => Value.int (rightOf s) 0)) A = some (.list (iL (spots.map rightOf))) := zA.trans (by unfold iL; rw [List.map_map]; rfl)
 have kp1 : ∀ b o, S.σ b = some o -> upd S.σ A (.list (spots.map fun s => Value.int (rightOf s) 0)) b = some o := zC hA
 show Q_ Flow.next ⟨_, upd S.σ A (.list (spots.map fun s => Value.int (rightOf s) 0))⟩
 generalize upd S.σ A (.list (spots.map fun s => Value.int (rightOf s) 0)) = σ1 at *
 w_fin
 refine WE_CompV (fun _ _ => rfl) hs (by kernel_rfl) (by kernel_rfl) (by kernel_rfl) ?_
 w_fin
 refine .mk (Q := _) (spots.map rightOf) (fun s => .int s 0) (fun S => S.σ A = some (.list (iL (spots.map rightOf)))) (fun s => some (.int (Builtin.bitAnd base s) 0)) (zU (S := ⟨_, σ1⟩) hra) (fun S2 k => k _ _ hra) (by rw [List.length_map]; omega) (fun c2 hsa hx2 _ y hy => ?_) fun B hB => ?_
 ·w_fin
  exact ⟨rfl, zY (by kernel_rfl)⟩
 rw [fm_some]
 have hB : σ1 B = none := hB
 have eB : (spots.map rightOf).map (fun s => Value.int (Builtin.bitAnd base s) 0) = iL (spots.map fun s => Builtin.bitAnd base (rightOf s)) := by unfold iL; rw [List.map_map, List.map_map]; rfl
 rw [eB]
 refine WEs_nil ?_
 refine WC_sum (S := ⟨_, upd σ1 B _⟩) zA (areInt _) ?_
 refine WBin_sub ?_
 show Q_ Flow.next ⟨_, upd σ1 B (.list (iL (spots.map fun s => Builtin.bitAnd base (rightOf s))))⟩
 have ha2 : upd σ1 B (.list (iL (spots.map fun s => Builtin.bitAnd base (rightOf s)))) a = some (.list (iL spots)) := zC hB _ _ ha1
 have hrb : upd σ1 B (.list (iL (spots.map fun s => Builtin.bitAnd base (rightOf s)))) A = some (.list (iL (spots.map rightOf))) := zC hB _ _ hra
 have kp2 : ∀ b o, S.σ b = some o -> upd σ1 B (.list (iL (spots.map fun s => Builtin.bitAnd base (rightOf s)))) b = some o := fun b o e => zC hB _ _ (kp1 b o e)
 have hA2 : ∀ x, upd σ1 B (.list (iL (spots.map fun s => Builtin.bitAnd base (rightOf s)))) x = none -> S.σ x = none := fun x e => by
  cases q : S.σ x with
  | none => rfl
  | some o => rw [kp2 x o q] at e; exact Mine.sn e
 generalize upd σ1 B (.list (iL (spots.map fun s => Builtin.bitAnd base (rightOf s)))) = σ2 at *
 have ecl : base - (spots.map fun s => Builtin.bitAnd base (rightOf s)).sum = clearOf base spots := rfl
 rw [ecl]
 show WXs g c' (_ :: _) _ _
 refine WXs.le (S' := ⟨setv (setv (setv (setv (fun _ => none) (ofString "base") (.int base 0)) (ofString "spots") (.ref a)) (ofString "rights") (.ref A)) (ofString "clear") (.int (clearOf base spots) 0), σ2⟩) ?_ (Le.refl _)
 generalize hcl : clearOf base spots = cl at *
 show WXs g c' (_ :: _) ⟨_, σ2⟩ _
 refine WXs_gen7 (x1 := ofString "base") (x2 := ofString "spots") (x3 := ofString "rights") (x4 := ofString "clear") (x5 := ofString "clear") (x6 := ofString "clear") (x7 := ofString "clear") (by walk_at "l") (by walk_at "l") (by walk_at "l") (by walk_at "l") (by walk_at "l") (by walk_at "l") (by walk_at "l") fun mf v1 v2 v3 v4 v5 v6 v7 => ?_
 w_fin
 refine z7 (S := ⟨_, σ2⟩) (.inl ha2) (by rw [zj]; exact om26 (Nat.le_trans ‹_› (by decide))) ?_
 rw [zj]
 refine WBin_shl (by exact Int.natCast_nonneg _) (by lia) (by decide) ?_
 rw [show (1 : Int) * 2 ^ (spots.length : Int).toNat = ((2 ^ spots.length : Nat) : Int) by rw [Int.toNat_natCast, Int.one_mul]; exact (Int.natCast_pow 2 _).symm]
 w_fin
 have h32 : 2 ^ spots.length ≤ 32 := Nat.le_trans (Nat.pow_le_pow_right (by decide) hl) (by decide)
 refine WE_CompVR (fun _ _ => rfl) hs (by kernel_rfl) (by kernel_rfl) (by kernel_rfl) ?_
 w_fin
 refine zw fun r hr => ?_
 have hr : σ2 r = none := hr
 have ha3 : upd σ2 r (rngO 0 ((2 ^ spots.length : Nat) : Int) 1) a = some (.list (iL spots)) := zC hr _ _ ha2
 have hr3 : upd σ2 r (rngO 0 ((2 ^ spots.length : Nat) : Int) 1) A = some (.list (iL (spots.map rightOf))) := zC hr _ _ hrb
 have kp3 : ∀ b o, S.σ b = some o -> upd σ2 r (rngO 0 ((2 ^ spots.length : Nat) : Int) 1) b = some o := fun b o e => zC hr _ _ (kp2 b o e)
 have hrr : upd σ2 r (rngO 0 ((2 ^ spots.length : Nat) : Int) 1) r = some (rngO 0 ((2 ^ spots.length : Nat) : Int) 1) := zA
 have hA3 : ∀ x, upd σ2 r (rngO 0 ((2 ^ spots.length : Nat) : Int) 1) x = none -> S.σ x = none := fun x e => by
  cases q : S.σ x with
  | none => rfl
  | some o => rw [kp3 x o q] at e; exact Mine.sn e
 generalize hsz : (2 ^ spots.length : Nat) = sz at *
 show CompVRPost g c' _ _ _ _ _ _ _ ⟨_, upd σ2 r (rngO 0 (sz : Int) 1)⟩
 generalize upd σ2 r (rngO 0 (sz : Int) 1) = σ3 at *
 refine .mk (Q := _) r 0 1 sz (fun m => some (.int (cl + (setBits spots m).sum) 0)) rfl hrr (small_nat (by lia) (by lia) (by lia) (by lia)) (size1 _) (by exact Nat.le_trans ‹_› (by decide)) (fun c2 hsa hx2 _ y hy => ?_) fun D hD => ?_
 ·rw [Int.zero_add, Int.mul_one]
  w_fin
  refine WE_CompVR (fun _ _ => rfl) hsa (by kernel_rfl) (by kernel_rfl) (by kernel_rfl) ?_
  w_fin
  refine z7 (S := ⟨_, σ3⟩) (.inl ha3) (by rw [zj]; exact om26 (Nat.le_trans ‹_› (by decide))) ?_
  rw [zj]
  w_fin
  refine zw fun r' hr' => ?_
  have hr' : σ3 r' = none := hr'
  have hr4 : upd σ3 r' (rngO 0 (spots.length : Int) 1) A = some (.list (iL (spots.map rightOf))) := zC hr' _ _ hr3
  have hr4' : upd σ3 r' (rngO 0 (spots.length : Int) 1) r' = some (rngO 0 (spots.length : Int) 1) := zA
  have kp4 : ∀ b o, σ3 b = some o -> upd σ3 r' (rngO 0 (spots.length : Int) 1) b = some o := zC hr'
  show CompVRPost g c2 _ _ _ _ _ _ _ ⟨_, upd σ3 r' (rngO 0 (spots.length : Int) 1)⟩
  generalize upd σ3 r' (rngO 0 (spots.length : Int) 1) = σ4 at *
  refine .mk (Q := _) r' 0 1 spots.length (fun k => (if Builtin.bitAnd ((y : Int).fdiv (2 ^ k)) 1 = 1 then some (rightOf (spots.getD k 0)) else none).map fun i => Value.int i 0) rfl hr4' (small_nat (by lia) (by lia) (by lia) (by lia)) (size1 _) (by exact Nat.le_trans ‹_› (by decide)) (fun c3 hs3 hx3 _ k hk => ?_) fun D hD => ?_
  ·rw [Int.zero_add, Int.mul_one]
   w_fin
   refine WBin_shr (by exact Int.natCast_nonneg _) ?_
   rw [Int.toNat_natCast]
   w_fin
   by_cases q : Builtin.bitAnd ((y : Int).fdiv (2 ^ k)) 1 = 1
   ·rw [if_pos q]
    rw [show (Builtin.bitAnd ((y : Int).fdiv (2 ^ k)) 1 == 1) = true by rw [q]; rfl]
    w_fin
    exact WSub_iL (S := ⟨_, σ4⟩) (j := rightOf (spots.getD k 0)) hr4 (by exact Int.natCast_nonneg _) (by lia) (by rw [Int.toNat_natCast, List.getElem?_map, List.getD_eq_getElem?_getD, List.getElem?_eq_getElem hk]; rfl) ⟨rfl, zY (by kernel_rfl)⟩
   rw [if_neg q]
   rw [show (Builtin.bitAnd ((y : Int).fdiv (2 ^ k)) 1 == 1) = false from decide_eq_false q]
   refine zS Bool.false_ne_true ?_
   exact ⟨rfl, zY (by kernel_rfl)⟩
  have hD : σ4 D = none := hD
  rw [filterMap_iL]
  refine WEs_nil ?_
  refine WC_sum (S := ⟨_, upd σ4 D _⟩) zA (areInt _) ?_
  refine WBin_add ?_
  exact ⟨rfl, (zY (σ := σ3) (by kernel_rfl)).m, fun b o e => zC hD _ _ (kp4 _ _ e)⟩
 have hD : σ3 D = none := hD
 rw [fm_some]
 have eD : (List.range sz).map (fun m => Value.int (cl + (setBits spots m).sum) 0) = iL (modesOf base spots) := by
  unfold modesOf modeOf iL
  rw [List.map_map, hcl, hsz]; rfl
 rw [eD]
 exact ⟨⟨S.m, upd σ3 D (.list (iL (modesOf base spots)))⟩, ⟨fun _ _ e => e, fun _ _ e => e⟩, h D _ (hA3 D hD) (fun b o e => zC hD _ _ (kp3 b o e)) zA⟩
end
section
variable {P : Params}
theorem map4 {us : List Value} {v w x y : Value} (h : us.map er = [v, w, x, y]) : ∃ u1 u2 u3 u4, us = [u1, u2, u3, u4] /\ er u1 = v /\ er u2 = w /\ er u3 = x /\ er u4 = y := by
 obtain ⟨p, r, e, h1, h2⟩ := map_cons h
 obtain ⟨u2, u3, u4, e2, h3⟩ := map3 h2
 exact ⟨p, u2, u3, u4, by rw [e, e2], h1, h3⟩
theorem fn_pieces (hK : g.K = hd.heap_1 P) : FnIs g.K 233 (bodyOf P 233) (fdOf P 233).scope (fdOf P 233) :=
 fnIs ⟨_, _, _, rfl⟩ (by kernel_rfl) rfl rfl rfl rfl hK
theorem so_pieces : scopeOk (fdOf P 233).scope = true := by kernel_rfl
noncomputable def isRight (row : Str) (s : Int) : Bool := !(Builtin.Str.occurrences (ofString "rwxst") (chr1 (chAt row (1 + s))) 0 (ofString "rwxst").length 1).isEmpty
noncomputable def brOf (row : Str) (s : Int) : Str := if isRight row s = true then ofString ")" else ofString "("
noncomputable def piecesOf (row : Str) (spots : List Int) (hidden : Str) (n : Nat) : List Str := (spots.map (brOf row)).set n ((spots.map (brOf row)).getD n Str.empty ++ hidden)
theorem W_pieces (hK : g.K = hd.heap_1 P) (hd : c.Deep 1) {row : Str} {spots : List Int} {hidden : Str} {n : Nat} (ha : S.σ a = some (.list (iL spots))) (hs0 : ∀ s ∈ spots, 0 ≤ s /\ s < 9) (hr : row.length = 10) (hl : spots.length ≤ 5) (hn : n < spots.length) (hh : hidden.length ≤ 3)
  (h : ∀ r σ', S.σ r = none -> (∀ b o, S.σ b = some o -> σ' b = some o) -> σ' r = some (.list (sL (piecesOf row spots hidden n))) -> Q (.ref r) ⟨S.m, σ'⟩) : WC g c (.ref 233) [.str row 0, .ref a, .str hidden 0, .int n 0] S Q := by
 refine WC.drop (WC_def (n := 0) hd (fn_pieces hK) so_pieces (B := [(ofString "row", .str row 0), (ofString "spots", .ref a), (ofString "hidden", .str hidden 0), (ofString "at", .int n 0)]) (fun us hu => ?_) (by kernel_rfl) fun c' hs hx hd' => ?_)
 ·obtain ⟨u1, u2, u3, u4, rfl, h1, h2, h3, h4⟩ := map4 hu
  exact ⟨[(ofString "row", u1), (ofString "spots", u2), (ofString "hidden", u3), (ofString "at", u4)], by kernel_rfl, by simp [h1, h2, h3, h4]⟩
 refine WXs.le (S' := ⟨setv (setv (setv (setv (fun _ => none) (ofString "row") (.str row 0)) (ofString "spots") (.ref a)) (ofString "hidden") (.str hidden 0)) (ofString "at") (.int n 0), S.σ⟩) ?_ (Le.refl _)
 show WXs g c' (_ :: _) _ _
 refine z0 ?_
 intro Q_
 refine WX_CompV (fun _ _ => rfl) hs (by kernel_rfl) (by kernel_rfl) (by kernel_rfl) hx (by kernel_rfl) (by kernel_rfl) ?_
 w_fin
 refine .mk (Q := _) spots (fun s => .int s 0) (fun S => S.σ a = some (.list (iL spots))) (fun s => some (.str (brOf row s) 0)) (zU ha) (fun S2 k => k _ _ ha) (by exact Nat.le_trans ‹_› (by decide)) (fun c2 hsa hx2 _ y hy => ?_) fun A hA => ?_
 ·have := hs0 y hy
  w_fin
  refine zV (by lia) (by lia) (by lia) ?_
  w_fin
  refine WCmp_inStr (zP ?_)
  by_cases q : isRight row y = true
  ·refine zR q ?_
   w_fin
   exact ⟨by unfold brOf; rw [if_pos q], zY (by kernel_rfl)⟩
  refine zS q ?_
  w_fin
  exact ⟨by unfold brOf; rw [if_neg q], zY (by kernel_rfl)⟩
 have hA : S.σ A = none := hA
 rw [fm_some]
 have eA : (spots.map fun s => Value.str (brOf row s) 0) = sL (spots.map (brOf row)) := by unfold sL; rw [List.map_map]; rfl
 rw [eA]
 have kp : ∀ b o, S.σ b = some o -> upd S.σ A (.list (sL (spots.map (brOf row)))) b = some o := zC hA
 have hAA : upd S.σ A (.list (sL (spots.map (brOf row)))) A = some (.list (sL (spots.map (brOf row)))) := zA
 show Q_ Flow.next ⟨_, upd S.σ A (.list (sL (spots.map (brOf row))))⟩
 have hln : (spots.map (brOf row)).length = spots.length := List.length_map _
 have hbr : ∀ s : Str, s ∈ spots.map (brOf row) -> s.length = 1 := fun s h => by
  obtain ⟨y, _, rfl⟩ := List.mem_map.mp h
  unfold brOf; split <;> kernel_rfl
 unfold piecesOf at h
 generalize upd S.σ A (.list (sL (spots.map (brOf row)))) = σ1 at *
 generalize spots.map (brOf row) = ps at *
 w_fin
 refine WX_AugSub (fun _ _ _ => rfl) ?_
 w_fin
 have hn2 : n < ps.length := by lia
 have hsl : (sL ps)[(n : Int).toNat]? = some (.str (ps.getD n Str.empty) 0) := by
  rw [Int.toNat_natCast]; unfold sL; rw [List.getElem?_map, List.getElem?_eq_getElem hn2, List.getD_eq_getElem?_getD, List.getElem?_eq_getElem hn2]; rfl
 have hl1 : (ps.getD n Str.empty).length = 1 := hbr _ (by rw [List.getD_eq_getElem?_getD, List.getElem?_eq_getElem hn2]; exact List.getElem_mem _)
 refine WItem_list (S := ⟨_, σ1⟩) hAA (by exact Int.natCast_nonneg _) (by lia) hsl ?_
 w_fin
 refine WIn_adds (by rw [hl1, sizeLine_eq]; lia) ?_
 refine WSetItem_list (S := ⟨_, σ1⟩) hAA (by exact Int.natCast_nonneg _) (by omega) (by unfold sL; rw [List.length_map]; exact om15 ‹_›) ?_
 have eS : (sL ps).set (n : Int).toNat (.str (ps.getD n Str.empty ++ hidden) 0) = sL (ps.set n (ps.getD n Str.empty ++ hidden)) := by rw [Int.toNat_natCast]; unfold sL; rw [List.map_set]
 rw [eS]
 w_fin
 exact ⟨⟨S.m, upd σ1 A (.list (sL (ps.set n (ps.getD n Str.empty ++ hidden))))⟩, ⟨fun _ _ e => e, fun _ _ e => e⟩, h A _ hA (fun b o e => (if_neg (by rintro rfl; rw [hA] at e; exact Mine.ns e)).trans (kp b o e)) zA⟩
end
section
variable {P : Params}
theorem fn_free (hK : g.K = hd.heap_1 P) : FnIs g.K 238 (bodyOf P 238) (fdOf P 238).scope (fdOf P 238) :=
 fnIs ⟨_, _, _, rfl⟩ (by kernel_rfl) rfl rfl rfl rfl hK
theorem so_free : scopeOk (fdOf P 238).scope = true := by kernel_rfl
noncomputable def opn (p : Str) : Bool := chr1 (chAt p 0) == ofString "("
noncomputable def clo (p : Str) : Bool := chr1 (chAt p 0) == ofString ")"
noncomputable def sliceS (ps : List Str) (i j : Nat) : Str := Txt.join (ofString "") ((ps.drop i).take (j + 1 - i))
noncomputable def okS (z : Str) : Bool := chkI (itemsL (unq (tl z)).1 0) 0
noncomputable def endsOf (ps : List Str) (i : Nat) : List Nat := (List.range ((ps.length - i) / 2)).filterMap fun k => if clo (ps.getD (i + 1 + 2 * k) Str.empty) = true then some (i + 1 + 2 * k) else none
noncomputable def matesOf (ps : List Str) (i : Nat) : List Nat := (endsOf ps i).filterMap fun j => if okS (sliceS ps i j) = true then some j else none
noncomputable def freeAt (ps : List Str) (i : Nat) : Bool := opn (ps.getD i Str.empty) && (matesOf ps i).isEmpty
noncomputable def freeOf (ps : List Str) : Int := match (List.range ps.length).find? (freeAt ps) with | some i => i | none => -1
structure TextOk (z : Str) : Prop where
 esc : Esc z
 len : z.length ≤ 1000
 quo : (unq (tl z)).2 = false
theorem rng_two : ∀ n : Nat, n < 6 -> ∀ a : Nat, a < n -> (Builtin.Range.small ((a : Int) + 1) n 2 = true /\ Builtin.Range.rangeSize ((a : Int) + 1) n 2 = ((n - a) / 2 : Nat) /\ Builtin.divisionGoesByPylong ((n : Int) - ((a : Int) + 1)) 2 = false) := by decide +kernel
theorem filterMap_nL {α : Type} (f : α -> Option Nat) : ∀ l : List α, l.filterMap (fun x => (f x).map fun i => Value.int (i : Nat) 0) = (l.filterMap f).map fun i => Value.int (i : Nat) 0
 | [] => rfl
 | x :: l => by
  rw [List.filterMap_cons, List.filterMap_cons, filterMap_nL f l]
  cases f x <;> rfl
theorem pick_mid {vs : List Value} {s t : Nat} (hs : s ≤ t) (ht : t ≤ vs.length) : pickL vs (some s) (some t) = (vs.drop s).take (t - s) := by
 unfold pickL clipAt
 simp only [Option.elim]
 rw [if_neg (by (simp)), if_neg (by (simp))]
 have e1 : (max 0 (min (s : Int) (vs.length : Int))).toNat = s := om04 (Nat.le_trans hs ht)
 have e2 : (max 0 (min (t : Int) (vs.length : Int))).toNat = t := by exact om04 ‹_›
 rw [e1, e2]
theorem sL_mid (ps : List Str) (s t : Nat) : ((sL ps).drop s).take t = sL ((ps.drop s).take t) := by unfold sL; rw [List.map_take, List.map_drop]
theorem sL_len (ps : List Str) : (sL ps).length = ps.length := List.length_map _
theorem sL_at {ps : List Str} {i : Nat} (h : i < ps.length) : (sL ps)[(i : Int).toNat]? = some (.str (ps.getD i Str.empty) 0) := by
 rw [Int.toNat_natCast]; unfold sL; rw [List.getElem?_map, List.getElem?_eq_getElem h, List.getD_eq_getElem?_getD, List.getElem?_eq_getElem h]; rfl
theorem sum_le : ∀ l : List Str, (∀ p ∈ l, p.length ≤ 4) -> (l.map fun x => x.length).sum ≤ 4 * l.length
 | [], _ => Nat.le_refl _
 | p :: l, h => by
  have h1 := sum_le l fun q hq => h q (.tail _ hq)
  have h2 := h p (.head _)
  rw [List.map_cons, List.sum_cons, List.length_cons]
  lia
theorem find_at {α : Type} : ∀ {l : List α} {p : α -> Bool} {k : Nat} {x : α}, l[k]? = some x -> p x = true -> (∀ j y, j < k -> l[j]? = some y -> p y = false) -> l.find? p = some x
 | [], _, _, _, h, _, _ => nomatch h
 | y :: l, p, 0, x, h, hp, _ => by (replace h := Option.some.inj h; subst h); rw [List.find?_cons, hp]
 | y :: l, p, k + 1, x, h, hp, hn => by
  rw [List.find?_cons, hn 0 y (Nat.succ_pos _) rfl]
  exact find_at (k := k) (l := l) h hp fun j z hj hz => hn (j + 1) z (Nat.succ_lt_succ hj) hz
theorem free_some {ps : List Str} {i : Nat} (hi : i < ps.length) (h : freeAt ps i = true) (no : ∀ j, j < i -> freeAt ps j = false) : freeOf ps = i := by
 unfold freeOf
 rw [find_at (k := i) (List.getElem?_range hi) h fun j y hj hy => ?_]
 rw [List.getElem?_range (by exact Nat.lt_trans ‹_› ‹_›)] at hy
 rw [← Option.some.inj hy]; exact no j hj
theorem free_none {ps : List Str} (no : ∀ j, j < ps.length -> freeAt ps j = false) : freeOf ps = -1 := by
 unfold freeOf
 rw [List.find?_eq_none.mpr fun x hx => by rw [no x (List.mem_range.mp hx)]; exact Bool.false_ne_true]
theorem W_free (hK : g.K = hd.heap_1 P) (hd : c.Deep 6) {ps : List Str} (ha : S.σ a = some (.list (sL ps))) (hl : ps.length ≤ 5) (hp : ∀ p ∈ ps, 1 ≤ p.length /\ p.length ≤ 4) (hz : ∀ i j, i < j -> j < ps.length -> TextOk (sliceS ps i j))
  (h : Q (.int (freeOf ps) 0) S) : WC g c (.ref 238) [.ref a] S Q := by
 refine WC.drop (WC_def (n := 5) hd (fn_free hK) so_free (B := [(ofString "pieces", .ref a)]) (fun us hu => ?_) (by kernel_rfl) fun c' hs hx hd' => ?_)
 ·(refine zB (z3 hu) ?_; intro u rfl_1; intro hu1; subst rfl_1)
  exact ⟨[(ofString "pieces", u)], by kernel_rfl, by simp [hu1]⟩
 refine WXs.le (S' := ⟨setv (fun _ => none) (ofString "pieces") (.ref a), S.σ⟩) ?_ (Le.refl _)
 show WXs g c' (_ :: _) _ _
 refine z0 ?_
 intro Q_
 refine WX_ForR (fun _ _ => rfl) ?_
 w_fin
 refine z7 (.inl ha) (by rw [sL_len]; exact om26 (Nat.le_trans ‹_› (by decide))) ?_
 rw [sL_len]
 w_fin
 refine zw fun r hr => ?_
 let Inv_1 : Nat -> St Str -> Prop := fun k S' => S'.m (ofString "pieces") = some (.ref a) /\ (∀ b o, S.σ b = some o -> S'.σ b = some o) /\ ∀ j, j < k -> freeAt ps j = false
 refine ⟨r, 0, ps.length, rfl, zA, by decide, by decide, by exact om27 _, by exact om25 (Nat.le_trans ‹_› (by decide)), Inv_1, ⟨by walk_at "l", fun b o e => zC hr b o e, fun j h => absurd h (Nat.not_lt_zero _)⟩, fun i S1 hi q_ => ?_, fun S1 q_ => ?_⟩
 ·obtain ⟨h1, kp, no⟩ := q_
  obtain ⟨mf, σ2⟩ := S1
  have h1 : mf (ofString "pieces") = _ := h1
  have kp : ∀ b o, S.σ b = some o -> σ2 b = some o := kp
  have hi : i < ps.length := by exact om22 ‹_›
  have hpl : σ2 a = some (.list (sL ps)) := kp _ _ ha
  have hpi : ∀ j, j < ps.length -> 1 ≤ (ps.getD j Str.empty).length /\ (ps.getD j Str.empty).length ≤ 4 := fun j hj => hp _ (by rw [List.getD_eq_getElem?_getD, List.getElem?_eq_getElem hj]; exact List.getElem_mem _)
  have no' : freeAt ps i = false -> ∀ j, j < i + 1 -> freeAt ps j = false := fun e j hj => by
   by_cases q : j = i
   ·subst q; exact e
   exact no j (by exact om11 ‹_› ‹_›)
  refine zo hs hx (by kernel_rfl) ?_
  rw [Int.zero_add]
  w_fin
  refine zW (S := ⟨_, σ2⟩) hpl (by exact Int.natCast_nonneg _) (by lia) (sL_at hi) ?_
  w_fin
  have hpi1 := hpi i hi
  refine zV (by exact Int.natCast_nonneg _) (by lia) (by lia) ?_
  w_fin
  refine WCmp_eqs (zP ?_)
  show if opn (ps.getD i Str.empty) = true then _ else _
  by_cases q : opn (ps.getD i Str.empty) = true
  ·refine zR q ?_
   refine z0 ?_
   intro Q_2
   refine WX_CompVR (fun _ _ => rfl) hs (by kernel_rfl) (by kernel_rfl) (by kernel_rfl) hx (by kernel_rfl) (by kernel_rfl) ?_
   w_fin
   refine z7 (S := ⟨_, σ2⟩) (.inl hpl) (by rw [sL_len]; exact om26 (Nat.le_trans ‹_› (by decide))) ?_
   rw [sL_len]
   w_fin
   obtain ⟨r1, r2, r3⟩ := rng_two ps.length (by exact Nat.lt_succ_of_le ‹_›) i hi
   refine WC_range3 (by decide) r3 fun r' hr' => ?_
   have hr' : σ2 r' = none := hr'
   have hrr : upd σ2 r' (rngO ((i : Int) + 1) ps.length 2) r' = some (rngO ((i : Int) + 1) ps.length 2) := zA
   have hpl3 : upd σ2 r' (rngO ((i : Int) + 1) ps.length 2) a = some (.list (sL ps)) := zC hr' _ _ hpl
   have kp3 : ∀ b o, S.σ b = some o -> upd σ2 r' (rngO ((i : Int) + 1) ps.length 2) b = some o := fun b o e => zC hr' _ _ (kp b o e)
   show CompVRPost g c' _ _ _ _ _ _ _ ⟨_, upd σ2 r' (rngO ((i : Int) + 1) ps.length 2)⟩
   generalize upd σ2 r' (rngO ((i : Int) + 1) ps.length 2) = σ3 at *
   refine .mk (Q := _) r' (i + 1) 2 ((ps.length - i) / 2) (fun k => (if clo (ps.getD (i + 1 + 2 * k) Str.empty) = true then some (i + 1 + 2 * k) else none).map fun j => Value.int (j : Nat) 0) rfl hrr r1 r2 (by lia) (fun c2 hsa hx2 _ k hk => ?_) fun D hD => ?_
   ·rw [show ((i : Int) + 1 + (k : Int) * 2) = ((i + 1 + 2 * k : Nat) : Int) by lia]
    have hj : i + 1 + 2 * k < ps.length := pqd hk
    generalize i + 1 + 2 * k = j at *
    have hpj := hpi j hj
    w_fin
    refine zW (S := ⟨_, σ3⟩) hpl3 (by exact Int.natCast_nonneg _) (by lia) (sL_at hj) ?_
    w_fin
    refine zV (by exact Int.natCast_nonneg _) (by lia) (by lia) ?_
    w_fin
    refine WCmp_eqs ?_
    refine zP ?_
    show if clo (ps.getD j Str.empty) = true then _ else _
    by_cases q : clo (ps.getD j Str.empty) = true
    ·refine zR q ?_
     rw [if_pos q]
     w_fin
     exact ⟨rfl, zY (by kernel_rfl)⟩
    refine zS q ?_
    rw [if_neg q]
    exact ⟨rfl, zY (by kernel_rfl)⟩
   rw [filterMap_nL]
   show Q_2 Flow.next ⟨_, upd σ3 D (.list ((endsOf ps i).map fun i => Value.int (i : Nat) 0))⟩
   have hD : σ3 D = none := hD
   have hDD : upd σ3 D (.list ((endsOf ps i).map fun i => Value.int (i : Nat) 0)) D = some (.list ((endsOf ps i).map fun i => Value.int (i : Nat) 0)) := zA
   have hpl4 := zC (o := .list ((endsOf ps i).map fun i => Value.int (i : Nat) 0)) hD _ _ hpl3
   have kp4 : ∀ b o, S.σ b = some o -> upd σ3 D (.list ((endsOf ps i).map fun i => Value.int (i : Nat) 0)) b = some o := fun b o e => zC hD _ _ (kp3 b o e)
   have hends : ∀ j ∈ endsOf ps i, i < j /\ j < ps.length := fun j hj => by
    obtain ⟨k, hk, e⟩ := List.mem_filterMap.mp hj
    split at e
    ·exact Option.some.inj e ▸ ⟨Nat.lt_of_lt_of_le (Nat.lt_succ_self i) (Nat.le_add_right _ _), pqd (List.mem_range.mp hk)⟩
    exact nomatch e
   have hendl : (endsOf ps i).length ≤ 5 := Nat.le_trans (List.length_filterMap_le _ _) (by rw [List.length_range]; lia)
   generalize upd σ3 D (.list ((endsOf ps i).map fun i => Value.int (i : Nat) 0)) = σ4 at *
   generalize hen : endsOf ps i = en at *
   show WXs g c' (_ :: _) _ _
   refine WXs.le (S' := ⟨setv (setv mf (ofString "i") (.int i 0)) (ofString "ends") (.ref D), σ4⟩) ?_ ⟨fun _ _ e => e, fun _ _ e => e⟩
   w_fin
   refine WE_CompV (fun _ _ => rfl) hs (by kernel_rfl) (by kernel_rfl) (by kernel_rfl) ?_
   w_fin
   refine .mk (Q := _) en (fun j => .int (j : Nat) 0) (fun S => S.σ D = some (.list (en.map fun i => Value.int (i : Nat) 0))) (fun j => (if okS (sliceS ps i j) = true then some j else none).map fun j => Value.int (j : Nat) 0) (zU (S := ⟨_, σ4⟩) hDD) (fun S2 k => k _ _ hDD) (by exact Nat.le_trans ‹_› (by decide)) (fun c2 hsa hx2 hd2 j hj => ?_) fun E hE => ?_
   ·obtain ⟨hij, hjl⟩ := hends j hj
    have tz := hz i j hij hjl
    w_fin
    refine ⟨_, rfl, ?_⟩
    refine WE_SliceL ?_
    w_fin
    refine ⟨a, rfl, zn (S := ⟨_, σ4⟩) ?_⟩
    w_fin
    refine ⟨_, rfl, zn ?_⟩
    w_fin
    refine ⟨_, rfl, sL ps, .inl hpl4, by rw [sL_len, sizeLine_eq]; exact Nat.le_trans ‹_› (by decide), fun F hF => ?_⟩
    rw [show ((j : Int) + 1) = ((j + 1 : Nat) : Int) by (constructor <;> assumption), pick_mid (by lia) (by rw [sL_len]; assumption), sL_mid]
    have hF : σ4 F = none := hF
    unfold sliceS at tz ⊢
    refine ⟨F, _, (ps.drop i).take (j + 1 - i), rfl, zA, sL_are _, ?_, ?_⟩
    ·rw [show (ofString "").length = 0 by kernel_rfl, Nat.mul_zero, Nat.add_zero]
     refine Nat.le_trans (sum_le _ fun p h => (hp p (List.mem_of_mem_drop (List.mem_of_mem_take h))).2) ?_
     rw [List.length_take, List.length_drop]; exact Nat.le_trans (Nat.mul_le_mul_left 4 (pqi hl)) (by decide)
    w_fin
    refine W_check hK (hd2 _ (hd'.less (by decide))) tz.esc tz.len tz.quo ?_
    w_fin
    refine WCmp_isBool (zP ?_)
    show if (okS _ == true) = true then _ else _
    cases q : okS (Txt.join (ofString "") ((ps.drop i).take (j + 1 - i))) with
    | true =>
     refine zR rfl ?_
     w_fin
     exact ⟨rfl, (zY (σ := σ4) (by kernel_rfl)).m, fun b o e => zC hF _ _ e⟩
    | false =>
     refine zS Bool.false_ne_true ?_
     exact ⟨rfl, (zY (σ := σ4) (by kernel_rfl)).m, fun b o e => zC hF _ _ e⟩
   have hE : σ4 E = none := hE
   rw [filterMap_nL]
   have hEE : upd σ4 E (.list ((en.filterMap fun j => if okS (sliceS ps i j) = true then some j else none).map fun i => Value.int (i : Nat) 0)) E = _ := zA
   have kp5 : ∀ b o, S.σ b = some o -> upd σ4 E (.list ((en.filterMap fun j => if okS (sliceS ps i j) = true then some j else none).map fun i => Value.int (i : Nat) 0)) b = some o := fun b o e => zC hE _ _ (kp4 b o e)
   have hml : (en.filterMap fun j => if okS (sliceS ps i j) = true then some j else none).length ≤ 5 := Nat.le_trans (List.length_filterMap_le _ _) hendl
   show WE g c' _ ⟨_, upd σ4 E _⟩ _
   generalize upd σ4 E (.list ((en.filterMap fun j => if okS (sliceS ps i j) = true then some j else none).map fun i => Value.int (i : Nat) 0)) = σ5 at *
   have fr : freeAt ps i = (en.filterMap fun j => if okS (sliceS ps i j) = true then some j else none).isEmpty := by
    unfold freeAt matesOf; rw [q, hen]; rfl
   generalize (en.filterMap fun j => if okS (sliceS ps i j) = true then some j else none) = ms at *
   w_fin
   refine ⟨Nat.zero_le _, fun G hG => ?_⟩
   have hG : σ5 G = none := hG
   have hEE' := zC (o := .list []) hG _ _ hEE
   have hGG : upd σ5 G (.list []) G = _ := zA
   have kp6 : ∀ b o, S.σ b = some o -> upd σ5 G (.list []) b = some o := fun b o e => zC hG _ _ (kp5 b o e)
   show WCmp g c' _ _ _ ⟨_, upd σ5 G (.list [])⟩ _
   generalize upd σ5 G (.list []) = σ6 at *
   cases ms with
   | nil =>
    refine WCmp_eqL (S := ⟨_, σ6⟩) (e := fun _ => true) (k := 0) hEE' hGG rfl (by decide) (fun j x y hx hy => nomatch hx) ?_
    refine zP ?_
    refine zR rfl ?_
    w_fin
    exact ⟨S, ⟨fun _ _ e => e, kp6⟩, by rw [← free_some hi fr no]; exact h⟩
   | cons m ms =>
    refine WCmp_eqL_len (S := ⟨_, σ6⟩) hEE' hGG (by simp) ?_
    refine zP ?_
    refine zS Bool.false_ne_true ?_
    w_fin
    exact ⟨by walk_at "l", kp6, no' fr⟩
  refine zS q ?_
  w_fin
  exact ⟨by walk_at "l", kp, no' (by unfold freeAt; rw [Bool.eq_false_iff.mpr q]; rfl)⟩
 obtain ⟨h1, kp, no⟩ := q_
 w_fin
 exact ⟨S, ⟨fun _ _ e => e, kp⟩, by rw [free_none fun j hj => no j ‹_›] at h; exact h⟩
end
section
variable {P : Params}
section
variable {A : SA Str} {G : SG Str} {fr : Addr -> Option (AO Str)}
theorem fn_rounds (hK : g.K = hd.heap_1 P) : FnIs g.K 245 (bodyOf P 245) (fdOf P 245).scope (fdOf P 245) :=
 fnIs ⟨_, _, _, rfl⟩ (by kernel_rfl) rfl rfl rfl rfl hK
theorem so_rounds : scopeOk (fdOf P 245).scope = true := by kernel_rfl
noncomputable abbrev kvS : Str -> Value := fun s => .str s 0
structure WordOk (ps : List Str) : Prop where
 len : ps.length ≤ 5
 one : ∀ p ∈ ps, 1 ≤ p.length /\ p.length ≤ 4
 txt : ∀ i j, i < j -> j < ps.length -> TextOk (sliceS ps i j)
noncomputable def Words (σ : Addr -> Option (AO Str)) (vs : List Value) (ws : List (List Str)) : Prop := vs.length = ws.length /\ ∀ (j : Nat) (p : List Str), ws[j]? = some p -> ∃ r : Addr, vs[j]? = some (Value.ref r) /\ σ r = some (.list (sL p))
theorem Words.mono {σ σ' : Addr -> Option (AO Str)} {vs : List Value} {ws : List (List Str)} (h : Words σ vs ws) (k : ∀ b o, σ b = some o -> σ' b = some o) : Words σ' vs ws :=
 ⟨h.1, fun j p e => let ⟨r, h1, h2⟩ := h.2 j p e; ⟨r, h1, k _ _ h2⟩⟩
noncomputable def sucOf (ws : List (List Str)) (m : Nat) : Option Nat := if 0 ≤ freeOf (ws.getD m []) then some (m + 2 ^ (freeOf (ws.getD m [])).toNat) else none
noncomputable def edgeOf (rs : List Str) (ws : List (List Str)) (m : Nat) : Option (Str × Str) := (sucOf ws m).map fun m' => (rs.getD m Str.empty, rs.getD m' Str.empty)
theorem nL_at {l : List Nat} {i m : Nat} (h : l[i]? = some m) : (iL (l.map fun n => ((n : Nat) : Int)))[i]? = some (.int (m : Nat) 0) := by
 unfold iL
 rw [List.getElem?_map, List.getElem?_map, h]; rfl
theorem W_rounds (hK : g.K = hd.heap_1 P) (hd : c.Deep 7) (K : KeyOk g kvS) {rA wA oA : Addr} {rs : List Str} {vs : List Value} {ws : List (List Str)} {order : List Nat} (hr : S.σ rA = some (.list (sL rs))) (hw : S.σ wA = some (.list vs)) (hws : Words S.σ vs ws) (ho : S.σ oA = some (.list (iL (order.map fun n => ((n : Nat) : Int)))))
  (hlen : rs.length ≤ 32) (hwl : ws.length = rs.length) (hol : order.length ≤ 32) (hord : ∀ m ∈ order, m < rs.length) (hwo : ∀ m ∈ order, WordOk (ws.getD m [])) (hsu : ∀ m ∈ order, ∀ m', sucOf ws m = some m' -> m' ∈ order)
  (hnd : (order.map fun m => rs.getD m Str.empty).Nodup) {rk : Str -> Nat} (hrk : ∀ e ∈ order.filterMap (edgeOf rs ws), rk e.2 < rk e.1)
  {ls : List (List Str)} (hls : ls.length ≤ 1000) (runs : Runs ls (((SG.nodes (order.map fun m => rs.getD m Str.empty)).edges (order.filterMap (edgeOf rs ws))).prep))
  (h : ∀ (O : Addr) (ts : List Value) σ', S.σ O = none -> (∀ b o, S.σ b = some o -> σ' b = some o) -> σ' O = some (.list ts) -> (ts.length = ls.length /\ ∀ (j : Nat) (l : List Str), ls[j]? = some l -> ∃ T : Addr, ts[j]? = some (Value.ref T) /\ σ' T = some (.tup (sL l)) /\ S.σ T = none) -> Q (.ref O) ⟨S.m, σ'⟩) :
  WCX g c .none (.ref 245) [.ref rA, .ref wA, .ref oA] S Q fun _ => False := by
 refine WCX.drop (WCX.ofD (WDX_def (n := 6) hd (fn_rounds hK) so_rounds (B := [(ofString "rows", .ref rA), (ofString "words", .ref wA), (ofString "order", .ref oA)]) (fun us hu => ?_) (by kernel_rfl) fun c' hs hx hd' => ?_))
 ·obtain ⟨u1, u2, u3, rfl, h1, h2, h3⟩ := map3 hu
  exact ⟨[(ofString "rows", u1), (ofString "words", u2), (ofString "order", u3)], by kernel_rfl, by simp [h1, h2, h3]⟩
 refine WXsX.of ?_
 show WXsF g c' (_ :: _) ⟨setv (setv (setv (fun _ => none) (ofString "rows") (.ref rA)) (ofString "words") (.ref wA)) (ofString "order") (.ref oA), S.σ⟩ _
 obtain ⟨sm, σ0⟩ := S
 have hr : σ0 rA = _ := hr
 have hw : σ0 wA = _ := hw
 have ho : σ0 oA = _ := ho
 have hws : Words σ0 vs ws := hws
 w_fin
 refine W_new hK (hd'.less (by decide)) kvS fun A a σ1 kp s => ?_
 w_fin
 generalize hN : (order.map fun m => rs.getD m Str.empty) = N at *
 have hNl : N.length = order.length := by rw [← hN, List.length_map]
 have ok1 : ∀ i, Led2 (N.take i) [] (SG.nodes (N.take i)) := fun i => nodes_ok _ (hnd.sublist (List.take_sublist _ _))
 have okN := nodes_ok N hnd
 refine WXF.of (WX_For (fun _ _ => rfl) ?_)
 w_fin
 let Inv_1 : Nat -> St Str -> Prop := fun i S' => S'.m (ofString "sorter") = some (.ref a) /\ S'.m (ofString "rows") = some (.ref rA) /\ S'.m (ofString "words") = some (.ref wA) /\ S'.m (ofString "order") = some (.ref oA) /\ ∃ A', SrtF 158 61 kvS A' (SG.nodes (N.take i)) a σ0 S'.σ
 refine ⟨_, _, zU (s.keep _ _ ho), Inv_1, ⟨by walk_at "l", by walk_at "l", by walk_at "l", by walk_at "l", A, s⟩, fun i S2 ⟨_, _, _, _, A', s'⟩ => s'.keep _ _ ho, fun i x S2 hx' q_ => ?_, fun S2 q_ => ?_⟩
 ·obtain ⟨v1, v2, v3, v4, A', s'⟩ := q_
  obtain ⟨mc, σ2⟩ := S2
  have v1 : mc (ofString "sorter") = _ := v1
  have v2 : mc (ofString "rows") = _ := v2
  have v3 : mc (ofString "words") = _ := v3
  have v4 : mc (ofString "order") = _ := v4
  have s' : SrtF 158 61 kvS A' (SG.nodes (N.take i)) a σ0 σ2 := s'
  obtain ⟨m, hm⟩ : ∃ m, order[i]? = some m := by
   have := (List.getElem?_eq_some_iff.mp hx').1
   rw [zj, List.length_map] at this
   exact ⟨_, List.getElem?_eq_getElem this⟩
  rw [nL_at hm] at hx'
  obtain rfl := Option.some.inj hx'
  have hml := hord m (List.mem_of_getElem? hm)
  have hNi : N[i]? = some (rs.getD m Str.empty) := by rw [← hN, List.getElem?_map, hm]; rfl
  w_fin
  refine M_add (S := ⟨_, σ2⟩) hK s' ?_
  w_fin
  refine zW (S := ⟨_, σ2⟩) (s'.keep _ _ hr) (by exact Int.natCast_nonneg _) (by lia) (sL_at hml) ?_
  w_fin
  have ok := ok1 i
  refine W_add0 (S := ⟨_, σ2⟩) (kv := kvS) (k := rs.getD m Str.empty) hK (hd'.less (by decide)) K s' ok.ready (by rw [ok.ks, List.length_take]; lia) (b := 0) (fun j => ok.suLen j) (by decide) fun A2 σ3 s3 => ?_
  w_fin
  exact ⟨by walk_at "l", by walk_at "l", by walk_at "l", by walk_at "l", A2, by rw [SG.nodes_take hNi]; exact s3⟩
 obtain ⟨v1, v2, v3, v4, A', s'⟩ := q_
 rw [zj, List.length_map, ← hNl, List.take_of_length_le (Nat.le_refl _)] at s'
 obtain ⟨mc, σ2⟩ := S2
 have v1 : mc (ofString "sorter") = _ := v1
 have v2 : mc (ofString "rows") = _ := v2
 have v3 : mc (ofString "words") = _ := v3
 have v4 : mc (ofString "order") = _ := v4
 have s' : SrtF 158 61 kvS A' (SG.nodes N) a σ0 σ2 := s'
 generalize SG.nodes N = Ga at *
 have memN : ∀ m ∈ order, rs.getD m Str.empty ∈ N := fun m hm => by rw [← hN]; exact List.mem_map.mpr ⟨m, hm, rfl⟩
 have inN : ∀ l : List Nat, (∀ m ∈ l, m ∈ order) -> ∀ e ∈ l.filterMap (edgeOf rs ws), e.1 ∈ N /\ e.2 ∈ N := fun l hl e he => by
  obtain ⟨m, hm, q⟩ := List.mem_filterMap.mp he
  unfold edgeOf at q
  cases q2 : sucOf ws m with
  | none => rw [q2] at q; exact nomatch q
  | some m' =>
   rw [q2] at q
   (replace q := Option.some.inj q; subst q)
   exact ⟨memN m (hl m hm), memN m' (hsu m (hl m hm) m' q2)⟩
 have okE : ∀ i, Led2 N ((order.take i).filterMap (edgeOf rs ws)) (Ga.edges ((order.take i).filterMap (edgeOf rs ws))) := fun i => edges_ok okN _ (inN _ fun m hm => List.mem_of_mem_take hm)
 have eLen : ∀ i, ((order.take i).filterMap (edgeOf rs ws)).length ≤ 32 := fun i => Nat.le_trans (List.length_filterMap_le _ _) (by rw [List.length_take]; lia)
 refine WXs_nil ?_
 show WXsF g c' (_ :: _) _ _
 refine zp ?_
 intro Q_2
 refine WXF.of (WX_For (fun _ _ => rfl) ?_)
 w_fin
 let Inv_2 : Nat -> St Str -> Prop := fun i S' => S'.m (ofString "sorter") = some (.ref a) /\ S'.m (ofString "rows") = some (.ref rA) /\ S'.m (ofString "words") = some (.ref wA) /\ S'.m (ofString "order") = some (.ref oA) /\ ∃ A', SrtF 158 61 kvS A' (Ga.edges ((order.take i).filterMap (edgeOf rs ws))) a σ0 S'.σ
 refine ⟨_, _, zU (S := ⟨_, σ2⟩) (s'.keep _ _ ho), Inv_2, ⟨by walk_at "l", by walk_at "l", by walk_at "l", by walk_at "l", A', s'⟩, fun i S2 ⟨_, _, _, _, A', s'⟩ => s'.keep _ _ ho, fun i x S2 hx' q_ => ?_, fun S2 q_ => ?_⟩
 ·clear v1 v2 v3 v4 s'
  obtain ⟨v1, v2, v3, v4, A', s'⟩ := q_
  obtain ⟨mc, σ2⟩ := S2
  have v1 : mc (ofString "sorter") = _ := v1
  have v2 : mc (ofString "rows") = _ := v2
  have v3 : mc (ofString "words") = _ := v3
  have v4 : mc (ofString "order") = _ := v4
  have s' : SrtF 158 61 kvS A' (Ga.edges ((order.take i).filterMap (edgeOf rs ws))) a σ0 σ2 := s'
  obtain ⟨m, hm⟩ : ∃ m, order[i]? = some m := by
   have := (List.getElem?_eq_some_iff.mp hx').1
   rw [zj, List.length_map] at this
   exact ⟨_, List.getElem?_eq_getElem this⟩
  rw [nL_at hm] at hx'
  obtain rfl := Option.some.inj hx'
  have hmo := List.mem_of_getElem? hm
  have hml := hord m hmo
  have hmw : m < ws.length := by lia
  obtain ⟨r, hr1, hr2⟩ := hws.2 m (ws.getD m []) (by rw [List.getD_eq_getElem?_getD, List.getElem?_eq_getElem hmw]; rfl)
  have wok := hwo m hmo
  have et : (order.take (i + 1)).filterMap (edgeOf rs ws) = (order.take i).filterMap (edgeOf rs ws) ++ (edgeOf rs ws m).toList := by
   rw [List.take_add_one, hm, List.filterMap_append]
   show _ ++ List.filterMap (edgeOf rs ws) [m] = _
   rw [show List.filterMap (edgeOf rs ws) [m] = (edgeOf rs ws m).toList by cases q : edgeOf rs ws m <;> simp [q]]
  w_fin
  refine zW (S := ⟨_, σ2⟩) (s'.keep _ _ hw) (by exact Int.natCast_nonneg _) (by omega) (by rw [Int.toNat_natCast]; exact hr1) ?_
  w_fin
  refine W_free (S := ⟨_, σ2⟩) hK hd' (s'.keep _ _ hr2) wok.len wok.one wok.txt ?_
  have hsm := hsu m hmo
  have ee : edgeOf rs ws m = Option.map (fun m' => (rs.getD m Str.empty, rs.getD m' Str.empty)) (if 0 ≤ freeOf (ws.getD m []) then some (m + 2 ^ (freeOf (ws.getD m [])).toNat) else none) := rfl
  rw [ee] at et
  unfold sucOf at hsm
  generalize freeOf (ws.getD m []) = fr at *
  w_fin
  have ok := okE i
  have ol : ∀ j, ((Ga.edges ((order.take i).filterMap (edgeOf rs ws))).su j).length ≤ 32 := fun j => Nat.le_trans (ok.suLen j) (eLen i)
  by_cases q : 0 ≤ fr
  ·refine zR (decide_eq_true q) ?_
   rw [if_pos q] at hsm et
   have m2 := hsm _ rfl
   have m2l := hord _ m2
   have : fr.toNat < 2 ^ fr.toNat := Nat.lt_two_pow_self
   w_fin
   refine M_add (S := ⟨_, σ2⟩) hK s' ?_
   w_fin
   refine WBin_shl q (by lia) (by decide) ?_
   w_fin
   rw [show (m : Int) + 1 * 2 ^ fr.toNat = ((m + 2 ^ fr.toNat : Nat) : Int) by rw [Int.one_mul, Int.natCast_add, Int.natCast_pow]; rfl]
   generalize m + 2 ^ fr.toNat = m' at *
   refine zW (S := ⟨_, σ2⟩) (s'.keep _ _ hr) (by exact Int.natCast_nonneg _) (by lia) (sL_at m2l) ?_
   w_fin
   refine zW (S := ⟨_, σ2⟩) (s'.keep _ _ hr) (by exact Int.natCast_nonneg _) (by lia) (sL_at hml) ?_
   w_fin
   refine W_add1 (S := ⟨_, σ2⟩) (kv := kvS) (k := rs.getD m' Str.empty) (p := rs.getD m Str.empty) hK (hd'.less (by decide)) K s' ok.ready (by rw [ok.ks]; lia) (b := 32) ol (by decide) fun A2 σ3 s3 => ?_
   w_fin
   exact ⟨by walk_at "l", by walk_at "l", by walk_at "l", by walk_at "l", A2, by rw [et, show (Option.map (fun m' => (rs.getD m Str.empty, rs.getD m' Str.empty)) (some m')).toList = [(rs.getD m Str.empty, rs.getD m' Str.empty)] from rfl, SG.edges_snoc]; exact s3⟩
  refine zS (by rw [decide_eq_false q]; exact Bool.false_ne_true) ?_
  rw [if_neg q] at et
  w_fin
  exact ⟨by walk_at "l", by walk_at "l", by walk_at "l", by walk_at "l", A', by rw [et, show (Option.map (fun m' => (rs.getD m Str.empty, rs.getD m' Str.empty)) none).toList = [] from rfl, List.append_nil]; exact s'⟩
 clear v1 v2 v3 v4 s'
 obtain ⟨v1, v2, v3, v4, A', s'⟩ := q_
 rw [zj, List.length_map, List.take_of_length_le (Nat.le_refl _)] at s'
 obtain ⟨mc, σ2⟩ := S2
 have v1 : mc (ofString "sorter") = _ := v1
 have okL := okE order.length
 rw [List.take_of_length_le (Nat.le_refl _)] at okL
 have s' : SrtF 158 61 kvS A' (Ga.edges (order.filterMap (edgeOf rs ws))) a σ0 σ2 := s'
 generalize Ga.edges (order.filterMap (edgeOf rs ws)) = G1 at *
 refine WXs_nil ?_
 show WXsF g c' (_ :: _) _ _
 refine zp ?_
 intro Q_3
 refine WXF_Expr (fun _ => rfl) (WEF_Meth (fun _ => rfl) rfl ?_)
 w_fin
 refine M_prepare (S := ⟨_, σ2⟩) hK s' ⟨by rw [hK]; kernel_rfl, W_prepare (S := ⟨_, σ2⟩) hK (hd'.less (by decide)) K s' okL.ready (by rw [okL.ks]; lia) (fun q hq => no_ring (f := rk) (fun u v h => hrk (u, v) (okL.suMem.mp h)) hq) fun r A2 σ3 hrk s3 => ?_⟩
 show WXsF g c' (_ :: _) _ _
 w_fin
 refine ⟨Nat.zero_le _, fun O hO => ?_⟩
 have hO : σ3 O = none := hO
 have s4 := s3.frame (o := .list []) hO
 have O0 : σ0 O = none := by
  cases q : σ0 O with
  | none => rfl
  | some o => rw [s3.keep O o q] at hO; exact Mine.sn hO
 have frO : upd σ0 O (.list []) O = _ := zA
 have kp4 : ∀ b o, σ0 b = some o -> upd σ0 O (.list []) b = some o := fun b o e => zC O0 _ _ e
 show WXsF g c' (_ :: _) ⟨_, upd σ3 O (.list [])⟩ _
 generalize upd σ3 O (.list []) = σ4 at *
 generalize upd σ0 O (.list []) = fr3 at *
 refine WXsF_cons (WXF.of (WX_While (fun n S' => S'.m (ofString "rounds") = some (.ref O) /\ S'.m (ofString "sorter") = some (.ref a) /\
   ∃ ls1 ls2 ts A3 G3 fr', ls = ls1 ++ ls2 /\ n = ls2.length /\ SrtF 158 61 kvS A3 G3 a fr' S'.σ /\ Runs ls2 G3 /\ fr' O = some (.list ts) /\ ts.length = ls1.length /\ (∀ (j : Nat) (l : List Str), ls1[j]? = some l -> ∃ T : Addr, ts[j]? = some (Value.ref T) /\ fr' T = some (.tup (sL l)) /\ σ0 T = none) /\ ∀ b o, σ0 b = some o -> fr' b = some o)
  ls.length ⟨by walk_at "l", by walk_at "l", [], ls, [], A2, G1.prep, fr3, rfl, rfl, s4, runs, frO, rfl, (fun j l h => nomatch h), kp4⟩ fun n S3 q_ => ?_))
 obtain ⟨hro, hso, ls1, ls2, ts, A3, G3, fr', els, en, sb, rn, hts, tsl, tsj, kp9⟩ := q_
 obtain ⟨m4, σ9⟩ := S3
 have sb : SrtF 158 61 kvS A3 G3 a fr' σ9 := sb
 have hro : m4 (ofString "rounds") = some (.ref O) := hro
 have hso : m4 (ofString "sorter") = some (.ref a) := hso
 w_fin
 refine M_is_active (S := ⟨_, σ9⟩) hK sb ?_
 w_fin
 cases ls2 with
 | nil =>
  obtain ⟨hr, hnf⟩ := rn
  refine W_active (S := ⟨_, σ9⟩) hK (hd'.less (by decide)) sb hr (by decide) ?_
  rw [show (decide (G3.nf < G3.po) || !([] : List Str).isEmpty) = false by rw [hnf, decide_eq_false (Int.lt_irrefl _)]; rfl]
  w_fin
  rw [List.append_nil] at els
  subst els
  exact ⟨⟨sm, σ9⟩, ⟨fun _ _ e => e, fun b o e => e⟩, h O ts σ9 O0 (fun x o e => sb.keep _ _ (kp9 _ _ e)) (sb.keep _ _ hts) ⟨tsl, fun j l hj => let ⟨T', h1, h2, h3⟩ := tsj j l hj; ⟨T', h1, sb.keep _ _ h2, h3⟩⟩⟩
 | cons l ls2 =>
  obtain ⟨hr, hne, hl, hnf, dn, rn⟩ := rn
  refine W_active (S := ⟨_, σ9⟩) hK (hd'.less (by decide)) sb hr hl ?_
  rw [show (decide (G3.nf < G3.po) || !l.isEmpty) = true by cases l with | nil => exact absurd rfl hne | cons _ _ => simp]
  w_fin
  refine M_get_ready (S := ⟨_, σ9⟩) hK sb ?_
  w_fin
  refine W_get_ready (S := ⟨_, σ9⟩) hK (hd'.less (by decide)) K sb hr hl fun Z σ10 hZ s10 => ?_
  have hZ : σ9 Z = none := hZ
  have frZ : upd fr' Z (.tup (List.map kvS l)) Z = _ := zA
  have kp10 := fr_new (o := .tup (List.map kvS l)) sb hZ
  have frO10 := kp10 _ _ hts
  have tsj10 : ∀ (j : Nat) (l' : List Str), ls1[j]? = some l' -> ∃ T : Addr, ts[j]? = some (Value.ref T) /\ upd fr' Z (.tup (List.map kvS l)) T = some (.tup (sL l')) /\ σ0 T = none := fun j l' hj => by
   obtain ⟨T', h1, h2, h3⟩ := tsj j l' hj
   exact ⟨T', h1, kp10 _ _ h2, h3⟩
  have hZ0 : σ0 Z = none := by
   cases q : σ0 Z with
   | none => rfl
   | some o => rw [sb.keep _ _ (kp9 _ _ q)] at hZ; exact Mine.sn hZ
  have kpσ10 : ∀ b o, σ0 b = some o -> upd fr' Z (.tup (List.map kvS l)) b = some o := fun b o e => kp10 _ _ (kp9 _ _ e)
  generalize upd fr' Z (.tup (List.map kvS l)) = fr5 at *
  w_fin
  refine ⟨O, ts, rfl, s10.keep _ _ frO10, ?_⟩
  w_fin
  refine ⟨ts, s10.keep _ _ frO10, ?_, ?_⟩
  ·have : ls1.length ≤ ls.length := by rw [els, List.length_append]; exact Nat.le_add_right _ _
   rw [tsl, sizeLine_eq]; exact om23 ‹_› (Nat.le_trans ‹_› (by decide))
  have s11 := s10.put (o' := .list (ts ++ [.ref Z])) frO10
  have frO11 : upd fr5 O (.list (ts ++ [.ref Z])) O = _ := zA
  have kp11 : ∀ x o, σ0 x = some o -> upd fr5 O (.list (ts ++ [.ref Z])) x = some o := fun x o e => (if_neg (by rintro rfl; rw [O0] at e; exact Mine.ns e)).trans (kpσ10 x o e)
  have tup11 : ∀ {x : Addr} {xs : List Value}, fr5 x = some (.tup xs) -> upd fr5 O (.list (ts ++ [.ref Z])) x = some (.tup xs) := fun {x xs} e => (if_neg (zF e frO10 (fun e => by exact (nomatch e)))).trans e
  have frZ11 := tup11 frZ
  have tsj11 : ∀ (j : Nat) (l' : List Str), (ls1 ++ [l])[j]? = some l' -> ∃ T : Addr, (ts ++ [.ref Z])[j]? = some (Value.ref T) /\ upd fr5 O (.list (ts ++ [.ref Z])) T = some (.tup (sL l')) /\ σ0 T = none := fun j l' hj => by
   by_cases q : j < ls1.length
   ·rw [List.getElem?_append_left q] at hj
    obtain ⟨T', h1, h2, h3⟩ := tsj10 j l' hj
    exact ⟨T', by rw [List.getElem?_append_left (by lia)]; exact h1, tup11 h2, h3⟩
   rw [List.getElem?_append_right (by exact Nat.not_lt.mp ‹_›)] at hj
   have hj0 : j - ls1.length = 0 := by
    have := (List.getElem?_eq_some_iff.mp hj).1
    rw [List.length_singleton] at this; lia
   rw [hj0] at hj
   (replace hj := Option.some.inj hj; subst hj)
   exact ⟨Z, by rw [List.getElem?_append_right (by lia), tsl, hj0]; rfl, frZ11, hZ0⟩
  show WXs g c' (_ :: _) ⟨_, upd σ10 O (.list (ts ++ [.ref Z]))⟩ _
  generalize upd σ10 O (.list (ts ++ [.ref Z])) = σ11 at *
  generalize upd fr5 O (.list (ts ++ [.ref Z])) = fr6 at *
  w_fin
  refine WX_For (fun _ _ => rfl) ?_
  w_fin
  let Inv_3 : Nat -> St Str -> Prop := fun i S' => S'.m (ofString "rounds") = some (.ref O) /\ S'.m (ofString "sorter") = some (.ref a) /\ SrtF 158 61 kvS A3 ((l.take i).foldl SG.done (G3.getReady l)) a fr6 S'.σ
  refine ⟨sL l, _, iter_tup (S := ⟨_, σ11⟩) (s11.keep _ _ frZ11), Inv_3,
   ⟨by walk_at "l", by walk_at "l", s11⟩, fun i S4 ⟨_, _, s'⟩ => s'.keep _ _ frZ11, fun i x S4 hx' q_ => ?_, fun S4 q_ => ?_⟩
  ·obtain ⟨hro, hso, s'⟩ := q_
   unfold sL at hx'
   rw [List.getElem?_map, Option.map_eq_some_iff] at hx'
   obtain ⟨k, hk, rfl⟩ := hx'
   obtain ⟨m5, σ12⟩ := S4
   have s' : SrtF 158 61 kvS A3 ((l.take i).foldl SG.done (G3.getReady l)) a fr6 σ12 := s'
   have hro : m5 (ofString "rounds") = some (.ref O) := hro
   have hso : m5 (ofString "sorter") = some (.ref a) := hso
   obtain ⟨d1, d2, r, d3, d4⟩ := dn.at hk
   have esucc : (l.take (i + 1)).foldl SG.done (G3.getReady l) = ((l.take i).foldl SG.done (G3.getReady l)).done k := by
    rw [List.take_add_one, hk, Option.toList, List.foldl_append]; rfl
   generalize (l.take i).foldl SG.done (G3.getReady l) = G5 at *
   w_fin
   refine M_done (S := ⟨_, σ12⟩) hK s' ?_
   w_fin
   refine W_done (S := ⟨_, σ12⟩) (kv := kvS) (k := k) hK (hd'.less (by decide)) K s' d3 d1 d2 d4 fun σ13 s'' => ?_
   w_fin
   exact ⟨by walk_at "l", by walk_at "l", by rw [esucc]; exact s''⟩
  obtain ⟨hro, hso, s'⟩ := q_
  have eG : (l.take (sL l).length).foldl SG.done (G3.getReady l) = G3.round l := by
   rw [sL_len, List.take_of_length_le (Nat.le_refl _)]; rfl
  rw [eG] at s'
  w_fin
  refine ⟨ls2.length, by rw [en]; exact Nat.lt_succ_self _, hro, hso, ls1 ++ [l], ls2, ts ++ [.ref Z], A3, G3.round l, fr6, ?_, rfl, s', rn, frO11, ?_, tsj11, kp11⟩
  ·rw [els, List.append_assoc]; rfl
  rw [List.length_append, List.length_append, tsl]; rfl
end
end
section
variable {P : Params}
theorem fn_chains (hK : g.K = hd.heap_1 P) : FnIs g.K 250 (bodyOf P 250) (fdOf P 250).scope (fdOf P 250) :=
 fnIs ⟨_, _, _, rfl⟩ (by kernel_rfl) rfl rfl rfl rfl hK
theorem so_chains : scopeOk (fdOf P 250).scope = true := by kernel_rfl
noncomputable def growOne (k : Nat) (c : List Nat) : List (List Nat) := (c ++ [c.getLastD 0 + 2 ^ k]) :: if 1 < c.length then [c.dropLast.map fun n => n + 2 ^ k] else []
noncomputable def chainsOf : Nat -> List (List Nat)
 | 0 => [[0]]
 | k + 1 => (chainsOf k).flatMap (growOne k)
noncomputable def nL (l : List Nat) : List Value := l.map fun n => .int ((n : Nat) : Int) 0
theorem nL_len (l : List Nat) : (nL l).length = l.length := List.length_map _
noncomputable def Chs (σ : Addr -> Option (AO Str)) (D : Addr) (vs : List Value) (cs : List (List Nat)) : Prop := vs.length = cs.length /\ ∀ (j : Nat) (c : List Nat), cs[j]? = some c -> ∃ r : Addr, vs[j]? = some (Value.ref r) /\ σ r = some (.list (nL c)) /\ r ≠ D
theorem Chs.mono {σ σ' : Addr -> Option (AO Str)} {D : Addr} {vs : List Value} {cs : List (List Nat)} (h : Chs σ D vs cs) (k : ∀ b o, b ≠ D -> σ b = some o -> σ' b = some o) : Chs σ' D vs cs :=
 ⟨h.1, fun j p e => let ⟨r, h1, h2, h3⟩ := h.2 j p e; ⟨r, h1, k _ _ h3 h2, h3⟩⟩
theorem Chs.snoc {σ : Addr -> Option (AO Str)} {D r : Addr} {vs : List Value} {cs : List (List Nat)} {c : List Nat} (h : Chs σ D vs cs) (hr : σ r = some (.list (nL c))) (hn : r ≠ D) : Chs σ D (vs ++ [.ref r]) (cs ++ [c]) := by
 refine ⟨by rw [List.length_append, List.length_append, h.1]; rfl, fun j p e => ?_⟩
 by_cases q : j < cs.length
 ·rw [List.getElem?_append_left q] at e
  obtain ⟨r', h1, h2⟩ := h.2 j p e
  exact ⟨r', by rw [List.getElem?_append_left (by rw [h.1]; exact q)]; exact h1, h2⟩
 rw [List.getElem?_append_right (by exact Nat.not_lt.mp ‹_›)] at e
 have j0 : j - cs.length = 0 := by
  have := (List.getElem?_eq_some_iff.mp e).1
  rw [List.length_singleton] at this; lia
 rw [j0] at e
 (replace e := Option.some.inj e; subst e)
 exact ⟨r, by rw [List.getElem?_append_right (by rw [h.1]; omega), h.1, j0]; rfl, hr, hn⟩
theorem pick_last {vs : List Value} : pickL vs none (some (-1)) = vs.dropLast := by
 unfold pickL clipAt
 simp only [Option.elim]
 rw [if_pos (by decide)]
 have e2 : (max 0 (min ((-1 : Int) + vs.length) (vs.length : Int))).toNat = vs.length - 1 := pqe _
 rw [e2, List.dropLast_eq_take]
 simp
noncomputable def chainBounds (k : Nat) : Bool := decide ((chainsOf k).length ≤ 10) && (chainsOf k).all fun c => decide (1 ≤ c.length) && decide (c.length ≤ 6)
theorem chain_bounds : ∀ k : Nat, k < 6 -> chainBounds k = true := by decide +kernel
theorem W_chains (hK : g.K = hd.heap_1 P) (hd : c.Deep 1) {many : Nat} (hm : many ≤ 5)
  (h : ∀ (r : Addr) vs σ', S.σ r = none -> (∀ b o, S.σ b = some o -> σ' b = some o) -> σ' r = some (.list vs) -> Chs σ' r vs (chainsOf many) -> Q (.ref r) ⟨S.m, σ'⟩) : WC g c (.ref 250) [.int many 0] S Q := by
 refine WC.drop (WC_def (n := 0) hd (fn_chains hK) so_chains (B := [(ofString "many", .int many 0)]) (fun us hu => ?_) (by kernel_rfl) fun c' hs hx hd' => ?_)
 ·(refine zB (z3 hu) ?_; intro u rfl_1; intro hu1; subst rfl_1)
  exact ⟨[(ofString "many", u)], by kernel_rfl, by simp [hu1]⟩
 refine WXs.le (S' := ⟨setv (fun _ => none) (ofString "many") (.int many 0), S.σ⟩) ?_ (Le.refl _)
 show WXs g c' (_ :: _) _ _
 w_fin
 refine ⟨(show 1 ≤ sizeLine by rw [sizeLine_eq]; decide), fun A hA => ?_⟩
 have hA : S.σ A = none := hA
 w_fin
 refine ⟨(show 1 ≤ sizeLine by rw [sizeLine_eq]; decide), fun C hC => ?_⟩
 have hC : upd S.σ A (.list [.int 0 0]) C = none := hC
 have hA1 : upd S.σ A (.list [.int 0 0]) A = some (.list (nL [0])) := zA
 have hne : A ≠ C := fun e => by rw [← e, hA1] at hC; exact Mine.sn hC
 have hCs : S.σ C = none := (if_neg (Ne.symm hne)).symm.trans hC
 have kp1 : ∀ b o, S.σ b = some o -> upd (upd S.σ A (.list [.int 0 0])) C (.list [.ref A]) b = some o := fun b o e => zC hC _ _ (zC hA _ _ e)
 have hC1 : upd (upd S.σ A (.list [.int 0 0])) C (.list [.ref A]) C = some (.list [.ref A]) := zA
 have ch1 : Chs (upd (upd S.σ A (.list [.int 0 0])) C (.list [.ref A])) C [.ref A] (chainsOf 0) := Chs.snoc (vs := []) (cs := []) ⟨rfl, fun j c e => nomatch e⟩ (zC hC _ _ hA1) hne
 show Q_ Flow.next ⟨_, upd (upd S.σ A (.list [.int 0 0])) C (.list [.ref A])⟩
 generalize upd (upd S.σ A (.list [.int 0 0])) C (.list [.ref A]) = σ1 at *
 w_fin
 refine WX_ForR (fun _ _ => rfl) ?_
 w_fin
 refine zw fun r hr => ?_
 have hr : σ1 r = none := hr
 let Inv_1 : Nat -> St Str -> Prop := fun k S' => ∃ C vs, S'.m (ofString "chains") = some (.ref C) /\ S'.σ C = some (.list vs) /\ Chs S'.σ C vs (chainsOf k) /\ S.σ C = none /\ ∀ b o, S.σ b = some o -> S'.σ b = some o
 refine ⟨r, 0, many, rfl, zA, by decide, by decide, by exact om27 _, by exact om25 (Nat.le_trans ‹_› (by decide)), Inv_1, ⟨C, _, by walk_at "l", zC hr _ _ hC1, ch1.mono fun b o _ e => zC hr _ _ e, hCs, fun b o e => zC hr _ _ (kp1 b o e)⟩, fun k S1 hk q_ => ?_, fun S1 q_ => ?_⟩
 ·clear ch1 hC1 kp1 hCs hne hA1 hC
  obtain ⟨C, vs, h1, hC, ch, hCs, kp⟩ := q_
  obtain ⟨mf, σ2⟩ := S1
  have h1 : mf (ofString "chains") = _ := h1
  have hC : σ2 C = _ := hC
  have ch : Chs σ2 C vs (chainsOf k) := ch
  have kp : ∀ b o, S.σ b = some o -> σ2 b = some o := kp
  have hk5 : k < 5 := by lia
  have bd := chain_bounds k (by exact Nat.lt_succ_of_lt ‹_›)
  have bd2 := chain_bounds (k + 1) (by exact Nat.lt_succ_of_le ‹_›)
  unfold chainBounds at bd bd2
  rw [Bool.and_eq_true] at bd bd2
  have bl := of_decide_eq_true bd2.1
  have bc : ∀ c ∈ chainsOf k, 1 ≤ c.length /\ c.length ≤ 6 := fun c hc => by
   have := List.all_eq_true.mp bd.2 c hc
   rw [Bool.and_eq_true] at this
   exact ⟨of_decide_eq_true this.1, of_decide_eq_true this.2⟩
  have et : chainsOf (k + 1) = (chainsOf k).flatMap (growOne k) := rfl
  rw [et] at bl
  refine zo hs hx (by kernel_rfl) ?_
  rw [Int.zero_add]
  w_fin
  refine ⟨Nat.zero_le _, fun D hD => ?_⟩
  have hD : σ2 D = none := hD
  have hDs : S.σ D = none := (Le.new (S := S) (o := (.list [] : AO Str)) kp hD).1
  have hDC : C ≠ D := fun e => by rw [← e, hC] at hD; exact Mine.sn hD
  have hDD : upd σ2 D (.list []) D = some (.list []) := zA
  have kp2 : ∀ b o, S.σ b = some o -> upd σ2 D (.list []) b = some o := fun b o e => zC hD _ _ (kp b o e)
  have hC2 : upd σ2 D (.list []) C = some (.list vs) := zC hD _ _ hC
  have ch2 : Chs (upd σ2 D (.list [])) D vs (chainsOf k) := ⟨ch.1, fun j c e => let ⟨r, h1, h2, h3⟩ := ch.2 j c e; ⟨r, h1, zC hD _ _ h2, fun q => by rw [q, hD] at h2; exact Mine.ns h2⟩⟩
  show WXs g c' (_ :: _) ⟨_, upd σ2 D (.list [])⟩ _
  generalize upd σ2 D (.list []) = σ3 at *
  refine z0 ?_
  intro Q_2
  refine WX_For (fun _ _ => rfl) ?_
  w_fin
  let Inv_2 : Nat -> St Str -> Prop := fun i S' => S'.m (ofString "grown") = some (.ref D) /\ S'.m (ofString "k") = some (.int k 0) /\ (∃ us, S'.σ D = some (.list us) /\ Chs S'.σ D us (((chainsOf k).take i).flatMap (growOne k))) /\ S'.σ C = some (.list vs) /\ Chs S'.σ D vs (chainsOf k) /\ ∀ b o, S.σ b = some o -> S'.σ b = some o
  refine ⟨vs, _, zU (S := ⟨_, σ3⟩) hC2, Inv_2, ⟨by walk_at "l", by walk_at "l", ⟨[], hDD, rfl, fun j c e => nomatch e⟩, hC2, ch2, kp2⟩, fun i S2 hi => hi.2.2.2.1, fun i x S2 hx' q_ => ?_, fun S2 q_ => ?_⟩
  ·clear hDD kp2 hC2 ch2
   obtain ⟨v1, v2, ⟨us, hDD, chu⟩, hC2, ch2, kp2⟩ := q_
   obtain ⟨mc, σ4⟩ := S2
   have v1 : mc (ofString "grown") = _ := v1
   have v2 : mc (ofString "k") = _ := v2
   have hDD : σ4 D = _ := hDD
   have hC2 : σ4 C = _ := hC2
   have chu : Chs σ4 D us (((chainsOf k).take i).flatMap (growOne k)) := chu
   have ch2 : Chs σ4 D vs (chainsOf k) := ch2
   have kp2 : ∀ b o, S.σ b = some o -> σ4 b = some o := kp2
   obtain ⟨cc, hcc⟩ : ∃ cc, (chainsOf k)[i]? = some cc := by
    have := (List.getElem?_eq_some_iff.mp hx').1
    rw [ch2.1] at this
    exact ⟨_, List.getElem?_eq_getElem this⟩
   obtain ⟨R, hR1, hR, hRD⟩ := ch2.2 i cc hcc
   rw [hR1] at hx'
   obtain rfl := Option.some.inj hx'
   have bcc := bc cc (List.mem_of_getElem? hcc)
   have et2 : ((chainsOf k).take (i + 1)).flatMap (growOne k) = ((chainsOf k).take i).flatMap (growOne k) ++ growOne k cc := by
    rw [List.take_add_one, hcc, List.flatMap_append]; simp
   have ul : us.length ≤ 100 := by
    rw [chu.1]
    have : (((chainsOf k).take i).flatMap (growOne k)).length ≤ ((chainsOf k).flatMap (growOne k)).length := by
     conv => rhs; rw [← List.take_append_drop i (chainsOf k), List.flatMap_append, List.length_append]
     exact Nat.le_add_right _ _
    lia
   w_fin
   refine ⟨D, us, rfl, hDD, ?_⟩
   w_fin
   have hlast : (nL cc)[((-1 : Int) + (nL cc).length).toNat]? = some (.int ((cc.getLastD 0 : Nat) : Int) 0) := by
    rw [nL_len, pqf]
    unfold nL
    rw [List.getElem?_map, ← List.getLast?_eq_getElem?]
    have : cc.getLast? = some (cc.getLastD 0) := by
     rw [List.getLastD_eq_getLast?]
     cases q : cc.getLast? with
     | none => rw [List.getLast?_eq_none_iff] at q; rw [q] at bcc; exact absurd bcc.1 (by simp)
     | some n => rfl
    rw [this]; rfl
   refine WSub_neg (S := ⟨_, σ4⟩) hR (by exact Int.natCast_nonneg _) (by rw [nL_len]; lia) (by decide) hlast ?_
   w_fin
   refine WBin_shl (by exact Int.natCast_nonneg _) (by lia) (by decide) ?_
   w_fin
   have e1 : ((cc.getLastD 0 : Nat) : Int) + 1 * 2 ^ (k : Int).toNat = ((cc.getLastD 0 + 2 ^ k : Nat) : Int) := by rw [Int.toNat_natCast, Int.one_mul, Int.natCast_add, Int.natCast_pow]; rfl
   rw [e1]
   refine ⟨(show 1 ≤ sizeLine by rw [sizeLine_eq]; decide), fun E hE => ?_⟩
   have hE : σ4 E = none := hE
   show WBin g c' _ _ _ ⟨_, upd σ4 E (.list (nL [cc.getLastD 0 + 2 ^ k]))⟩ _
   have hEE : upd σ4 E (.list (nL [cc.getLastD 0 + 2 ^ k])) E = _ := zA
   have kpa : ∀ b o, σ4 b = some o -> upd σ4 E (.list (nL [cc.getLastD 0 + 2 ^ k])) b = some o := zC hE
   generalize upd σ4 E (.list (nL [cc.getLastD 0 + 2 ^ k])) = σ5 at *
   refine WBin_addL (S := ⟨_, σ5⟩) (kpa _ _ hR) hEE (by rw [nL_len, nL_len, sizeLine_eq]; simp; lia) fun F hF => ?_
   have hF : σ5 F = none := hF
   have hFD : F ≠ D := fun e => by rw [e, kpa _ _ hDD] at hF; exact Mine.sn hF
   rw [show nL cc ++ nL [cc.getLastD 0 + 2 ^ k] = nL (cc ++ [cc.getLastD 0 + 2 ^ k]) from List.map_append.symm]
   have kpb : ∀ b o, σ4 b = some o -> upd σ5 F (.list (nL (cc ++ [cc.getLastD 0 + 2 ^ k]))) b = some o := fun b o e => zC hF _ _ (kpa b o e)
   have hFF : upd σ5 F (.list (nL (cc ++ [cc.getLastD 0 + 2 ^ k]))) F = _ := zA
   generalize upd σ5 F (.list (nL (cc ++ [cc.getLastD 0 + 2 ^ k]))) = σ6 at *
   refine ⟨us, kpb _ _ hDD, by rw [sizeLine_eq]; exact Nat.le_trans ‹_› (by decide), ?_⟩
   show Q_ Flow.next ⟨_, upd σ6 D (.list (us ++ [.ref F]))⟩
   have kpd : ∀ b o, b ≠ D -> σ4 b = some o -> upd σ6 D (.list (us ++ [.ref F])) b = some o := fun b o n e => (if_neg n).trans (kpb b o e)
   have chu' : Chs (upd σ6 D (.list (us ++ [.ref F]))) D (us ++ [.ref F]) (((chainsOf k).take i).flatMap (growOne k) ++ [cc ++ [cc.getLastD 0 + 2 ^ k]]) := Chs.snoc (chu.mono kpd) ((if_neg hFD).trans hFF) hFD
   have hDD' : upd σ6 D (.list (us ++ [.ref F])) D = _ := zA
   generalize upd σ6 D (.list (us ++ [.ref F])) = σ7 at *
   have hR' := kpd _ _ hRD hR
   have hC' := kpd _ _ hDC hC2
   have ch' := ch2.mono kpd
   have kp' : ∀ b o, S.σ b = some o -> σ7 b = some o := fun b o e => kpd b o (by rintro rfl; rw [hDs] at e; exact Mine.ns e) (kp2 b o e)
   show WXs g c' (_ :: _) _ _
   refine WXs.le (S' := ⟨setv mc (ofString "chain") (.ref R), σ7⟩) ?_ ⟨fun _ _ e => e, fun _ _ e => e⟩
   w_fin
   refine z7 (S := ⟨_, σ7⟩) (.inl hR') (by rw [nL_len]; lia) ?_
   rw [nL_len]
   w_fin
   refine WCmp_gt (zP ?_)
   by_cases q : 1 < cc.length
   ·refine zR (decide_eq_true (by exact om15 ‹_›)) ?_
    rw [show growOne k cc = [cc ++ [cc.getLastD 0 + 2 ^ k], cc.dropLast.map fun n => n + 2 ^ k] by unfold growOne; rw [if_pos q]] at et2
    w_fin
    refine ⟨D, _, rfl, hDD', ?_⟩
    refine WE_CompV (fun _ _ => rfl) hs (by kernel_rfl) (by kernel_rfl) (by kernel_rfl) ?_
    refine WE_SliceL ?_
    w_fin
    refine ⟨R, rfl, WPart_none (zn ?_)⟩
    w_fin
    refine ⟨_, rfl, nL cc, .inl hR', by rw [nL_len, sizeLine_eq]; lia, fun E' hE' => ?_⟩
    have hE' : σ7 E' = none := hE'
    rw [pick_last, show (nL cc).dropLast = nL cc.dropLast from List.map_dropLast.symm]
    show CompVPost g c' _ _ _ _ _ _ _ ⟨_, upd σ7 E' (.list (nL cc.dropLast))⟩
    have hEE' : upd σ7 E' (.list (nL cc.dropLast)) E' = _ := zA
    have kpe : ∀ b o, σ7 b = some o -> upd σ7 E' (.list (nL cc.dropLast)) b = some o := zC hE'
    generalize upd σ7 E' (.list (nL cc.dropLast)) = σ8 at *
    refine .mk (Q := _) cc.dropLast (fun n => .int ((n : Nat) : Int) 0) (fun S => S.σ E' = some (.list (nL cc.dropLast))) (fun n => some (.int ((n + 2 ^ k : Nat) : Int) 0)) (zU (S := ⟨_, σ8⟩) hEE') (fun S2 k => k _ _ hEE') (by rw [List.length_dropLast]; lia) (fun c2 hsa hx2 hd2 n hn => ?_) fun F' hF' => ?_
    ·w_fin
     refine WBin_shl (by exact Int.natCast_nonneg _) (by omega) (by decide) ?_
     w_fin
     exact ⟨congrArg some (congrArg (Value.int · 0) (by rw [Int.toNat_natCast, Int.one_mul, Int.natCast_add, Int.natCast_pow]; rfl)), zY (by kernel_rfl)⟩
    rw [fm_some, show (cc.dropLast.map fun n => Value.int ((n + 2 ^ k : Nat) : Int) 0) = nL (cc.dropLast.map fun n => n + 2 ^ k) by unfold nL; rw [List.map_map]; rfl]
    have hF' : σ8 F' = none := hF'
    have hFD' : F' ≠ D := fun e => by rw [e, kpe _ _ hDD'] at hF'; exact Mine.sn hF'
    have kpf : ∀ b o, σ7 b = some o -> upd σ8 F' (.list (nL (cc.dropLast.map fun n => n + 2 ^ k))) b = some o := fun b o e => zC hF' _ _ (kpe b o e)
    have hFF' : upd σ8 F' (.list (nL (cc.dropLast.map fun n => n + 2 ^ k))) F' = _ := zA
    generalize upd σ8 F' (.list (nL (cc.dropLast.map fun n => n + 2 ^ k))) = σ9 at *
    refine ⟨_, kpf _ _ hDD', by rw [sizeLine_eq, List.length_append]; simp; exact Nat.le_trans ‹_› (by decide), ?_⟩
    have kpg : ∀ b o, b ≠ D -> σ7 b = some o -> upd σ9 D (.list (us ++ [.ref F] ++ [.ref F'])) b = some o := fun b o n e => (if_neg n).trans (kpf b o e)
    have chu'' : Chs (upd σ9 D (.list (us ++ [.ref F] ++ [.ref F']))) D (us ++ [.ref F] ++ [.ref F']) ((((chainsOf k).take i).flatMap (growOne k) ++ [cc ++ [cc.getLastD 0 + 2 ^ k]]) ++ [cc.dropLast.map fun n => n + 2 ^ k]) := Chs.snoc (chu'.mono kpg) ((if_neg hFD').trans hFF') hFD'
    w_fin
    exact ⟨by walk_at "l", by walk_at "l", ⟨_, zA, by rw [et2, show ∀ (l : List (List Nat)) a b, l ++ [a, b] = (l ++ [a]) ++ [b] from fun l a b => by simp]; exact chu''⟩, kpg _ _ hDC hC', ch'.mono kpg, fun b o e => kpg b o (by rintro rfl; rw [hDs] at e; exact Mine.ns e) (kp' b o e)⟩
   refine zS (by rw [decide_eq_false (by lia)]; exact Bool.false_ne_true) ?_
   rw [show growOne k cc = [cc ++ [cc.getLastD 0 + 2 ^ k]] by unfold growOne; rw [if_neg q]] at et2
   w_fin
   exact ⟨by walk_at "l", by walk_at "l", ⟨_, hDD', by rw [et2]; exact chu'⟩, hC', ch', kp'⟩
  obtain ⟨v1, v2, ⟨us, hDD2, chu⟩, hC3, ch3, kp3⟩ := q_
  rw [ch.1, List.take_of_length_le (Nat.le_refl _)] at chu
  w_fin
  exact ⟨D, us, by walk_at "l", hDD2, by rw [et]; exact chu, hDs, kp3⟩
 obtain ⟨C, vs, h1, hC, ch, hCs, kp⟩ := q_
 w_fin
 exact ⟨⟨S.m, S1.σ⟩, Le.refl _, h C vs S1.σ hCs kp hC ch⟩
end
section
variable {P : Params}
theorem fn_closed (hK : g.K = hd.heap_1 P) : FnIs g.K 257 (bodyOf P 257) (fdOf P 257).scope (fdOf P 257) :=
 fnIs ⟨_, _, _, rfl⟩ (by kernel_rfl) rfl rfl rfl rfl hK
theorem so_closed : scopeOk (fdOf P 257).scope = true := by kernel_rfl
noncomputable def wrapS (a b : Nat) (p : List Str) : Str := (repS 40 a ++ Txt.join (ofString "") p) ++ repS 41 b
theorem join_len {p : List Str} (h : ∀ s ∈ p, s.length ≤ 4) : (p.map fun x => x.length).sum + p.length * (ofString "").length ≤ 4 * p.length := by
 rw [show (ofString "").length = 0 by kernel_rfl, Nat.mul_zero, Nat.add_zero]
 exact sum_le p h
theorem W_closed (hK : g.K = hd.heap_1 P) (hd : c.Deep 6) {R wA : Addr} {cc : List Nat} {vs : List Value} {ws : List (List Str)} (hR : S.σ R = some (.list (nL cc))) (hw : S.σ wA = some (.list vs)) (hws : Words S.σ vs ws)
  (hl1 : 1 ≤ cc.length) (hl2 : cc.length ≤ 6) (hwl : ws.length ≤ 32) (hm : cc.getD (cc.length / 2) 0 < ws.length) (hp : (ws.getD (cc.getD (cc.length / 2) 0) []).length ≤ 5) (hp4 : ∀ s ∈ ws.getD (cc.getD (cc.length / 2) 0) [], s.length ≤ 4)
  (t1 : TextOk (wrapS (cc.length / 2) (cc.length - 1 - cc.length / 2) (ws.getD (cc.getD (cc.length / 2) 0) []))) (o1 : okS (wrapS (cc.length / 2) (cc.length - 1 - cc.length / 2) (ws.getD (cc.getD (cc.length / 2) 0) [])) = true)
  (t2 : 0 < cc.length / 2 -> 0 < cc.length - 1 - cc.length / 2 -> TextOk (wrapS (cc.length / 2 - 1) (cc.length - 1 - cc.length / 2 - 1) (ws.getD (cc.getD (cc.length / 2) 0) [])) /\ okS (wrapS (cc.length / 2 - 1) (cc.length - 1 - cc.length / 2 - 1) (ws.getD (cc.getD (cc.length / 2) 0) [])) = false)
  (h : Q (.bool true) S) : WC g c (.ref 257) [.ref R, .ref wA] S Q := by
 refine WC.drop (WC_def (n := 5) hd (fn_closed hK) so_closed (B := [(ofString "chain", .ref R), (ofString "words", .ref wA)]) (fun us hu => ?_) (by kernel_rfl) fun c' hs hx hd' => ?_)
 ·(refine zD (map2 hu) ?_; intro u u' rfl_1 hu1 hu2; subst rfl_1)
  exact ⟨[(ofString "chain", u), (ofString "words", u')], by kernel_rfl, by simp [hu1, hu2]⟩
 refine WXs.le (S' := ⟨setv (setv (fun _ => none) (ofString "chain") (.ref R)) (ofString "words") (.ref wA), S.σ⟩) ?_ (Le.refl _)
 show WXs g c' (_ :: _) _ _
 have hab := pqg hl1
 have a6 : cc.length / 2 ≤ 6 := Nat.le_trans (Nat.div_le_self _ _) hl2
 have b6 : cc.length - 1 - cc.length / 2 ≤ 6 := Nat.le_trans (Nat.sub_le _ _) (Nat.le_trans (Nat.sub_le _ _) hl2)
 have h100 : ∀ x : Nat, x ≤ 6 -> (x : Int) ≤ 100 := fun x h => Int.ofNat_le.mpr (Nat.le_trans h (by decide))
 generalize ha : cc.length / 2 = a at *
 generalize hb : cc.length - 1 - a = b at *
 w_fin
 refine z7 (.inl hR) (by rw [nL_len]; exact om26 (Nat.le_trans ‹_› (by decide))) ?_
 rw [nL_len]
 w_fin
 rw [show (cc.length : Int).fdiv 2 = ((a : Nat) : Int) by rw [← ha, Int.fdiv_eq_ediv_of_nonneg _ (by decide)]; rfl]
 refine z7 (.inl hR) (by rw [nL_len]; exact om26 (Nat.le_trans ‹_› (by decide))) ?_
 rw [nL_len]
 w_fin
 rw [hab]
 w_fin
 refine ⟨_, rfl, ?_⟩
 show WE g c' _ ⟨_, S.σ⟩ _
 refine WE_gen7 (x1 := ofString "chain") (x2 := ofString "words") (x3 := ofString "ahead") (x4 := ofString "behind") (x5 := ofString "behind") (x6 := ofString "behind") (x7 := ofString "behind") (by walk_at "l") (by walk_at "l") (by walk_at "l") (by walk_at "l") (by walk_at "l") (by walk_at "l") (by walk_at "l") fun mf v1 v2 v3 v4 v5 v6 v7 => ?_
 w_fin
 have e1 : (nL cc)[(a : Int).toNat]? = some (.int ((cc.getD a 0 : Nat) : Int) 0) := by
  rw [Int.toNat_natCast]; unfold nL
  rw [List.getElem?_map, List.getD_eq_getElem?_getD, List.getElem?_eq_getElem (show a < cc.length by lia)]; rfl
 generalize cc.getD a 0 = m at *
 refine zW (S := ⟨_, S.σ⟩) hR (by exact Int.natCast_nonneg _) (by lia) e1 ?_
 w_fin
 obtain ⟨r, hr1, hr2⟩ := hws.2 m (ws.getD m []) (by rw [List.getD_eq_getElem?_getD, List.getElem?_eq_getElem hm]; rfl)
 generalize ws.getD m [] = p at *
 refine zW (S := ⟨_, S.σ⟩) hw (by exact Int.natCast_nonneg _) (by lia) (by rw [Int.toNat_natCast]; exact hr1) ?_
 have jl := join_len hp4
 refine ⟨r, _, p, rfl, hr2, sL_are _, by lia, ?_⟩
 show WXs g c' (_ :: _) ⟨_, S.σ⟩ _
 refine WXs_gen7 (x1 := ofString "ahead") (x2 := ofString "behind") (x3 := ofString "text") (x4 := ofString "text") (x5 := ofString "text") (x6 := ofString "text") (x7 := ofString "text") (by walk_at "l") (by walk_at "l") (by walk_at "l") (by walk_at "l") (by walk_at "l") (by walk_at "l") (by walk_at "l") fun mc u1 u2 u3 u4 u5 u6 u7 => ?_
 clear v1 v2 v3 v4 v5 v6 v7
 w_fin
 rw [show ofString "(" = chr1 40 by kernel_rfl]
 refine WBin_muls (Int.natCast_nonneg _) (h100 a a6) ?_
 w_fin
 have tl1 : (repS 40 a).length + (Txt.join (ofString "") p).length + (repS 41 b).length ≤ 1000 := by
  have := t1.len; unfold wrapS at this; rw [zM, zM] at this; exact this
 refine zi (by rw [sizeLine_eq]; exact Nat.le_trans (Nat.le_trans (Nat.le_add_right _ _) tl1) (by decide)) ?_
 w_fin
 rw [show ofString ")" = chr1 41 by kernel_rfl]
 refine WBin_muls (Int.natCast_nonneg _) (h100 b b6) ?_
 w_fin
 refine zi (by rw [zM, sizeLine_eq]; exact Nat.le_trans ‹_› (by decide)) ?_
 w_fin
 refine W_check hK hd' t1.esc t1.len t1.quo ?_
 w_fin
 refine WCmp_isNotBool (zP ?_)
 show if (!(okS (wrapS a b p) == true)) = true then _ else _
 rw [o1]
 refine zS (by decide) ?_
 w_fin
 refine WCmp_gt (zP ?_)
 by_cases q1 : 0 < a
 ·rw [show decide ((0 : Int) < (a : Int)) = true from decide_eq_true (by exact om15 ‹_›)]
  w_fin
  refine WCmp_gt (zP ?_)
  by_cases q2 : 0 < b
  ·rw [show decide ((0 : Int) < (b : Int)) = true from decide_eq_true (by exact om15 ‹_›)]
   w_fin
   obtain ⟨t2, o2⟩ := t2 q1 q2
   have tl2 : (repS 40 ((a - 1 : Nat) : Int)).length + (Txt.join (ofString "") p).length + (repS 41 ((b - 1 : Nat) : Int)).length ≤ 1000 := by
    have := t2.len; unfold wrapS at this; rw [zM, zM] at this; exact this
   rw [show ofString "(" = chr1 40 by kernel_rfl, show (a : Int) - 1 = ((a - 1 : Nat) : Int) from (Int.ofNat_sub q1).symm]
   refine WBin_muls (Int.natCast_nonneg _) (h100 _ (Nat.le_trans (Nat.sub_le _ _) a6)) ?_
   w_fin
   refine zi (by rw [sizeLine_eq]; exact Nat.le_trans (Nat.le_trans (Nat.le_add_right _ _) tl2) (by decide)) ?_
   w_fin
   rw [show ofString ")" = chr1 41 by kernel_rfl, show (b : Int) - 1 = ((b - 1 : Nat) : Int) from (Int.ofNat_sub q2).symm]
   refine WBin_muls (Int.natCast_nonneg _) (h100 _ (Nat.le_trans (Nat.sub_le _ _) b6)) ?_
   w_fin
   refine zi (by rw [zM, sizeLine_eq]; exact Nat.le_trans ‹_› (by decide)) ?_
   w_fin
   refine W_check hK hd' t2.esc t2.len t2.quo ?_
   w_fin
   refine WCmp_isBool ?_
   show Q_ (.ret (.bool (okS (wrapS (a - 1) (b - 1) p) == false))) _
   rw [o2]
   exact ⟨S, ⟨fun _ _ e => e, fun _ _ e => e⟩, h⟩
  rw [show decide ((0 : Int) < (b : Int)) = false from decide_eq_false (by lia)]
  w_fin
  exact ⟨S, ⟨fun _ _ e => e, fun _ _ e => e⟩, h⟩
 rw [show decide ((0 : Int) < (a : Int)) = false from decide_eq_false (by lia)]
 w_fin
 exact ⟨S, ⟨fun _ _ e => e, fun _ _ e => e⟩, h⟩
end
section
variable {P : Params}
theorem fn_holds (hK : g.K = hd.heap_1 P) : FnIs g.K 262 (bodyOf P 262) (fdOf P 262).scope (fdOf P 262) :=
 fnIs ⟨_, _, _, rfl⟩ (by kernel_rfl) rfl rfl rfl rfl hK
theorem so_holds : scopeOk (fdOf P 262).scope = true := by kernel_rfl
theorem map5 {us : List Value} {v w x y z : Value} (h : us.map er = [v, w, x, y, z]) : ∃ u1 u2 u3 u4 u5, us = [u1, u2, u3, u4, u5] /\ er u1 = v /\ er u2 = w /\ er u3 = x /\ er u4 = y /\ er u5 = z := by
 obtain ⟨p, r, e, h1, h2⟩ := map_cons h
 obtain ⟨u2, u3, u4, u5, e2, h3⟩ := map4 h2
 exact ⟨p, u2, u3, u4, u5, by rw [e, e2], h1, h3⟩
noncomputable def wordsOf (modes spots : List Int) (hidden : Str) (n : Nat) : List (List Str) := (modes.map fm).map fun r => piecesOf r spots hidden n
noncomputable def linesOf (order : List Nat) (cs : List (List Nat)) : List (List Nat) := order.flatMap fun m => cs.filter fun c => decide (c.headD 0 = m)
noncomputable def dueAt (modes : List Int) (ls : List (List Nat)) (t : Nat) : List Str := ls.filterMap fun l => if t < l.length then some (rowUp (modes.getD (l.getD t 0) 0) 3) else none
noncomputable def dueOf (modes : List Int) (ls : List (List Nat)) (n : Nat) : List (List Str) := (List.range (n + 1)).map (dueAt modes ls)
structure ClosedOk (ws : List (List Str)) (cc : List Nat) : Prop where
 len : (ws.getD (cc.getD (cc.length / 2) 0) []).length ≤ 5
 one : ∀ s ∈ ws.getD (cc.getD (cc.length / 2) 0) [], s.length ≤ 4
 t1 : TextOk (wrapS (cc.length / 2) (cc.length - 1 - cc.length / 2) (ws.getD (cc.getD (cc.length / 2) 0) []))
 o1 : okS (wrapS (cc.length / 2) (cc.length - 1 - cc.length / 2) (ws.getD (cc.getD (cc.length / 2) 0) [])) = true
 t2 : 0 < cc.length / 2 -> 0 < cc.length - 1 - cc.length / 2 -> TextOk (wrapS (cc.length / 2 - 1) (cc.length - 1 - cc.length / 2 - 1) (ws.getD (cc.getD (cc.length / 2) 0) [])) /\ okS (wrapS (cc.length / 2 - 1) (cc.length - 1 - cc.length / 2 - 1) (ws.getD (cc.getD (cc.length / 2) 0) [])) = false
structure HoldsOk (modes spots : List Int) (order : List Nat) (hidden : Str) (n : Nat) : Prop where
 s5 : spots.length ≤ 5
 sp : ∀ s ∈ spots, 0 ≤ s /\ s < 9
 md : ∀ m ∈ modes, 0 ≤ m /\ m < 65536
 ml : modes.length ≤ 32
 hl : hidden.length ≤ 3
 at_ : n < spots.length
 ol : order.length ≤ 32
 om : ∀ m ∈ order, m < modes.length
 cm : ∀ cc ∈ chainsOf spots.length, ∀ m ∈ cc, m < modes.length
 wo : ∀ m ∈ order, WordOk ((wordsOf modes spots hidden n).getD m [])
 su : ∀ m ∈ order, ∀ m', sucOf (wordsOf modes spots hidden n) m = some m' -> m' ∈ order
 nd : (order.map fun m => (modes.map fm).getD m Str.empty).Nodup
 rk : ∃ rk : Str -> Nat, ∀ e ∈ order.filterMap (edgeOf (modes.map fm) (wordsOf modes spots hidden n)), rk e.2 < rk e.1
 runs : Runs (dueOf modes (linesOf order (chainsOf spots.length)) spots.length) (((SG.nodes (order.map fun m => (modes.map fm).getD m Str.empty)).edges (order.filterMap (edgeOf (modes.map fm) (wordsOf modes spots hidden n)))).prep)
 ch : ∀ cc ∈ chainsOf spots.length, ClosedOk (wordsOf modes spots hidden n) cc
theorem fm_len10 (mode : Int) : (fm mode).length = 10 := by
 rw [← tl_len]
 unfold fm fmUp
 rw [tl_join, List.map_map]
 rfl
theorem nL_iL (l : List Nat) : iL (l.map fun n => ((n : Nat) : Int)) = nL l := by unfold iL nL; rw [List.map_map]; rfl
theorem comp_le2 {scope : Scope} {x x2 : Str} {y z : Value} {m : Str -> Option Value} {σ : Addr -> Option (AO Str)} (hf : extOf scope x2 = false) (hn : x2 ≠ x) : Le ⟨setv (compM scope m) x y, σ⟩ ⟨setv (setv (compM scope m) x y) x2 z, σ⟩ where
 m w v e := by
  refine (if_neg ?_).trans e
  rintro rfl
  have e : setv (compM scope m) x y w = some v := e
  unfold setv at e
  rw [if_neg hn] at e
  unfold compM at e
  have hf : (scope.names.lookup w == some .free) = false := hf
  rw [hf] at e
  exact nomatch e
 s b o e := e
theorem fm_if {α β : Type} (p : α -> Prop) [DecidablePred p] (f : α -> β) : ∀ l : List α, (l.filterMap fun z => if p z then some (f z) else none) = (l.filter fun z => decide (p z)).map f
 | [] => rfl
 | z :: l => by
  rw [List.filterMap_cons, List.filter_cons, fm_if p f l]
  by_cases q : p z
  ·rw [if_pos q, if_pos (decide_eq_true q)]; rfl
  rw [if_neg q, if_neg (by rw [decide_eq_false q]; exact Bool.false_ne_true)]
theorem sL_due {modes : List Int} {zs : List (Value × List Nat)} {t : Nat} : (zs.filterMap fun z => if t < z.2.length then some (Value.str (rowUp (modes.getD (z.2.getD t 0) 0) 3) 0) else none) = sL (dueAt modes (zs.map Prod.snd) t) := by
 unfold dueAt sL
 rw [List.filterMap_map, List.map_filterMap]
 congr 1
 funext z
 show _ = Option.map _ (if t < z.2.length then _ else _)
 split <;> rfl
theorem EqW.strT {S : St Str} (i : Str) : EqW g S 0 (.str i 0) (.str i 0) true := by
 have := EqW.str (g := g) (S := S) i i
 rwa [beq_self_eq_true] at this
theorem fm_none {α : Type} : ∀ l : List α, l.filterMap (fun _ => (none : Option Value)) = []
 | [] => rfl
 | _ :: l => fm_none l
theorem lines_fst {zc : List (Value × List Nat)} {order : List Nat} : (order.flatMap fun y => zc.filterMap fun z => if z.2.headD 0 = y then some z.1 else none) = (order.flatMap fun y => zc.filter fun z => decide (z.2.headD 0 = y)).map Prod.fst := by
 rw [List.map_flatMap]
 congr 1
 funext y
 exact fm_if (fun z : Value × List Nat => z.2.headD 0 = y) Prod.fst zc
theorem lines_snd {zc : List (Value × List Nat)} {order : List Nat} : (order.flatMap fun y => zc.filter fun z => decide (z.2.headD 0 = y)).map Prod.snd = linesOf order (zc.map Prod.snd) := by
 unfold linesOf
 rw [List.map_flatMap]
 congr 1
 funext y
 rw [List.filter_map]; rfl
theorem W_holds (hK : g.K = hd.heap_1 P) (hG : g.Ok) (hd : c.Deep 8) (K : KeyOk g kvS) {mA sA oA : Addr} {modes spots : List Int} {order : List Nat} {hidden : Str} {n : Nat} (hm : S.σ mA = some (.list (iL modes))) (hsp : S.σ sA = some (.list (iL spots))) (ho : S.σ oA = some (.list (iL (order.map fun n => ((n : Nat) : Int)))))
  (ok : HoldsOk modes spots order hidden n) (h : Q (.bool true) S) : WCX g c .none (.ref 262) [.ref mA, .ref sA, .ref oA, .str hidden 0, .int n 0] S Q fun _ => False := by
 refine WCX.drop (WCX.ofD (WDX_def (n := 7) hd (fn_holds hK) so_holds (B := [(ofString "modes", .ref mA), (ofString "spots", .ref sA), (ofString "order", .ref oA), (ofString "hidden", .str hidden 0), (ofString "at", .int n 0)]) (fun us hu => ?_) (by kernel_rfl) fun c' hs hx hd' => ?_))
 ·obtain ⟨u1, u2, u3, u4, u5, rfl, h1, h2, h3, h4, h5⟩ := map5 hu
  exact ⟨[(ofString "modes", u1), (ofString "spots", u2), (ofString "order", u3), (ofString "hidden", u4), (ofString "at", u5)], by kernel_rfl, by simp [h1, h2, h3, h4, h5]⟩
 refine WXsX.of ?_
 show WXsF g c' (_ :: _) ⟨setv (setv (setv (setv (setv (fun _ => none) (ofString "modes") (.ref mA)) (ofString "spots") (.ref sA)) (ofString "order") (.ref oA)) (ofString "hidden") (.str hidden 0)) (ofString "at") (.int n 0), S.σ⟩ _
 obtain ⟨sm, σ0⟩ := S
 have hm : σ0 mA = _ := hm
 have hsp : σ0 sA = _ := hsp
 have ho : σ0 oA = _ := ho
 have s5 := ok.s5
 w_fin
 refine z7 (S := ⟨_, σ0⟩) (.inl hsp) (by rw [zj]; exact om26 (Nat.le_trans ‹_› (by decide))) ?_
 rw [zj]
 w_fin
 show WX g c' _ ⟨_, σ0⟩ _
 refine WX_gen7 (x1 := ofString "modes") (x2 := ofString "spots") (x3 := ofString "order") (x4 := ofString "hidden") (x5 := ofString "at") (x6 := ofString "many") (x7 := ofString "many") (by walk_at "l") (by walk_at "l") (by walk_at "l") (by walk_at "l") (by walk_at "l") (by walk_at "l") (by walk_at "l") fun m0 t1 t2 t3 t4 t5 t6 t7 => ?_
 refine WX_CompV (fun _ _ => rfl) hs (by kernel_rfl) (by kernel_rfl) (by kernel_rfl) hx (by kernel_rfl) (by kernel_rfl) ?_
 w_fin
 have ml := ok.ml
 refine .mk (Q := _) modes (fun m => .int m 0) (fun S => S.σ mA = some (.list (iL modes))) (fun m => some (.str (fm m) 0)) (zU (S := ⟨_, σ0⟩) hm) (fun S2 k => k _ _ hm) (by exact Nat.le_trans ‹_› (by decide)) (fun c2 hsa hx2 hd2 y hy => ?_) fun rA hrA => ?_
 ·w_fin
  refine W_fm hK hG (hd2 _ (hd'.less (by decide))) ?_
  exact ⟨rfl, zY (by kernel_rfl)⟩
 have hrA : σ0 rA = none := hrA
 rw [fm_some, show (modes.map fun m => Value.str (fm m) 0) = sL (modes.map fm) by unfold sL; rw [List.map_map]; rfl]
 have kp1 : ∀ b o, σ0 b = some o -> upd σ0 rA (.list (sL (modes.map fm))) b = some o := zC hrA
 have hra : upd σ0 rA (.list (sL (modes.map fm))) rA = some (.list (sL (modes.map fm))) := zA
 show Q_ Flow.next ⟨_, upd σ0 rA (.list (sL (modes.map fm)))⟩
 generalize upd σ0 rA (.list (sL (modes.map fm))) = σ1 at *
 show WXsF g c' (_ :: _) ⟨_, σ1⟩ _
 refine zv (x1 := ofString "modes") (x2 := ofString "spots") (x3 := ofString "order") (x4 := ofString "hidden") (x5 := ofString "at") (x6 := ofString "many") (x7 := ofString "rows") (by walk_at "l") (by walk_at "l") (by walk_at "l") (by walk_at "l") (by walk_at "l") (by walk_at "l") (by walk_at "l") fun mf v1 v2 v3 v4 v5 v6 v7 => ?_
 w_fin
 refine z5 hs hx (by kernel_rfl) ?_
 refine WE_CompO (fun _ _ => rfl) hs (by kernel_rfl) (by kernel_rfl) (by kernel_rfl) ?_
 w_fin
 have hsp1 := kp1 _ _ hsp
 refine .mk (Q := _) (modes.map fm) (fun r => .str r 0) (fun S => S.σ rA = some (.list (sL (modes.map fm)))) (fun r => .list (sL (piecesOf r spots hidden n))) (zU (S := ⟨_, σ1⟩) hra) (fun S2 k => k _ _ hra) (by rw [List.length_map]; omega) (fun c2 hsa hx2 hd2 y hy σ kσ => ?_) fun vs σ2 kp2 ob wA hwA => ?_
 ·have hy10 : y.length = 10 := by
   obtain ⟨m, _, rfl⟩ := List.mem_map.mp hy
   exact fm_len10 m
  w_fin
  exact W_pieces (S := ⟨_, σ⟩) hK (hd2 _ (hd'.less (by decide))) (kσ _ _ hsp1) ok.sp hy10 s5 ok.at_ ok.hl fun r σ' h0 hk hr => ⟨r, rfl, h0, hr, (zY (σ := σ) (by kernel_rfl)).m, hk⟩
 have hwA : σ2 wA = none := hwA
 have kp2 : ∀ b o, σ1 b = some o -> σ2 b = some o := kp2
 have hws2 : Words σ2 vs (wordsOf modes spots hidden n) := ⟨by rw [ob.1]; unfold wordsOf; rw [List.length_map (as := modes.map fm)], fun j p e => by
  unfold wordsOf at e
  rw [List.getElem?_map, Option.map_eq_some_iff] at e
  obtain ⟨y, hy, rfl⟩ := e
  obtain ⟨r, h1, h2, _⟩ := ob.2 j y hy
  exact ⟨r, h1, h2⟩⟩
 have kp3 : ∀ b o, σ2 b = some o -> upd σ2 wA (.list vs) b = some o := zC hwA
 have hw3 : upd σ2 wA (.list vs) wA = some (.list vs) := zA
 have hws3 := hws2.mono kp3
 have kpa : ∀ b o, σ1 b = some o -> upd σ2 wA (.list vs) b = some o := fun b o e => kp3 _ _ (kp2 _ _ e)
 have hm3 := kpa _ _ (kp1 _ _ hm)
 have ho3 := kpa _ _ (kp1 _ _ ho)
 have hr3 := kpa _ _ hra
 show Q_ Flow.next ⟨_, upd σ2 wA (.list vs)⟩
 generalize upd σ2 wA (.list vs) = σ3 at *
 clear ob hws2 kpa
 show WXsF g c' (_ :: _) ⟨_, σ3⟩ _
 refine zv (x1 := ofString "modes") (x2 := ofString "words") (x3 := ofString "order") (x4 := ofString "words") (x5 := ofString "rows") (x6 := ofString "many") (x7 := ofString "rows") (by walk_at "l") (by walk_at "l") (by walk_at "l") (by walk_at "l") (by walk_at "l") (by walk_at "l") (by walk_at "l") fun mc u1 u2 u3 u4 u5 u6 u7 => ?_
 clear v1 v2 v3 v4 v5 v6 v7
 w_fin
 refine W_chains (S := ⟨_, σ3⟩) hK (hd'.less (by decide)) s5 fun C cvs σ4 hC kp4 hCl chs => ?_
 have kp4 : ∀ b o, σ3 b = some o -> σ4 b = some o := kp4
 have hws4 := hws3.mono kp4
 have hm4 := kp4 _ _ hm3
 have ho4 : σ4 oA = some (.list (nL order)) := by rw [← nL_iL]; exact kp4 _ _ ho3
 have hr4 := kp4 _ _ hr3
 have hw4 := kp4 _ _ hw3
 have bd := chain_bounds spots.length (by exact Nat.lt_succ_of_le ‹_›)
 have okcm := ok.cm
 have okch := ok.ch
 have okruns := ok.runs
 unfold chainBounds at bd
 generalize chainsOf spots.length = cs at *
 rw [Bool.and_eq_true] at bd
 have bl := of_decide_eq_true bd.1
 have bc : ∀ c ∈ cs, 1 ≤ c.length /\ c.length ≤ 6 := fun c hc => by
  have := List.all_eq_true.mp bd.2 c hc
  rw [Bool.and_eq_true] at this
  exact ⟨of_decide_eq_true this.1, of_decide_eq_true this.2⟩
 obtain ⟨zc, hz1, hz2, hz3⟩ : ∃ zc : List (Value × List Nat), zc.map Prod.fst = cvs /\ zc.map Prod.snd = cs /\ ∀ z ∈ zc, ∃ r : Addr, z.1 = .ref r /\ σ4 r = some (.list (nL z.2)) := by
  refine ⟨cvs.zip cs, List.map_fst_zip (by rw [chs.1]; exact Nat.le_refl _), List.map_snd_zip (by rw [chs.1]; exact Nat.le_refl _), fun z hz => ?_⟩
  obtain ⟨j, hj⟩ := List.mem_iff_getElem?.mp hz
  obtain ⟨x, y⟩ := z
  rw [List.getElem?_zip_eq_some] at hj
  obtain ⟨r, h1, h2, _⟩ := chs.2 j y hj.2
  rw [hj.1] at h1
  exact ⟨r, Option.some.inj h1, h2⟩
 have zl : zc.length = cs.length := by rw [← hz2, List.length_map]
 have zm : ∀ z ∈ zc, z.2 ∈ cs := fun z hz => by rw [← hz2]; exact List.mem_map.mpr ⟨z, hz, rfl⟩
 rw [← hz1] at hCl
 clear chs bd
 show WXsF g c' (_ :: _) ⟨_, σ4⟩ _
 refine zv (x1 := ofString "modes") (x2 := ofString "words") (x3 := ofString "order") (x4 := ofString "chains") (x5 := ofString "rows") (x6 := ofString "many") (x7 := ofString "rows") (by walk_at "l") (by walk_at "l") (by walk_at "l") (by walk_at "l") (by walk_at "l") (by walk_at "l") (by walk_at "l") fun m3 v1 v2 v3 v4 v5 v6 v7 => ?_
 clear u1 u2 u3 u4 u5 u6 u7
 w_fin
 refine z5 hs hx (by kernel_rfl) ?_
 refine WE_Comp2 (fun _ _ => rfl) (fun _ _ => rfl) hs (by kernel_rfl) (by kernel_rfl) (by kernel_rfl) (by kernel_rfl) (by kernel_rfl) ?_
 w_fin
 have ol := ok.ol
 refine .mk (Q := _) order (fun m => .int m 0) (fun S => S.σ oA = some (.list (nL order))) zc Prod.fst (fun S => S.σ C = some (.list (zc.map Prod.fst))) (fun y z => if z.2.headD 0 = y then some z.1 else none) (zU (S := ⟨_, σ4⟩) ho4) (fun S2 k => ⟨k _ _ ho4, k _ _ hCl⟩) ?_ (by exact Nat.le_trans ‹_› (by decide)) (fun c2 hsa hx2 hd2 y hy => ?_) fun L hL => ?_
 ·exact Nat.le_trans (Nat.mul_le_mul ol (show zc.length ≤ 10 by exact om37 ‹_› ‹_›)) (by decide)
 ·w_fin
  refine ⟨Le.refl _, zU (S := ⟨_, σ4⟩) hCl, fun z hz => ?_⟩
  obtain ⟨r, hr, hrl⟩ := hz3 z hz
  have bz := bc _ (zm z hz)
  rw [hr]
  w_fin
  have hd0 : (nL z.2)[(0 : Int).toNat]? = some (.int ((z.2.headD 0 : Nat) : Int) 0) := by
   cases q : z.2 with
   | nil => rw [q] at bz; exact absurd bz.1 (by simp)
   | cons a l => rfl
  refine zW (S := ⟨_, σ4⟩) hrl (by exact Int.natCast_nonneg _) (by exact Int.natCast_nonneg _) hd0 ?_
  w_fin
  by_cases q : z.2.headD 0 = y
  ·rw [show (((z.2.headD 0 : Nat) : Int) == (y : Int)) = true by rw [q]; exact beq_self_eq_true _]
   refine zR rfl ?_
   rw [if_pos q]
   w_fin
   exact ⟨rfl, comp_le2 (by kernel_rfl) (by decide +kernel)⟩
  rw [show (((z.2.headD 0 : Nat) : Int) == (y : Int)) = false from decide_eq_false (by lia)]
  refine zS Bool.false_ne_true ?_
  rw [if_neg q]
  exact ⟨rfl, comp_le2 (by kernel_rfl) (by decide +kernel)⟩
 have hL : σ4 L = none := hL
 rw [lines_fst]
 generalize hzs : (order.flatMap fun y => zc.filter fun z => decide (z.2.headD 0 = y)) = zs
 have zs2 : zs.map Prod.snd = linesOf order cs := by rw [← hzs, lines_snd, hz2]
 have zsm : ∀ z ∈ zs, z ∈ zc := fun z hz => by
  rw [← hzs, List.mem_flatMap] at hz
  obtain ⟨y, _, hz⟩ := hz
  exact (List.mem_filter.mp hz).1
 have zsl : zs.length ≤ 1000 := by
  have := fm_len (fun (y : Nat) (z : Value × List Nat) => if z.2.headD 0 = y then some z.1 else none) zc order
  rw [lines_fst, hzs, List.length_map] at this
  exact Nat.le_trans this (Nat.le_trans (Nat.mul_le_mul ol (show zc.length ≤ 10 by exact om37 ‹_› ‹_›)) (by decide))
 have kp5 : ∀ b o, σ4 b = some o -> upd σ4 L (.list (zs.map Prod.fst)) b = some o := zC hL
 have hL5 : upd σ4 L (.list (zs.map Prod.fst)) L = some (.list (zs.map Prod.fst)) := zA
 have hm5 := kp5 _ _ hm4
 have ho5 := kp5 _ _ ho4
 have hr5 := kp5 _ _ hr4
 have hw5 := kp5 _ _ hw4
 have hC5 := kp5 _ _ hCl
 have hws5 := hws4.mono kp5
 have hz5 : ∀ z ∈ zc, ∃ r : Addr, z.1 = .ref r /\ upd σ4 L (.list (zs.map Prod.fst)) r = some (.list (nL z.2)) := fun z hz => by
  obtain ⟨r, h1, h2⟩ := hz3 z hz
  exact ⟨r, h1, kp5 _ _ h2⟩
 show Q_ Flow.next ⟨_, upd σ4 L (.list (zs.map Prod.fst))⟩
 generalize upd σ4 L (.list (zs.map Prod.fst)) = σ5 at *
 clear hz3 hws4 hCl hw4 hr4 ho4 hm4
 show WXsF g c' (_ :: _) ⟨_, σ5⟩ _
 refine zv (x1 := ofString "modes") (x2 := ofString "words") (x3 := ofString "order") (x4 := ofString "chains") (x5 := ofString "rows") (x6 := ofString "many") (x7 := ofString "lines") (by walk_at "l") (by walk_at "l") (by walk_at "l") (by walk_at "l") (by walk_at "l") (by walk_at "l") (by walk_at "l") fun m4 u1 u2 u3 u4 u5 u6 u7 => ?_
 clear v1 v2 v3 v4 v5 v6 v7
 w_fin
 refine WX_CompO (fun _ _ => rfl) hs (by kernel_rfl) (by kernel_rfl) (by kernel_rfl) hx (by kernel_rfl) (by kernel_rfl) ?_
 w_fin
 refine zw fun r6 hr6 => ?_
 have hr6 : σ5 r6 = none := hr6
 have kp6 : ∀ b o, σ5 b = some o -> upd σ5 r6 (rngO 0 ((spots.length : Int) + 1) 1) b = some o := zC hr6
 have hrr : upd σ5 r6 (rngO 0 ((spots.length : Int) + 1) 1) r6 = some (rngO 0 ((spots.length : Int) + 1) 1) := zA
 show CompOPost g c' _ _ _ _ _ _ ⟨_, upd σ5 r6 (rngO 0 ((spots.length : Int) + 1) 1)⟩
 generalize upd σ5 r6 (rngO 0 ((spots.length : Int) + 1) 1) = σ6 at *
 have hm6 := kp6 _ _ hm5
 have ho6 := kp6 _ _ ho5
 have hr6 := kp6 _ _ hr5
 have hw6 := kp6 _ _ hw5
 have hC6 := kp6 _ _ hC5
 have hL6 := kp6 _ _ hL5
 have hws6 := hws5.mono kp6
 have hz6 : ∀ z ∈ zc, ∃ r : Addr, z.1 = .ref r /\ σ6 r = some (.list (nL z.2)) := fun z hz => by
  obtain ⟨r, h1, h2⟩ := hz5 z hz
  exact ⟨r, h1, kp6 _ _ h2⟩
 clear hz5 hws5 hC5 hw5 hr5 ho5 hm5 hL5
 rw [show (spots.length : Int) + 1 = ((spots.length + 1 : Nat) : Int) by (constructor <;> assumption)] at hrr
 have hN : rngN 0 ((spots.length + 1 : Nat) : Int) 1 = spots.length + 1 := by unfold rngN; rw [size1]; rfl
 have hit : ∀ sm', Iterable g c' (.ref r6) ((List.range (spots.length + 1)).map fun (t : Nat) => Value.int (0 + (t : Int) * 1) 0) (fun _ => True) ⟨sm', σ6⟩ := fun sm' => by
  have hit := iter_range (g := g) (c := c') (S := ⟨sm', σ6⟩) hrr (small_nat (by lia) (by lia) (by lia) (by lia)) (by rw [size1]; exact Int.natCast_nonneg _)
  unfold rngL at hit
  rw [hN] at hit
  exact hit
 refine .mk (Q := _) (List.range (spots.length + 1)) (fun (t : Nat) => .int (0 + (t : Int) * 1) 0) (fun _ => True) (fun t => .tup (sL (dueAt modes (zs.map Prod.snd) t))) (hit _) (fun _ _ => trivial) (by rw [List.length_range]; exact Nat.lt_of_le_of_lt ‹_› (by decide)) (fun c2 hsa hx2 hd2 t ht σ kσ => ?_) fun dvs σ7 kp7 ob7 dA hdA => ?_
 ·rw [Int.zero_add, Int.mul_one]
  w_fin
  have hL7 := kσ _ _ hL6
  have hm7 := kσ _ _ hm6
  have ht5 : t < spots.length + 1 := List.mem_range.mp ht
  refine WE_CompV (fun _ _ => rfl) hsa (by kernel_rfl) (by kernel_rfl) (by kernel_rfl) ?_
  w_fin
  refine .mk (Q := _) zs Prod.fst (fun S => S.σ L = some (.list (zs.map Prod.fst))) (fun z => if t < z.2.length then some (.str (rowUp (modes.getD (z.2.getD t 0) 0) 3) 0) else none) (zU (S := ⟨_, σ⟩) hL7) (fun S2 k => k _ _ hL7) zsl (fun c3 hs3 hx3 hd3 z hz => ?_) fun D hD => ?_
  ·obtain ⟨r, hr, hrl⟩ := hz6 z (zsm z hz)
   have hrl := kσ _ _ hrl
   have bz := bc _ (zm z (zsm z hz))
   have oz := okcm _ (zm z (zsm z hz))
   rw [hr]
   w_fin
   refine z7 (S := ⟨_, σ⟩) (.inl hrl) (by rw [nL_len]; lia) ?_
   rw [nL_len]
   w_fin
   refine WCmp_gt (zP ?_)
   by_cases q : t < z.2.length
   ·refine zR (decide_eq_true (by exact om15 ‹_›)) ?_
    rw [if_pos q]
    have mt := oz (z.2.getD t 0) (by rw [List.getD_eq_getElem?_getD, List.getElem?_eq_getElem q]; exact List.getElem_mem _)
    have mk := ok.md (modes.getD (z.2.getD t 0) 0) (by rw [List.getD_eq_getElem?_getD, List.getElem?_eq_getElem mt]; exact List.getElem_mem _)
    w_fin
    refine zW (S := ⟨_, σ⟩) (k := (t : Int)) (x := .int ((z.2.getD t 0 : Nat) : Int) 0) hrl (by exact Int.natCast_nonneg _) (by lia) (by rw [Int.toNat_natCast]; unfold nL; rw [List.getElem?_map, List.getD_eq_getElem?_getD, List.getElem?_eq_getElem q]; rfl) ?_
    w_fin
    refine zW (S := ⟨_, σ⟩) (k := ((z.2.getD t 0 : Nat) : Int)) (x := .int (modes.getD (z.2.getD t 0) 0) 0) hm7 (by exact Int.natCast_nonneg _) (by lia) (by rw [Int.toNat_natCast]; unfold iL; rw [List.getElem?_map, List.getD_eq_getElem?_getD (l := modes), List.getElem?_eq_getElem mt]; rfl) ?_
    w_fin
    exact W_row (S := ⟨_, σ⟩) hK (hd3 _ (hd2 _ (hd'.less (by decide)))) mk.1 mk.2 ⟨rfl, zY (by kernel_rfl)⟩
   refine zS (by rw [decide_eq_false (by lia)]; exact Bool.false_ne_true) ?_
   rw [if_neg q]
   exact ⟨rfl, zY (by kernel_rfl)⟩
  have hD : σ D = none := hD
  rw [sL_due]
  refine WEs_nil ?_
  refine WC_tuple (S := ⟨_, upd σ D _⟩) zA (by unfold sL dueAt; rw [List.length_map]; exact Nat.le_trans (List.length_filterMap_le _ _) (by rw [List.length_map]; exact Nat.le_trans ‹_› (by decide))) fun T hT => ?_
  have hT : upd σ D (.list (sL (dueAt modes (zs.map Prod.snd) t))) T = none := hT
  have hT0 : σ T = none := by
   cases q : σ T with
   | none => rfl
   | some o => rw [zC hD _ _ q] at hT; exact Mine.sn hT
  exact ⟨T, rfl, hT0, zA, (zY (σ := σ) (by kernel_rfl)).m, fun b o e => zC hT _ _ (zC hD _ _ e)⟩
 have hdA : σ7 dA = none := hdA
 have kp7 : ∀ b o, σ6 b = some o -> σ7 b = some o := kp7
 have kp8 : ∀ b o, σ7 b = some o -> upd σ7 dA (.list dvs) b = some o := zC hdA
 have hd8 : upd σ7 dA (.list dvs) dA = some (.list dvs) := zA
 have kpb : ∀ b o, σ6 b = some o -> upd σ7 dA (.list dvs) b = some o := fun b o e => kp8 _ _ (kp7 _ _ e)
 have kpz : ∀ b o, σ0 b = some o -> upd σ7 dA (.list dvs) b = some o := fun b o e => kpb _ _ (kp6 _ _ (kp5 _ _ (kp4 _ _ (kp3 _ _ (kp2 _ _ (kp1 _ _ e))))))
 rw [zs2] at ob7
 have ob8 := ob7.mono kp8
 have ho8 : upd σ7 dA (.list dvs) oA = some (.list (iL (order.map fun n => ((n : Nat) : Int)))) := by rw [nL_iL]; exact kpb _ _ ho6
 have hr8 := kpb _ _ hr6
 have hw8 := kpb _ _ hw6
 have hC8 := kpb _ _ hC6
 have hws8 := hws6.mono kpb
 have hz8 : ∀ z ∈ zc, ∃ r : Addr, z.1 = .ref r /\ upd σ7 dA (.list dvs) r = some (.list (nL z.2)) := fun z hz => by
  obtain ⟨r, h1, h2⟩ := hz6 z hz
  exact ⟨r, h1, kpb _ _ h2⟩
 show Q_ Flow.next ⟨_, upd σ7 dA (.list dvs)⟩
 generalize upd σ7 dA (.list dvs) = σ8 at *
 show WXsF g c' (_ :: _) ⟨_, σ8⟩ _
 refine zv (x1 := ofString "words") (x2 := ofString "order") (x3 := ofString "chains") (x4 := ofString "rows") (x5 := ofString "due") (x6 := ofString "due") (x7 := ofString "due") (by walk_at "l") (by walk_at "l") (by walk_at "l") (by walk_at "l") (by walk_at "l") (by walk_at "l") (by walk_at "l") fun m5 v1 v2 v3 v4 v5 v6 v7 => ?_
 clear u1 u2 u3 u4 u5 u6 u7 hit hrr hz6 hws6 hL6 hC6 hw6 hr6 ho6 hm6 ob7
 refine zp ?_
 intro Q_2
 refine WXF_IfCmp rfl (WEF_Call rfl ?_)
 w_fin
 refine ⟨by rw [hK]; kernel_rfl, ?_⟩
 w_fin
 have wl : (wordsOf modes spots hidden n).length = modes.length := by unfold wordsOf; rw [List.length_map, List.length_map]
 have rl : (modes.map fm).length = modes.length := List.length_map _
 obtain ⟨rk, hrk⟩ := ok.rk
 refine W_rounds (S := ⟨_, σ8⟩) hK hd' K hr8 hw8 hws8 ho8 (by lia) (by lia) ol (fun m h => by rw [rl]; exact ok.om m h) ok.wo ok.su ok.nd hrk (ls := dueOf modes (linesOf order cs) spots.length) (by unfold dueOf; rw [List.length_map, List.length_range]; exact Nat.lt_of_le_of_lt ‹_› (by decide)) okruns fun O ts σ9 hO kp9 hOt htj => ?_
 obtain ⟨tl, tj⟩ := htj
 have kp9 : ∀ b o, σ8 b = some o -> σ9 b = some o := kp9
 have hd9 := kp9 _ _ hd8
 w_fin
 refine WCmp_neL (S := ⟨_, σ9⟩) (e := fun _ => true) (k := 1) hOt hd9 (by rw [tl, ob8.1]; unfold dueOf; rw [List.length_map]) (by decide) (fun j x y hx' hy' => ?_) ?_
 ·have hj : j < (List.range (spots.length + 1)).length := by
   rw [← ob8.1]
   exact (List.getElem?_eq_some_iff.mp hy').1
  rw [List.length_range] at hj
  have hj2 := List.getElem?_range hj
  obtain ⟨re, e1, e2, _⟩ := ob8.2 j j hj2
  obtain ⟨T, e3, e4, e5⟩ := tj j (dueAt modes (linesOf order cs) j) (by unfold dueOf; rw [List.getElem?_map, hj2]; rfl)
  rw [hx'] at e3
  rw [hy'] at e1
  obtain rfl := Option.some.inj e3
  obtain rfl := Option.some.inj e1
  have e5 : σ8 T = none := e5
  have e2 : σ8 re = some (.tup (sL (dueAt modes (linesOf order cs) j))) := e2
  generalize dueAt modes (linesOf order cs) j = l at *
  have := EqW.tuples (g := g) (S := ⟨m5, σ9⟩) (k := 0) (e := fun _ => true) e4 (kp9 _ _ e2) (fun e => by rw [e, e2] at e5; exact Mine.sn e5) fun i x y hx' hy' => by
   rw [hx'] at hy'
   obtain rfl := Option.some.inj hy'
   unfold sL at hx'
   rw [List.getElem?_map, Option.map_eq_some_iff] at hx'
   obtain ⟨s, _, rfl⟩ := hx'
   exact EqW.strT s
  rw [show ((List.range (min (sL l).length (sL l).length)).all (fun _ => true) && (sL l).length == (sL l).length) = true by rw [beq_self_eq_true, Bool.and_true, List.all_eq_true]; exact fun _ _ => rfl] at this
  exact this
 rw [show (List.range ts.length).all (fun _ => true) = true from List.all_eq_true.mpr fun _ _ => rfl]
 w_fin
 refine zS Bool.false_ne_true ?_
 refine WXsF_nil ?_
 show WXsF g c' (_ :: _) ⟨_, σ9⟩ _
 w_fin
 refine WE_CompV (fun _ _ => rfl) hs (by kernel_rfl) (by kernel_rfl) (by kernel_rfl) ?_
 w_fin
 have hC9 := kp9 _ _ hC8
 have hw9 := kp9 _ _ hw8
 have hws9 := hws8.mono kp9
 refine .mk (Q := _) zc Prod.fst (fun S => S.σ C = some (.list (zc.map Prod.fst))) (fun z => none) (zU (S := ⟨_, σ9⟩) hC9) (fun S2 k => k _ _ hC9) (by lia) (fun c2 hsa hx2 hd2 z hz => ?_) fun D hD => ?_
 ·obtain ⟨r, hr, hrl⟩ := hz8 z hz
  have hrl := kp9 _ _ hrl
  have bz := bc _ (zm z hz)
  have cz := okch _ (zm z hz)
  have mz := okcm _ (zm z hz) (z.2.getD (z.2.length / 2) 0) (by rw [List.getD_eq_getElem?_getD, List.getElem?_eq_getElem (by lia)]; exact List.getElem_mem _)
  rw [hr]
  w_fin
  refine W_closed (S := ⟨_, σ9⟩) hK (hd2 _ (hd'.less (by decide))) hrl hw9 hws9 bz.1 bz.2 (by lia) (by lia) cz.len cz.one cz.t1 cz.o1 cz.t2 ?_
  w_fin
  exact ⟨rfl, zY (by kernel_rfl)⟩
 have hD : σ9 D = none := hD
 rw [fm_none]
 w_fin
 refine ⟨Nat.zero_le _, fun E hE => ?_⟩
 have hE : upd σ9 D (.list []) E = none := hE
 refine WCmp_eqNil (S := ⟨_, upd (upd σ9 D (.list [])) E (.list [])⟩) (xs := []) (zC hE _ _ zA) zA ?_
 exact ⟨⟨sm, σ0⟩, ⟨fun _ _ e => e, fun b o e => zC hE _ _ (zC hD _ _ (kp9 _ _ (kpz _ _ e)))⟩, h⟩
end
theorem za (m i : Nat) : m &&& 2 ^ i = (m / 2 ^ i % 2) * 2 ^ i := by
 refine Nat.eq_of_testBit_eq fun j => ?_
 rw [Nat.testBit_and, Nat.testBit_two_pow]
 have ht : m.testBit i = decide (m / 2 ^ i % 2 = 1) := Nat.testBit_eq_decide_div_mod_eq
 rcases Nat.mod_two_eq_zero_or_one (m / 2 ^ i) with h | h <;> rw [h] at ht ⊢
 ·rw [Nat.zero_mul, Nat.zero_testBit]
  by_cases q : i = j
  ·subst q; rw [ht]; rfl
  rw [decide_eq_false q, Bool.and_false]
 rw [Nat.one_mul, Nat.testBit_two_pow]
 by_cases q : i = j
 ·subst q; rw [ht]; simp
 rw [decide_eq_false q, Bool.and_false]
theorem band_nat (m p : Nat) : Builtin.bitAnd (m : Int) (p : Int) = ((m &&& p : Nat) : Int) := rfl
theorem band_or (m a b : Nat) : m &&& (a ||| b) = (m &&& a) ||| (m &&& b) := Nat.and_or_distrib_left ..
noncomputable def hitsOf (tab : List (Nat × Nat)) (v : Nat -> Nat) (d : Nat) : Nat := (tab.find? (fun p => v p.1 == p.1)).elim d (·.2)
noncomputable def natTab (i : Nat) : List (Nat × Nat) := (fmTab i).map fun p => (p.1.toNat, p.2)
theorem fmTab_pos : ∀ i < 10, ∀ p ∈ fmTab i, 0 ≤ p.1 := by decide
theorem find_same {α : Type} {p q : α -> Bool} : ∀ {l : List α}, (∀ x ∈ l, p x = q x) -> l.find? p = l.find? q
 | [], _ => rfl
 | x :: l, h => by
  rw [List.find?_cons, List.find?_cons, h x (.head _), find_same fun y hy => h y (.tail _ hy)]
theorem fmChar_eq (m : Nat) {i : Nat} (hi : i < 10) : fmChar m i = hitsOf (natTab i) (fun p => if i = 0 then m &&& 61440 else m &&& p) (if i = 0 then 63 else 45) := by
 have e : fmChar m i = ((fmTab i).find? (fmHit m i)).elim (if i = 0 then 63 else 45) (·.2) := by
  unfold fmChar
  cases (fmTab i).find? (fmHit m i) <;> rfl
 have e2 : (fmTab i).find? ((fun p : Nat × Nat => (if i = 0 then m &&& 61440 else m &&& p.1) == p.1) ∘ fun p : Int × Nat => (p.1.toNat, p.2)) = (fmTab i).find? (fmHit m i) := find_same fun p hp => ?_
 ·rw [e]
  unfold hitsOf natTab
  rw [List.find?_map]
  show _ = (Option.map (fun p : Int × Nat => (p.1.toNat, p.2)) ((fmTab i).find? ((fun p : Nat × Nat => (if i = 0 then m &&& 61440 else m &&& p.1) == p.1) ∘ fun p : Int × Nat => (p.1.toNat, p.2)))).elim _ _
  rw [e2]
  cases (fmTab i).find? (fmHit m i) <;> rfl
 have h0 := fmTab_pos i hi p hp
 refine zI (Int.eq_ofNat_of_zero_le h0) ?_; intro k hk
 unfold fmHit
 show ((if i = 0 then m &&& 61440 else m &&& p.1.toNat) == p.1.toNat) = _
 rw [hk, Int.toNat_natCast]
 by_cases q : i = 0
 ·rw [if_pos q, if_pos q]
  show ((m &&& 61440) == k) = (Builtin.bitAnd (m : Int) ((61440 : Nat) : Int) == (k : Int))
  rw [band_nat, Bool.eq_iff_iff, beq_iff_eq, beq_iff_eq]
  lia
 rw [if_neg q, if_neg q]
 show ((m &&& k) == k) = (Builtin.bitAnd (m : Int) (k : Int) == (k : Int))
 rw [band_nat, Bool.eq_iff_iff, beq_iff_eq, beq_iff_eq]
 lia
theorem fdiv_nat (m d : Nat) : (m : Int).fdiv (d : Int) = ((m / d : Nat) : Int) := by rw [Int.fdiv_eq_ediv_of_nonneg _ (Int.natCast_nonneg _)]; (constructor <;> assumption)
theorem fmod_nat (m d : Nat) : (m : Int).fmod (d : Int) = ((m % d : Nat) : Int) := by rw [Int.fmod_eq_emod_of_nonneg _ (Int.natCast_nonneg _)]; (constructor <;> assumption)
theorem bm1 (m a : Nat) : m / (a * 4) % 2 = m / a % 8 / 4 := by rw [← Nat.div_div_eq_div_mul, show (8 : Nat) = 4 * 2 from rfl, Nat.mod_mul_right_div_self]
theorem bm2 (m a : Nat) : m / (a * 2) % 2 = m / a % 8 / 2 % 2 := by
 rw [← Nat.div_div_eq_div_mul, show (8 : Nat) = 2 * 4 from rfl, Nat.mod_mul_right_div_self, Nat.mod_mod_of_dvd _ (by decide)]
theorem bm3 (m a : Nat) : m / a % 2 = m / a % 8 % 2 := (Nat.mod_mod_of_dvd _ (by decide)).symm
theorem bm4 (m b : Nat) : m / (4096 * b) % 2 = m / 4096 / b % 2 := by rw [Nat.div_div_eq_div_mul]
theorem fm0 (m : Nat) (hm : m < 65536) : fmChar m 0 = chAt "?pc?d?b?-?l?s???" ((m : Int).fdiv 4096) := by
 rw [fmChar_eq m (by decide), show (4096 : Int) = ((4096 : Nat) : Int) from rfl, fdiv_nat]
 have e : m &&& 61440 = (m / 4096) * 4096 := by
  rw [show 61440 = (2 ^ 15 ||| 2 ^ 14) ||| (2 ^ 13 ||| 2 ^ 12) from rfl, band_or, band_or, band_or, za, za, za, za]
  have h : m / 4096 < 16 := by lia
  rw [show m / 2 ^ 15 % 2 = m / 4096 / 8 % 2 from bm4 m 8, show m / 2 ^ 14 % 2 = m / 4096 / 4 % 2 from bm4 m 4, show m / 2 ^ 13 % 2 = m / 4096 / 2 % 2 from bm4 m 2, show m / 2 ^ 12 % 2 = m / 4096 % 2 from rfl]
  generalize m / 4096 = q at *
  clear hm
  revert q; decide
 show hitsOf (natTab 0) (fun _ => m &&& 61440) 63 = _
 rw [e]
 have h : m / 4096 < 16 := by omega
 generalize m / 4096 = q at *
 clear e hm
 revert q; decide +kernel
theorem fmPart (m : Nat) {k : Nat} (hk : k < 3) : tl (rowPart m k) = [fmChar m (3 * k + 1), fmChar m (3 * k + 2), fmChar m (3 * k + 3)] := by
 rw [fmChar_eq m (by lia), fmChar_eq m (by lia), fmChar_eq m (by lia)]
 unfold rowPart rowEnds rowFig
 match k, hk with
 | 0, _ =>
  show tl (chr1 (chAt "-r" ((((m : Int).fdiv ((64 : Nat) : Int)).fmod ((8 : Nat) : Int)).fdiv ((4 : Nat) : Int))) ++ chr1 (chAt "-w" ((((m : Int).fdiv ((64 : Nat) : Int)).fmod ((8 : Nat) : Int)).fdiv ((2 : Nat) : Int) |>.fmod ((2 : Nat) : Int))) ++ chr1 (chAt (if ((m : Int).fdiv ((2048 : Nat) : Int)).fmod ((2 : Nat) : Int) = 1 then "Ss" else "-x") ((((m : Int).fdiv ((64 : Nat) : Int)).fmod ((8 : Nat) : Int)).fmod ((2 : Nat) : Int)))) =
   [hitsOf [(256, 114)] (fun p => m &&& p) 45, hitsOf [(128, 119)] (fun p => m &&& p) 45, hitsOf [(2112, 115), (2048, 83), (64, 120)] (fun p => m &&& p) 45]
  unfold hitsOf
  simp only [List.find?_cons, List.find?_nil]
  rw [show 2112 = 2 ^ 11 ||| 2 ^ 6 from rfl, band_or, show m &&& 256 = m &&& 2 ^ 8 from rfl, show m &&& 128 = m &&& 2 ^ 7 from rfl, show m &&& 2048 = m &&& 2 ^ 11 from rfl, show m &&& 64 = m &&& 2 ^ 6 from rfl, za, za, za, za]
  simp only [fdiv_nat, fmod_nat]
  rw [show m / 2 ^ 11 % 2 = m / 2048 % 2 from rfl, show m / 2 ^ 6 % 2 = m / 64 % 8 % 2 from bm3 m 64, show m / 2 ^ 8 % 2 = m / 64 % 8 / 4 from bm1 m 64, show m / 2 ^ 7 % 2 = m / 64 % 8 / 2 % 2 from bm2 m 64]
  have h1 : m / 64 % 8 < 8 := Nat.mod_lt _ (by decide)
  have h2 : m / 2048 % 2 < 2 := Nat.mod_lt _ (by decide)
  generalize m / 64 % 8 = f at *
  generalize m / 2048 % 2 = s at *
  revert f s; decide +kernel
 | 1, _ =>
  show tl (chr1 (chAt "-r" ((((m : Int).fdiv ((8 : Nat) : Int)).fmod ((8 : Nat) : Int)).fdiv ((4 : Nat) : Int))) ++ chr1 (chAt "-w" ((((m : Int).fdiv ((8 : Nat) : Int)).fmod ((8 : Nat) : Int)).fdiv ((2 : Nat) : Int) |>.fmod ((2 : Nat) : Int))) ++ chr1 (chAt (if ((m : Int).fdiv ((1024 : Nat) : Int)).fmod ((2 : Nat) : Int) = 1 then "Ss" else "-x") ((((m : Int).fdiv ((8 : Nat) : Int)).fmod ((8 : Nat) : Int)).fmod ((2 : Nat) : Int)))) =
   [hitsOf [(32, 114)] (fun p => m &&& p) 45, hitsOf [(16, 119)] (fun p => m &&& p) 45, hitsOf [(1032, 115), (1024, 83), (8, 120)] (fun p => m &&& p) 45]
  unfold hitsOf
  simp only [List.find?_cons, List.find?_nil]
  rw [show 1032 = 2 ^ 10 ||| 2 ^ 3 from rfl, band_or, show m &&& 32 = m &&& 2 ^ 5 from rfl, show m &&& 16 = m &&& 2 ^ 4 from rfl, show m &&& 1024 = m &&& 2 ^ 10 from rfl, show m &&& 8 = m &&& 2 ^ 3 from rfl, za, za, za, za]
  simp only [fdiv_nat, fmod_nat]
  rw [show m / 2 ^ 10 % 2 = m / 1024 % 2 from rfl, show m / 2 ^ 3 % 2 = m / 8 % 8 % 2 from bm3 m 8, show m / 2 ^ 5 % 2 = m / 8 % 8 / 4 from bm1 m 8, show m / 2 ^ 4 % 2 = m / 8 % 8 / 2 % 2 from bm2 m 8]
  have h1 : m / 8 % 8 < 8 := Nat.mod_lt _ (by decide)
  have h2 : m / 1024 % 2 < 2 := Nat.mod_lt _ (by decide)
  generalize m / 8 % 8 = f at *
  generalize m / 1024 % 2 = s at *
  revert f s; decide +kernel
 | 2, _ =>
  show tl (chr1 (chAt "-r" ((((m : Int).fdiv ((1 : Nat) : Int)).fmod ((8 : Nat) : Int)).fdiv ((4 : Nat) : Int))) ++ chr1 (chAt "-w" ((((m : Int).fdiv ((1 : Nat) : Int)).fmod ((8 : Nat) : Int)).fdiv ((2 : Nat) : Int) |>.fmod ((2 : Nat) : Int))) ++ chr1 (chAt (if ((m : Int).fdiv ((512 : Nat) : Int)).fmod ((2 : Nat) : Int) = 1 then "Tt" else "-x") ((((m : Int).fdiv ((1 : Nat) : Int)).fmod ((8 : Nat) : Int)).fmod ((2 : Nat) : Int)))) =
   [hitsOf [(4, 114)] (fun p => m &&& p) 45, hitsOf [(2, 119)] (fun p => m &&& p) 45, hitsOf [(513, 116), (512, 84), (1, 120)] (fun p => m &&& p) 45]
  unfold hitsOf
  simp only [List.find?_cons, List.find?_nil]
  rw [show 513 = 2 ^ 9 ||| 2 ^ 0 from rfl, band_or, show m &&& 4 = m &&& 2 ^ 2 from rfl, show m &&& 2 = m &&& 2 ^ 1 from rfl, show m &&& 512 = m &&& 2 ^ 9 from rfl, show m &&& 1 = m &&& 2 ^ 0 from rfl, za, za, za, za]
  simp only [fdiv_nat, fmod_nat]
  rw [show m / 2 ^ 9 % 2 = m / 512 % 2 from rfl, show m / 2 ^ 0 % 2 = m / 1 % 8 % 2 from bm3 m 1, show m / 2 ^ 2 % 2 = m / 1 % 8 / 4 from bm1 m 1, show m / 2 ^ 1 % 2 = m / 1 % 8 / 2 % 2 from bm2 m 1]
  have h1 : m / 1 % 8 < 8 := Nat.mod_lt _ (by decide)
  have h2 : m / 512 % 2 < 2 := Nat.mod_lt _ (by decide)
  generalize m / 1 % 8 = f at *
  generalize m / 512 % 2 = s at *
  revert f s; decide +kernel
theorem fm_row {mode : Int} (h0 : 0 ≤ mode) (h1 : mode < 65536) : fm mode = rowUp mode 3 := by
 refine zI (Int.eq_ofNat_of_zero_le h0) ?_; intro m rfl_7; subst rfl_7
 have hm : m < 65536 := by exact om22 ‹_›
 refine str_ext ?_
 unfold fm
 rw [tl_join]
 show _ = tl (((chr1 _ ++ rowPart m 0) ++ rowPart m 1) ++ rowPart m 2)
 rw [zz, zz, zz, fmPart m (by decide), fmPart m (by decide), fmPart m (by decide)]
 show [fmChar m 0, fmChar m 1, fmChar m 2, fmChar m 3, fmChar m 4, fmChar m 5, fmChar m 6, fmChar m 7, fmChar m 8, fmChar m 9] = _
 rw [fm0 m hm]
 rfl
noncomputable def hidL : Nat -> List Nat
 | 0 => []
 | 1 => [34, 40, 34]
 | 2 => [92, 41]
 | 3 => [34, 41, 34]
 | _ => [92, 40]
noncomputable def hidC : Nat -> List Nat
 | 0 => []
 | 1 => []
 | 2 => [92, 41]
 | 3 => []
 | _ => [92, 40]
noncomputable def sgn (s : Bool) : Nat := if s = true then 41 else 40
noncomputable def flatL (ss : List (Bool × Nat)) : List Nat := (ss.map fun s => sgn s.1 :: hidL s.2).flatten
noncomputable def flatC (ss : List (Bool × Nat)) : List Nat := (ss.map fun s => sgn s.1 :: hidC s.2).flatten
noncomputable def chkB : List Bool -> Nat -> Bool
 | [], o => o == 0
 | false :: r, o => chkB r (o + 1)
 | true :: r, o => match o with | 0 => false | o + 1 => chkB r o
theorem flatL_cons (s : Bool × Nat) (ss : List (Bool × Nat)) : flatL (s :: ss) = sgn s.1 :: (hidL s.2 ++ flatL ss) := rfl
theorem flatC_cons (s : Bool × Nat) (ss : List (Bool × Nat)) : flatC (s :: ss) = sgn s.1 :: (hidC s.2 ++ flatC ss) := rfl
theorem sgn_two (s : Bool) : sgn s = 40 ∨ sgn s = 41 := by cases s; exact .inl rfl; exact .inr rfl
theorem z4 (P : List Nat -> List Nat -> Prop) (h0 : P [] []) (h1 : P [34, 40, 34] []) (h2 : P [92, 41] [92, 41]) (h3 : P [34, 41, 34] []) (h4 : P [92, 40] [92, 40]) : ∀ k, P (hidL k) (hidC k)
 | 0 => h0
 | 1 => h1
 | 2 => h2
 | 3 => h3
 | _ + 4 => h4
theorem unq_flat : ∀ (ss : List (Bool × Nat)) (a : List Nat), (flatL ss).foldl unqF (a, false) = (a ++ flatC ss, false)
 | [], a => by rw [show flatC [] = [] from rfl, List.append_nil]; rfl
 | (s, k) :: ss, a => by
  rw [flatL_cons, flatC_cons, List.foldl_cons, List.foldl_append]
  have e : unqF (a, false) (sgn s) = (a ++ [sgn s], false) := by
   unfold unqF; rw [if_neg (by rcases sgn_two s with h | h <;> rw [h] <;> decide)]; rfl
  rw [e]
  have e2 : (hidL k).foldl unqF (a ++ [sgn s], false) = ((a ++ [sgn s]) ++ hidC k, false) :=
   z4 (fun l r => l.foldl unqF (a ++ [sgn s], false) = ((a ++ [sgn s]) ++ r, false)) (by simp) (by simp [unqF]) (by simp [unqF]) (by simp [unqF]) (by simp [unqF]) k
  rw [e2, unq_flat ss]
  simp
theorem items_cons {c : Nat} (h : c ≠ 92) (r : List Nat) (i : Nat) : itemsL (c :: r) i = (i, ⟨#[c]⟩, i + 1) :: itemsL r (i + 1) := by
 cases r with
 | nil => rfl
 | cons d r => rw [itemsL, if_neg h]
theorem items_esc (d : Nat) (r : List Nat) (i : Nat) : itemsL (92 :: d :: r) i = (i + 1, ⟨#[92, d]⟩, i + 2) :: itemsL r (i + 2) := by rw [itemsL, if_pos rfl]
theorem q40 : ((⟨#[40]⟩ : Str) == ofString "(") = true := by decide +kernel
theorem q41 : ((⟨#[41]⟩ : Str) == ofString "(") = false := by decide +kernel
theorem q41' : ((⟨#[41]⟩ : Str) == ofString ")") = true := by decide +kernel
theorem qe0 : ((⟨#[92, 40]⟩ : Str) == ofString "(") = false := by decide +kernel
theorem qe0' : ((⟨#[92, 40]⟩ : Str) == ofString ")") = false := by decide +kernel
theorem qe1 : ((⟨#[92, 41]⟩ : Str) == ofString "(") = false := by decide +kernel
theorem qe1' : ((⟨#[92, 41]⟩ : Str) == ofString ")") = false := by decide +kernel
theorem chkI_cons (x : Nat × Str × Nat) (xs : List (Nat × Str × Nat)) (o : Nat) : chkI (x :: xs) o = if (x.2.1 == ofString "(") = true then chkI xs (o + 1) else if (x.2.1 == ofString ")") = true then (match o with | 0 => false | o + 1 => chkI xs o) else chkI xs o := rfl
theorem chkI_skip {x : Nat × Str × Nat} (h1 : (x.2.1 == ofString "(") = false) (h2 : (x.2.1 == ofString ")") = false) (xs : List (Nat × Str × Nat)) (o : Nat) : chkI (x :: xs) o = chkI xs o := by
 rw [chkI_cons, h1, h2]; rfl
theorem chkI_hid (k : Nat) (r : List Nat) (i o : Nat) : ∃ j, chkI (itemsL (hidC k ++ r) i) o = chkI (itemsL r j) o :=
 z4 (fun _ l => ∃ j, chkI (itemsL (l ++ r) i) o = chkI (itemsL r j) o) ⟨i, rfl⟩ ⟨i, rfl⟩ ⟨i + 2, by show chkI (itemsL (92 :: 41 :: r) i) o = _; rw [items_esc, chkI_skip qe1 qe1']⟩ ⟨i, rfl⟩ ⟨i + 2, by show chkI (itemsL (92 :: 40 :: r) i) o = _; rw [items_esc, chkI_skip qe0 qe0']⟩ k
theorem chk_flat : ∀ (ss : List (Bool × Nat)) (i o : Nat), chkI (itemsL (flatC ss) i) o = chkB (ss.map (·.1)) o
 | [], i, o => rfl
 | (false, k) :: ss, i, o => by
  rw [flatC_cons]
  obtain ⟨j, e⟩ := chkI_hid k (flatC ss) (i + 1) (o + 1)
  show chkI (itemsL (40 :: (hidC k ++ flatC ss)) i) o = _
  rw [items_cons (by decide), chkI_cons, q40, if_pos rfl, e, chk_flat ss]; rfl
 | (true, k) :: ss, i, o => by
  rw [flatC_cons]
  show chkI (itemsL (41 :: (hidC k ++ flatC ss)) i) o = _
  rw [items_cons (by decide), chkI_cons, q41, if_neg Bool.false_ne_true, q41', if_pos rfl]
  cases o with
  | zero => rfl
  | succ o =>
   obtain ⟨j, e⟩ := chkI_hid k (flatC ss) (i + 1) o
   show chkI _ o = chkB _ o
   rw [e, chk_flat ss]
theorem esc_cons {c : Nat} (h : c ≠ 92) (r : List Nat) : escOk (c :: r) = escOk r := by
 cases r with
 | nil => show (c != 92) = true; exact bne_iff_ne.mpr h
 | cons d r => rw [escOk, if_neg h]
theorem esc_esc (d : Nat) (r : List Nat) : escOk (92 :: d :: r) = escOk r := by rw [escOk, if_pos rfl]
theorem sgn_ne (s : Bool) : sgn s ≠ 92 := by rcases sgn_two s with h | h <;> rw [h] <;> decide
theorem esc_flatC : ∀ ss : List (Bool × Nat), escOk (flatC ss) = true
 | [] => rfl
 | (s, k) :: ss => by
  rw [flatC_cons, esc_cons (sgn_ne s)]
  exact (z4 (fun _ l => escOk (l ++ flatC ss) = escOk (flatC ss)) rfl rfl (esc_esc _ _) rfl (esc_esc _ _) k).trans (esc_flatC ss)
theorem esc_flatL : ∀ ss : List (Bool × Nat), escOk (flatL ss) = true
 | [] => rfl
 | (s, k) :: ss => by
  rw [flatL_cons, esc_cons (sgn_ne s)]
  have e3 : ∀ a : Nat, a ≠ 92 -> escOk (34 :: a :: 34 :: flatL ss) = escOk (flatL ss) := fun a h => by
   rw [esc_cons (by decide), esc_cons h, esc_cons (by decide)]
  exact (z4 (fun l _ => escOk (l ++ flatL ss) = escOk (flatL ss)) rfl (e3 40 (by decide)) (esc_esc _ _) (e3 41 (by decide)) (esc_esc _ _) k).trans (esc_flatL ss)
noncomputable def NoQ (l : List Nat) : Prop := ∀ i, l.getD i 0 = 92 -> l.getD (i + 1) 0 ≠ 34
theorem NoQ.nil : NoQ [] := fun i h => by rw [List.getD_eq_getElem?_getD] at h; exact absurd h (by simp)
theorem NoQ.cons {c : Nat} {l : List Nat} (hc : c ≠ 92 ∨ l.getD 0 0 ≠ 34) (h : NoQ l) : NoQ (c :: l)
 | 0, e => hc.elim (fun q => absurd e q) id
 | i + 1, e => h i e
theorem noQ_flat : ∀ ss : List (Bool × Nat), NoQ (flatL ss)
 | [] => .nil
 | (s, k) :: ss => by
  rw [flatL_cons]
  refine .cons (.inl (sgn_ne s)) ?_
  have ih := noQ_flat ss
  have e3 : ∀ a : Nat, a ≠ 92 -> NoQ (34 :: a :: 34 :: flatL ss) := fun a h => .cons (.inl (by decide)) (.cons (.inl h) (.cons (.inl (by decide)) ih))
  have e2 : ∀ a : Nat, a ≠ 92 -> a ≠ 34 -> NoQ (92 :: a :: flatL ss) := fun a h h' => .cons (.inr h') (.cons (.inl h) ih)
  exact z4 (fun l _ => NoQ (l ++ flatL ss)) ih (e3 40 (by decide)) (e2 41 (by decide) (by decide)) (e3 41 (by decide)) (e2 40 (by decide) (by decide)) k
theorem low_flat : ∀ (ss : List (Bool × Nat)), ∀ c ∈ flatL ss, c < 128
 | (s, k) :: ss, c, h => by
  rw [flatL_cons] at h
  rcases List.mem_cons.mp h with rfl | h
  ·rcases sgn_two s with h | h <;> rw [h] <;> decide
  rcases List.mem_append.mp h with h | h
  ·exact z4 (fun l _ => ∀ c ∈ l, c < 128) (by decide) (by decide) (by decide) (by decide) (by decide) k c h
  exact low_flat ss c h
theorem len_flat : ∀ ss : List (Bool × Nat), (flatL ss).length ≤ 4 * ss.length
 | [] => Nat.le_refl _
 | (s, k) :: ss => by
  have := len_flat ss
  have h3 : (hidL k).length ≤ 3 := z4 (fun l _ => l.length ≤ 3) (by decide) (by decide) (by decide) (by decide) (by decide) k
  rw [flatL_cons, List.length_cons, List.length_append, List.length_cons]
  show (hidL k).length + _ + 1 ≤ _
  lia
theorem text_flat {z : Str} {ss : List (Bool × Nat)} (h : tl z = flatL ss) (hl : ss.length ≤ 200) : TextOk z /\ okS z = chkB (ss.map (·.1)) 0 := by
 have hu : unq (tl z) = (flatC ss, false) := by rw [h]; exact unq_flat ss []
 have lz : z.length ≤ 800 := by rw [← tl_len, h]; have := len_flat ss; lia
 refine ⟨⟨⟨fun c hc => ?_, ?_, fun i hi => ?_, ?_⟩, by exact Nat.le_trans ‹_› (by decide), by rw [hu]⟩, ?_⟩
 ·rw [h] at hc; exact low_flat ss c hc
 ·show escOk (tl z) = true; rw [h]; exact esc_flatL ss
 ·have e : ∀ j, z.cps.getD j 0 = (tl z).getD j 0 := fun j => by
   show _ = z.cps.toList.getD j 0
   rw [List.getD_eq_getElem?_getD, Array.getElem?_toList, Array.getD_eq_getD_getElem?]
  rw [e, h] at hi ⊢
  exact noQ_flat ss i hi
 ·rw [hu]; exact esc_flatC ss
 unfold okS; rw [hu]; exact chk_flat ss 0 0
noncomputable def Pcs (ps : List Str) (ss : List (Bool × Nat)) : Prop := ps.map tl = ss.map fun s => sgn s.1 :: hidL s.2
theorem Pcs.join {ps : List Str} {ss : List (Bool × Nat)} (h : Pcs ps ss) : tl (Txt.join (ofString "") ps) = flatL ss := by rw [tl_join, h]; rfl
theorem Pcs.len {ps : List Str} {ss : List (Bool × Nat)} (h : Pcs ps ss) : ps.length = ss.length := by
 have := congrArg List.length h
 rwa [List.length_map, List.length_map] at this
theorem Pcs.mid {ps : List Str} {ss : List (Bool × Nat)} (h : Pcs ps ss) (a b : Nat) : Pcs ((ps.drop a).take b) ((ss.drop a).take b) := by
 unfold Pcs at *
 rw [List.map_take, List.map_drop, h, List.map_take, List.map_drop]
theorem Pcs.one {ps : List Str} {ss : List (Bool × Nat)} (h : Pcs ps ss) {p : Str} (hp : p ∈ ps) : 1 ≤ p.length /\ p.length ≤ 4 := by
 have : tl p ∈ ps.map tl := List.mem_map.mpr ⟨p, hp, rfl⟩
 rw [h] at this
 obtain ⟨s, _, e⟩ := List.mem_map.mp this
 have h3 : (hidL s.2).length ≤ 3 := z4 (fun l _ => l.length ≤ 3) (by decide) (by decide) (by decide) (by decide) (by decide) s.2
 rw [← tl_len, ← e, List.length_cons]
 lia
theorem Pcs.wordOk {ps : List Str} {ss : List (Bool × Nat)} (h : Pcs ps ss) (hl : ss.length ≤ 5) : WordOk ps := by
 refine ⟨by rw [h.len]; exact hl, fun p hp => h.one hp, fun i j hij hj => ?_⟩
 refine (text_flat (z := sliceS ps i j) (ss := (ss.drop i).take (j + 1 - i)) ((h.mid i (j + 1 - i)).join) ?_).1
 rw [List.length_take, List.length_drop]; exact Nat.le_trans (pqi hl) (by decide)
theorem Pcs.get {ps : List Str} {ss : List (Bool × Nat)} (h : Pcs ps ss) {i : Nat} (hi : i < ss.length) : tl (ps.getD i Str.empty) = sgn (ss.getD i (false, 0)).1 :: hidL (ss.getD i (false, 0)).2 := by
 have hp : i < ps.length := by rw [h.len]; exact hi
 have := congrArg (fun l : List (List Nat) => l[i]?) h
 simp only [List.getElem?_map, List.getElem?_eq_getElem hi, List.getElem?_eq_getElem hp, Option.map_some] at this
 rw [List.getD_eq_getElem?_getD, List.getD_eq_getElem?_getD, List.getElem?_eq_getElem hi, List.getElem?_eq_getElem hp]
 exact Option.some.inj this
theorem first_ch {p : Str} {c : Nat} {l : List Nat} (h : tl p = c :: l) : chAt p 0 = c := by
 show p.cps.getD 0 0 = c
 have : p.cps[0]? = some c := by rw [← Array.getElem?_toList]; show (tl p)[0]? = _; rw [h]; rfl
 rw [Array.getD_eq_getD_getElem?, this]; rfl
theorem q40' : (chr1 40 == ofString ")") = false := by decide +kernel
theorem Pcs.opn {ps : List Str} {ss : List (Bool × Nat)} (h : Pcs ps ss) {i : Nat} (hi : i < ss.length) : opn (ps.getD i Str.empty) = !(ss.getD i (false, 0)).1 := by
 unfold Mine.opn
 rw [first_ch (h.get hi)]
 cases (ss.getD i (false, 0)).1
 ·exact q40
 exact q41
theorem Pcs.clo {ps : List Str} {ss : List (Bool × Nat)} (h : Pcs ps ss) {i : Nat} (hi : i < ss.length) : clo (ps.getD i Str.empty) = (ss.getD i (false, 0)).1 := by
 unfold Mine.clo
 rw [first_ch (h.get hi)]
 cases (ss.getD i (false, 0)).1
 ·exact q40'
 exact q41'
noncomputable def mateB (bs : List Bool) (i k : Nat) : Bool := bs.getD (i + 1 + 2 * k) false && chkB ((bs.drop i).take (i + 1 + 2 * k + 1 - i)) 0
noncomputable def freeBA (bs : List Bool) (i : Nat) : Bool := !bs.getD i false && (List.range ((bs.length - i) / 2)).all fun k => !mateB bs i k
noncomputable def freeB (bs : List Bool) : Int := match (List.range bs.length).find? (freeBA bs) with | some i => i | none => -1
theorem isEmpty_fm {α β : Type} (f : α -> Option β) : ∀ l : List α, (l.filterMap f).isEmpty = l.all fun x => (f x).isNone
 | [] => rfl
 | x :: l => by
  rw [List.filterMap_cons, List.all_cons]
  cases f x with
  | none => exact isEmpty_fm f l
  | some y => rfl
theorem Pcs.sgnAt {ss : List (Bool × Nat)} {i : Nat} : (ss.map (·.1)).getD i false = (ss.getD i (false, 0)).1 := by
 rw [List.getD_eq_getElem?_getD, List.getD_eq_getElem?_getD, List.getElem?_map]
 cases ss[i]? <;> rfl
theorem Pcs.freeAt {ps : List Str} {ss : List (Bool × Nat)} (h : Pcs ps ss) (hl : ss.length ≤ 5) {i : Nat} (hi : i < ss.length) : freeAt ps i = freeBA (ss.map (·.1)) i := by
 unfold Mine.freeAt freeBA matesOf endsOf
 rw [h.opn hi, Pcs.sgnAt, List.filterMap_filterMap, isEmpty_fm, List.length_map, h.len]
 congr 1
 rw [Bool.eq_iff_iff, List.all_eq_true, List.all_eq_true]
 have key : ∀ k ∈ List.range ((ss.length - i) / 2), (((if Mine.clo (ps.getD (i + 1 + 2 * k) Str.empty) = true then some (i + 1 + 2 * k) else none).bind fun j => if okS (sliceS ps i j) = true then some j else none).isNone) = !mateB (ss.map (·.1)) i k := fun k hk => by
  have hk := List.mem_range.mp hk
  have hj : i + 1 + 2 * k < ss.length := pqd hk
  unfold mateB
  rw [h.clo hj, Pcs.sgnAt]
  have ok := (text_flat (z := sliceS ps i (i + 1 + 2 * k)) (ss := (ss.drop i).take (i + 1 + 2 * k + 1 - i)) ((h.mid i _).join) (by rw [List.length_take, List.length_drop]; exact Nat.le_trans (pqi hl) (by decide))).2
  rw [List.map_take, List.map_drop] at ok
  cases q : (ss.getD (i + 1 + 2 * k) (false, 0)).1
  ·rfl
  rw [if_pos rfl]
  show (if okS _ = true then _ else _ : Option Nat).isNone = _
  rw [ok]
  cases chkB (((ss.map (·.1)).drop i).take (i + 1 + 2 * k + 1 - i)) 0 <;> rfl
 exact ⟨fun a k hk => (key k hk).symm.trans (a k hk), fun a k hk => (key k hk).trans (a k hk)⟩
theorem Pcs.free {ps : List Str} {ss : List (Bool × Nat)} (h : Pcs ps ss) (hl : ss.length ≤ 5) : freeOf ps = freeB (ss.map (·.1)) := by
 unfold freeOf freeB
 rw [List.length_map, h.len]
 have e : (List.range ss.length).find? (Mine.freeAt ps) = (List.range ss.length).find? (freeBA (ss.map (·.1))) := by
  have : ∀ l : List Nat, (∀ i ∈ l, i < ss.length) -> l.find? (Mine.freeAt ps) = l.find? (freeBA (ss.map (·.1))) := fun l => by
   induction l with
   | nil => intro _; rfl
   | cons i l ih =>
    intro hl'
    rw [List.find?_cons, List.find?_cons, h.freeAt hl (hl' i (.head _)), ih fun j hj => hl' j (.tail _ hj)]
  exact this _ fun i hi => List.mem_range.mp hi
 exact congrArg (fun o : Option Nat => (match o with | some i => (i : Int) | none => -1)) e
theorem Pcs.wrap {ps : List Str} {ss : List (Bool × Nat)} (h : Pcs ps ss) (hl : ss.length ≤ 5) {a b : Nat} (ha : a ≤ 6) (hb : b ≤ 6) : TextOk (wrapS a b ps) /\ okS (wrapS a b ps) = chkB (List.replicate a false ++ ss.map (·.1) ++ List.replicate b true) 0 := by
 have rp : ∀ (k : Nat) (n : Nat), tl (repS k n) = List.replicate n k := fun k n => by
  unfold repS
  split
  ·rename_i q; rw [show n = 0 by lia]; rfl
  split
  ·rename_i q; rw [show n = 1 by exact Int.natCast_inj.mp ‹_›]; rfl
  have : ∀ (m : Nat) (x : Array Nat), ((List.replicate m #[k]).foldl (· ++ ·) x).toList = x.toList ++ List.replicate m k := by
   intro m
   induction m with
   | zero => intro x; simp
   | succ m ih => intro x; rw [List.replicate_succ, List.foldl_cons, ih, List.replicate_succ, Array.toList_append]; simp
  show Array.toList _ = _
  rw [this]; simp
 have fl : ∀ (s : Bool) (n : Nat), flatL (List.replicate n (s, 0)) = List.replicate n (sgn s) := fun s n => by
  induction n with
  | zero => rfl
  | succ n ih => rw [List.replicate_succ, flatL_cons, ih]; rfl
 have fa : ∀ x y : List (Bool × Nat), flatL (x ++ y) = flatL x ++ flatL y := fun x y => by unfold flatL; rw [List.map_append, List.flatten_append]
 have e : tl (wrapS a b ps) = flatL (List.replicate a (false, 0) ++ ss ++ List.replicate b (true, 0)) := by
  unfold wrapS
  rw [zz, zz, rp, rp, h.join, fa, fa, fl, fl]; rfl
 have t := text_flat e (by rw [List.length_append, List.length_append, List.length_replicate, List.length_replicate]; lia)
 rw [List.map_append, List.map_append, List.map_replicate, List.map_replicate] at t
 exact t
noncomputable def isR (c : Nat) : Bool := !(Builtin.Str.occurrences (ofString "rwxst") (chr1 c) 0 (ofString "rwxst").length 1).isEmpty
theorem isR_114 : isR 114 = true := by decide +kernel
theorem isR_119 : isR 119 = true := by decide +kernel
theorem isR_120 : isR 120 = true := by decide +kernel
theorem isR_115 : isR 115 = true := by decide +kernel
theorem isR_116 : isR 116 = true := by decide +kernel
theorem isR_83 : isR 83 = false := by decide +kernel
theorem isR_84 : isR 84 = false := by decide +kernel
theorem isR_45 : isR 45 = false := by decide +kernel
theorem fm_at (m : Int) {i : Nat} (hi : i < 10) : chAt (fm m) (i : Int) = fmChar m i := by
 have e : tl (fm m) = (List.range 10).map (fmChar m) := by
  unfold fm fmUp
  rw [tl_join, List.map_map]
  rfl
 show (fm m).cps.getD ((i : Int).toNat) 0 = _
 rw [Int.toNat_natCast, Array.getD_eq_getD_getElem?, ← Array.getElem?_toList]
 show ((tl (fm m))[i]?).getD 0 = _
 rw [e, List.getElem?_map, List.getElem?_range hi]; rfl
theorem hits_cons (p c : Nat) (r : List (Nat × Nat)) (v : Nat -> Nat) (d : Nat) : hitsOf ((p, c) :: r) v d = if v p = p then c else hitsOf r v d := by
 unfold hitsOf
 rw [List.find?_cons]
 by_cases q : v p = p
 ·rw [if_pos q, show ((v (p, c).1 == (p, c).1) = true) from beq_iff_eq.mpr q]; rfl
 rw [if_neg q, show ((v (p, c).1 == (p, c).1) = false) from beq_eq_false_iff_ne.mpr q]
theorem hits_nil (v : Nat -> Nat) (d : Nat) : hitsOf [] v d = d := rfl
theorem and_bit (m k : Nat) : (m &&& 2 ^ k = 2 ^ k) ↔ m.testBit k = true := by
 rw [za, Nat.testBit_eq_decide_div_mod_eq, decide_eq_true_iff]
 have := Nat.two_pow_pos k
 rcases Nat.mod_two_eq_zero_or_one (m / 2 ^ k) with h | h <;> rw [h]
 ·rw [Nat.zero_mul]; lia
 rw [Nat.one_mul]; simp
theorem hit1 (m k c : Nat) (hc : isR c = true) : isR (hitsOf [(2 ^ k, c)] (fun p => m &&& p) 45) = m.testBit k := by
 rw [hits_cons, hits_nil]
 by_cases q : m.testBit k = true
 ·rw [if_pos ((and_bit m k).mpr q), hc, q]
 rw [if_neg (fun e => q ((and_bit m k).mp e)), isR_45, Bool.eq_false_iff.mpr q]
theorem hit3 (m j k c d e : Nat) (hc : isR c = true) (hd : isR d = false) (he : isR e = true) : isR (hitsOf [(2 ^ j ||| 2 ^ k, c), (2 ^ j, d), (2 ^ k, e)] (fun p => m &&& p) 45) = m.testBit k := by
 rw [hits_cons, hits_cons, hits_cons, hits_nil]
 have hx : (m &&& (2 ^ j ||| 2 ^ k) = 2 ^ j ||| 2 ^ k) ↔ (m.testBit j = true /\ m.testBit k = true) := by
  constructor
  ·intro h
   have tb : ∀ i, (m &&& (2 ^ j ||| 2 ^ k)).testBit i = (2 ^ j ||| 2 ^ k).testBit i := fun i => by rw [h]
   have h1 := tb j
   have h2 := tb k
   simp only [Nat.testBit_and, Nat.testBit_or, Nat.testBit_two_pow_self, Bool.true_or, Bool.or_true, Bool.and_true] at h1 h2
   exact ⟨h1, h2⟩
  rintro ⟨h1, h2⟩
  rw [band_or, (and_bit m j).mpr h1, (and_bit m k).mpr h2]
 by_cases qj : m.testBit j = true
 ·by_cases qk : m.testBit k = true
  ·rw [if_pos (hx.mpr ⟨qj, qk⟩), hc, qk]
  rw [if_neg (fun e => qk (hx.mp e).2), if_pos ((and_bit m j).mpr qj), hd, Bool.eq_false_iff.mpr qk]
 rw [if_neg (fun e => qj (hx.mp e).1), if_neg (fun e => qj ((and_bit m j).mp e))]
 by_cases qk : m.testBit k = true
 ·rw [if_pos ((and_bit m k).mpr qk), he, qk]
 rw [if_neg (fun e => qk ((and_bit m k).mp e)), isR_45, Bool.eq_false_iff.mpr qk]
theorem nt_0 : natTab (0 + 1) = [(2 ^ 8, 114)] := by decide +kernel
theorem nt_1 : natTab (1 + 1) = [(2 ^ 7, 119)] := by decide +kernel
theorem nt_2 : natTab (2 + 1) = [(2 ^ 11 ||| 2 ^ 6, 115), (2 ^ 11, 83), (2 ^ 6, 120)] := by decide +kernel
theorem nt_3 : natTab (3 + 1) = [(2 ^ 5, 114)] := by decide +kernel
theorem nt_4 : natTab (4 + 1) = [(2 ^ 4, 119)] := by decide +kernel
theorem nt_5 : natTab (5 + 1) = [(2 ^ 10 ||| 2 ^ 3, 115), (2 ^ 10, 83), (2 ^ 3, 120)] := by decide +kernel
theorem nt_6 : natTab (6 + 1) = [(2 ^ 2, 114)] := by decide +kernel
theorem nt_7 : natTab (7 + 1) = [(2 ^ 1, 119)] := by decide +kernel
theorem nt_8 : natTab (8 + 1) = [(2 ^ 9 ||| 2 ^ 0, 116), (2 ^ 9, 84), (2 ^ 0, 120)] := by decide +kernel
theorem right_bit (m : Nat) : ∀ s : Nat, s < 9 -> isRight (fm (m : Int)) (s : Int) = m.testBit (8 - s) := by
 intro s hs
 have e : isRight (fm (m : Int)) (s : Int) = isR (chAt (fm (m : Int)) (1 + (s : Int))) := rfl
 rw [show (1 : Int) + (s : Int) = ((s + 1 : Nat) : Int) by exact Int.add_comm _ _, fm_at _ (by exact Nat.lt_succ_of_le ‹_›)] at e
 rw [e, fmChar_eq m (by exact Nat.lt_succ_of_le ‹_›), if_neg (by (simp))]
 have v : (fun p => if s + 1 = 0 then m &&& 61440 else m &&& p) = fun p => m &&& p := funext fun p => if_neg (by omega)
 rw [v]
 clear e v
 match s, hs with
 | 0, _ => rw [nt_0]; exact hit1 m 8 114 isR_114
 | 1, _ => rw [nt_1]; exact hit1 m 7 119 isR_119
 | 2, _ => rw [nt_2]; exact hit3 m 11 6 115 83 120 isR_115 isR_83 isR_120
 | 3, _ => rw [nt_3]; exact hit1 m 5 114 isR_114
 | 4, _ => rw [nt_4]; exact hit1 m 4 119 isR_119
 | 5, _ => rw [nt_5]; exact hit3 m 10 3 115 83 120 isR_115 isR_83 isR_120
 | 6, _ => rw [nt_6]; exact hit1 m 2 114 isR_114
 | 7, _ => rw [nt_7]; exact hit1 m 1 119 isR_119
 | 8, _ => rw [nt_8]; exact hit3 m 9 0 116 84 120 isR_116 isR_84 isR_120
theorem tb_add {x p : Nat} (h : x.testBit p = false) (q : Nat) : (2 ^ p + x).testBit q = (decide (q = p) || x.testBit q) := by
 rcases Nat.lt_trichotomy q p with hq | hq | hq
 ·rw [Nat.testBit_two_pow_add_gt hq, decide_eq_false (by exact Nat.ne_of_lt ‹_›), Bool.false_or]
 ·subst hq
  rw [Nat.testBit_two_pow_add_eq, h, decide_eq_true rfl]; rfl
 rw [decide_eq_false (by exact Nat.ne_of_gt ‹_›), Bool.false_or]
 obtain ⟨k, rfl⟩ : ∃ k, q = p + 1 + k := ⟨q - (p + 1), by omega⟩
 rw [Nat.testBit_eq_decide_div_mod_eq] at h
 have h0 : x / 2 ^ p % 2 = 0 := by
  have := of_decide_eq_false h
  lia
 rw [Nat.testBit_eq_decide_div_mod_eq, Nat.testBit_eq_decide_div_mod_eq]
 have e : (2 ^ p + x) / 2 ^ (p + 1 + k) = x / 2 ^ (p + 1 + k) := by
  rw [show 2 ^ (p + 1 + k) = 2 ^ p * (2 * 2 ^ k) by rw [Nat.pow_add, Nat.pow_succ, Nat.mul_assoc], ← Nat.div_div_eq_div_mul, ← Nat.div_div_eq_div_mul, Nat.add_div_left _ (Nat.two_pow_pos p), ← Nat.div_div_eq_div_mul, ← Nat.div_div_eq_div_mul]
  congr 1
  lia
 rw [e]
theorem tb_sub {x p : Nat} : ∃ y, x = (x &&& 2 ^ p) + y /\ ∀ q, y.testBit q = (x.testBit q && !decide (q = p)) := by
 cases h : x.testBit p with
 | false =>
  refine ⟨x, ?_, fun q => ?_⟩
  ·rw [za]
   rw [Nat.testBit_eq_decide_div_mod_eq] at h
   have h0 : x / 2 ^ p % 2 = 0 := by
    have := of_decide_eq_false h
    lia
   rw [h0]; (simp)
  by_cases e : q = p
  ·rw [e, h]; rfl
  rw [decide_eq_false e]; simp
 | true =>
  have e1 : x &&& 2 ^ p = 2 ^ p := by
   rw [za]
   rw [Nat.testBit_eq_decide_div_mod_eq] at h
   rw [of_decide_eq_true h, Nat.one_mul]
  have hle : 2 ^ p ≤ x := by rw [← e1]; exact Nat.and_le_left
  refine ⟨x - 2 ^ p, by lia, fun q => ?_⟩
  have ex : x = 2 ^ p + (x - 2 ^ p) := by omega
  have hp : (x - 2 ^ p).testBit p = false := by
   rw [ex, Nat.testBit_two_pow_add_eq] at h
   simpa using h
  have := tb_add hp q
  rw [← ex] at this
  rw [this]
  by_cases e : q = p
  ·rw [e, hp, decide_eq_true rfl]; rfl
  rw [decide_eq_false e]; simp
theorem clear_bits : ∀ (ps : List Nat) (b : Nat), ps.Nodup -> ∃ y, b = (ps.map fun p => b &&& 2 ^ p).sum + y /\ ∀ q, y.testBit q = (b.testBit q && !decide (q ∈ ps))
 | [], b, _ => ⟨b, by simp, fun q => by simp⟩
 | p :: ps, b, h => by
  obtain ⟨hp, hn⟩ := List.nodup_cons.mp h
  obtain ⟨y, e, t⟩ := clear_bits ps b hn
  obtain ⟨z, e2, t2⟩ := tb_sub (x := y) (p := p)
  have e3 : y &&& 2 ^ p = b &&& 2 ^ p := by
   refine Nat.eq_of_testBit_eq fun j => ?_
   rw [Nat.testBit_and, Nat.testBit_and, t]
   by_cases q : j = p
   ·rw [q, decide_eq_false hp]; simp
   rw [Nat.testBit_two_pow_of_ne (Ne.symm q)]; simp
  refine ⟨z, by rw [List.map_cons, List.sum_cons]; lia, fun q => ?_⟩
  rw [t2, t, Bool.and_assoc]
  by_cases q1 : q = p
  ·subst q1
   simp
  by_cases q2 : q ∈ ps <;> simp [q1, q2]
theorem pqj {x y : Nat} (hx : x < 9) (hy : y < 9) (e : 8 - x = 8 - y) : x = y := by omega
noncomputable def nI (l : List Nat) : List Int := l.map fun n => ((n : Nat) : Int)
theorem right_pow : ∀ s : Nat, s < 9 -> rightOf (s : Int) = ((2 ^ (8 - s) : Nat) : Int) := by decide
theorem bit_one (mask k : Nat) : (Builtin.bitAnd ((mask : Int).fdiv (2 ^ k)) 1 = 1) ↔ mask.testBit k = true := by
 rw [show (2 ^ k : Int) = ((2 ^ k : Nat) : Int) from (Int.natCast_pow 2 k).symm, fdiv_nat]
 show ((mask / 2 ^ k &&& 1 : Nat) : Int) = 1 ↔ _
 rw [Nat.and_one_is_mod, Nat.testBit_eq_decide_div_mod_eq, decide_eq_true_iff]
 omega
theorem mode_bits {b : Nat} (hb : b < 65536) {S : List Nat} (nd : S.Nodup) (h9 : ∀ s ∈ S, s < 9) (mask : Nat) :
  ∃ m : Nat, modeOf (b : Int) (nI S) mask = (m : Int) /\ m < 65536 /\ ∀ k, k < S.length -> m.testBit (8 - S.getD k 0) = mask.testBit k := by
 have ndp : (S.map fun s => 8 - s).Nodup := List.pairwise_map.mpr (nd.imp_of_mem fun {x y} hx hy ne e => ne (pqj (h9 x hx) (h9 y hy) e))
 obtain ⟨y, e, t⟩ := clear_bits _ b ndp
 have ecl : clearOf (b : Int) (nI S) = (y : Int) := by
  have : (nI S).map (fun s => Builtin.bitAnd (b : Int) (rightOf s)) = ((S.map fun s => 8 - s).map fun p => b &&& 2 ^ p).map fun n => ((n : Nat) : Int) := by
   unfold nI
   rw [List.map_map, List.map_map, List.map_map]
   refine List.map_congr_left fun s hs => ?_
   show Builtin.bitAnd (b : Int) (rightOf (s : Int)) = _
   rw [right_pow s (h9 s hs)]; rfl
  unfold clearOf
  rw [this]
  have cs : ∀ l : List Nat, (l.map fun n => ((n : Nat) : Int)).sum = ((l.sum : Nat) : Int) := fun l => by
   induction l with
   | nil => rfl
   | cons a l ih => rw [List.map_cons, List.sum_cons, List.sum_cons, ih]; (constructor <;> assumption)
  rw [cs]
  lia
 have gS : ∀ k, k < S.length -> S.getD k 0 ∈ S := fun k hk => by rw [List.getD_eq_getElem?_getD, List.getElem?_eq_getElem hk]; exact List.getElem_mem _
 have inj : ∀ k j, k < S.length -> j < S.length -> 8 - S.getD k 0 = 8 - S.getD j 0 -> k = j := fun k j hk hj q => by
  have h1 := h9 _ (gS k hk)
  have h2 := h9 _ (gS j hj)
  rw [List.getD_eq_getElem?_getD, List.getElem?_eq_getElem hk] at h1 q
  rw [List.getD_eq_getElem?_getD, List.getElem?_eq_getElem hj] at h2 q
  have h1 : S[k] < 9 := h1
  have h2 : S[j] < 9 := h2
  have q : 8 - S[k] = 8 - S[j] := q
  exact (List.getElem_inj nd).mp (pqj h1 h2 q)
 have step : ∀ j, j ≤ S.length -> ∃ m : Nat, (y : Int) + ((List.range j).filterMap fun k => if Builtin.bitAnd ((mask : Int).fdiv (2 ^ k)) 1 = 1 then some (rightOf ((nI S).getD k 0)) else none).sum = (m : Int) /\
   (∀ q, 9 ≤ q -> m.testBit q = b.testBit q) /\ ∀ k, k < S.length -> m.testBit (8 - S.getD k 0) = (decide (k < j) && mask.testBit k) := fun j => by
  induction j with
  | zero =>
   intro _
   refine ⟨y, by simp, fun q hq => ?_, fun k hk => ?_⟩
   ·rw [t, decide_eq_false, Bool.not_false, Bool.and_true]
    intro h
    obtain ⟨s, hs, rfl⟩ := List.mem_map.mp h
    omega
   rw [t, decide_eq_true (List.mem_map.mpr ⟨_, gS k hk, rfl⟩)]; simp
  | succ j ih =>
   intro hj
   obtain ⟨m, em, hq, hk⟩ := ih (by exact Nat.le_of_lt ‹_›)
   have hs9 := h9 _ (gS j ‹_›)
   rw [List.range_succ, List.filterMap_append, List.sum_append]
   have dk : ∀ k, k ≠ j -> decide (k < j + 1) = decide (k < j) := fun k h => by
    rw [decide_eq_decide]; lia
   by_cases q : mask.testBit j = true
   ·have e1 : [j].filterMap (fun k => if Builtin.bitAnd ((mask : Int).fdiv (2 ^ k)) 1 = 1 then some (rightOf ((nI S).getD k 0)) else none) = [((2 ^ (8 - S.getD j 0) : Nat) : Int)] := by
     rw [List.filterMap_cons, if_pos ((bit_one mask j).mpr q), List.filterMap_nil]
     have : (nI S).getD j 0 = ((S.getD j 0 : Nat) : Int) := by
      unfold nI
      rw [List.getD_eq_getElem?_getD, List.getD_eq_getElem?_getD, List.getElem?_map, List.getElem?_eq_getElem ‹_›]; rfl
     show [rightOf ((nI S).getD j 0)] = _
     rw [this, right_pow _ hs9]
    rw [e1]
    have hp : m.testBit (8 - S.getD j 0) = false := by rw [hk j ‹_›, decide_eq_false (by (simp))]; rfl
    have ta := tb_add hp
    refine ⟨2 ^ (8 - S.getD j 0) + m, by rw [List.sum_cons, List.sum_nil]; lia, fun q' hq' => ?_, fun k hk' => ?_⟩
    ·rw [ta, decide_eq_false (by lia), Bool.false_or, hq q' hq']
    rw [ta, hk k hk']
    by_cases e : k = j
    ·subst e
     rw [decide_eq_true rfl, decide_eq_true (Nat.lt_succ_self k), q]; rfl
    rw [decide_eq_false fun h => e (inj k j hk' ‹_› h), Bool.false_or, dk k e]
   rw [List.filterMap_cons, if_neg (fun h => q ((bit_one mask j).mp h)), List.filterMap_nil]
   refine ⟨m, by simpa using em, hq, fun k hk' => ?_⟩
   rw [hk k hk']
   by_cases e : k = j
   ·subst e
    rw [Bool.eq_false_iff.mpr q]; simp
   rw [dk k e]
 obtain ⟨m, em, hq, hk⟩ := step S.length (Nat.le_refl _)
 refine ⟨m, ?_, ?_, fun k hk' => by rw [hk k hk', decide_eq_true hk']; rfl⟩
 ·unfold modeOf setBits
  rw [ecl, show (nI S).length = S.length from List.length_map _]
  exact em
 show m < 2 ^ 16
 refine Nat.lt_pow_two_of_testBit m fun i hi => ?_
 rw [hq i (by lia)]
 exact Nat.testBit_lt_two_pow (Nat.lt_of_lt_of_le hb (show 2 ^ 16 ≤ 2 ^ i from Nat.pow_le_pow_right (by decide) hi))
noncomputable def bsOf (n m : Nat) : List Bool := (List.range n).map fun k => m.testBit k
noncomputable def ssOf (n m at' h : Nat) : List (Bool × Nat) := (List.range n).map fun k => (m.testBit k, if k = at' then h else 0)
theorem ss_len (n m at' h : Nat) : (ssOf n m at' h).length = n := by unfold ssOf; rw [List.length_map, List.length_range]
theorem ss_bs (n m at' h : Nat) : (ssOf n m at' h).map (·.1) = bsOf n m := by unfold ssOf bsOf; rw [List.map_map]; rfl
theorem tl_br (row : Str) (s : Int) : tl (brOf row s) = [sgn (isRight row s)] := by
 unfold brOf
 cases isRight row s
 ·rw [if_neg Bool.false_ne_true]; exact (by decide +kernel : tl (ofString "(") = [40])
 ·rw [if_pos rfl]; exact (by decide +kernel : tl (ofString ")") = [41])
theorem pieces_pcs {m mask : Nat} {S : List Nat} (h9 : ∀ s ∈ S, s < 9) (hb : ∀ k, k < S.length -> m.testBit (8 - S.getD k 0) = mask.testBit k) {hidden : Str} {h at' : Nat} (hh : tl hidden = hidL h) (ha : at' < S.length) :
  Pcs (piecesOf (fm (m : Int)) (nI S) hidden at') (ssOf S.length mask at' h) := by
 unfold Pcs piecesOf ssOf
 have br : ∀ k, k < S.length -> ((nI S).map (brOf (fm (m : Int))))[k]? = some (brOf (fm (m : Int)) ((S.getD k 0 : Nat) : Int)) /\ tl (brOf (fm (m : Int)) ((S.getD k 0 : Nat) : Int)) = [sgn (mask.testBit k)] := fun k hk => by
  have hs : S.getD k 0 < 9 := h9 _ (by rw [List.getD_eq_getElem?_getD, List.getElem?_eq_getElem hk]; exact List.getElem_mem _)
  refine ⟨?_, by rw [tl_br, right_bit m _ hs, hb k hk]⟩
  unfold nI
  rw [List.getElem?_map, List.getElem?_map, List.getD_eq_getElem?_getD, List.getElem?_eq_getElem hk]; rfl
 have ln : ((nI S).map (brOf (fm (m : Int)))).length = S.length := by unfold nI; rw [List.length_map, List.length_map]
 refine List.ext_getElem? fun k => ?_
 rw [List.getElem?_map, List.getElem?_map, List.getElem?_map, List.getElem?_set]
 by_cases hk : k < S.length
 ·rw [List.getElem?_range hk]
  obtain ⟨b1, b2⟩ := br k hk
  by_cases e : at' = k
  ·subst e
   rw [if_pos rfl, if_pos (by rw [ln]; exact hk), List.getD_eq_getElem?_getD, b1]
   show some (tl (brOf (fm (m : Int)) ((S.getD at' 0 : Nat) : Int) ++ hidden)) = some _
   rw [zz, b2, hh]
   show some (sgn (mask.testBit at') :: hidL h) = some (sgn (mask.testBit at') :: hidL (if at' = at' then h else 0))
   rw [if_pos rfl]
  rw [if_neg e, b1]
  show some (tl _) = some (sgn (mask.testBit k) :: hidL (if k = at' then h else 0))
  rw [b2, if_neg (Ne.symm e)]; rfl
 rw [if_neg (by lia), List.getElem?_eq_none (by rw [ln]; exact Nat.not_lt.mp ‹_›), List.getElem?_eq_none (by rw [List.length_range]; omega)]; rfl
noncomputable def sucB (n m : Nat) : Option Nat := if 0 ≤ freeB (bsOf n m) then some (m + 2 ^ (freeB (bsOf n m)).toNat) else none
noncomputable def sucT : Nat -> List (Option Nat)
 | 3 => [some 1, some 3, some 6, some 7, some 5, none, none, none]
 | 4 => [some 1, some 3, some 6, some 7, some 5, some 13, some 14, some 15, some 9, some 11, none, none, none, none, none, none]
 | _ => [some 1, some 3, some 6, some 7, some 5, some 13, some 14, some 15, some 9, some 11, some 26, some 27, some 28, some 29, some 30, some 31, some 17, some 19, some 22, some 23, some 21, none, none, none, some 25, none, none, none, none, none, none, none]
noncomputable def sucN (n m : Nat) : Option Nat := (sucT n).getD m none
noncomputable def itF (suc : Nat -> Option Nat) : Nat -> Nat -> Option Nat
 | 0, m => some m
 | t + 1, m => (itF suc t m).bind suc
noncomputable def pathF (suc : Nat -> Option Nat) : Nat -> Nat -> List Nat
 | 0, m => []
 | f + 1, m => m :: (match suc m with | some m' => pathF suc f m' | none => [])
noncomputable def hdF (suc : Nat -> Option Nat) (n m : Nat) : Bool := (List.range (2 ^ n)).all fun p => suc p != some m
noncomputable def midOf (c : List Nat) : Nat := c.getD (c.length / 2) 0
noncomputable def clsB (n : Nat) (c : List Nat) (a b : Nat) : Bool := chkB (List.replicate a false ++ bsOf n (midOf c) ++ List.replicate b true) 0
noncomputable def fin1 (n : Nat) : Bool := (List.range (2 ^ n)).all fun m => sucB n m == sucN n m
noncomputable def fin2 (n : Nat) : Bool := (List.range (2 ^ n)).all fun m => (match sucN n m with | some m' => decide (m < m') && decide (m' < 2 ^ n) | none => true) && ((List.range (2 ^ n)).filter fun a => sucN n a == some m).length ≤ 1
noncomputable def fin3 (n : Nat) : Bool := (List.range (2 ^ n)).all fun m => ((chainsOf n).filter fun c => decide (c.headD 0 = m)) == (if hdF (sucN n) n m = true then [pathF (sucN n) (n + 1) m] else []) && (!hdF (sucN n) n m || (itF (sucN n) (n + 1) m).isNone)
noncomputable def fin4 (n : Nat) : Bool := hdF (sucN n) n 0 && (List.range (n + 1)).all fun t => (itF (sucN n) t 0).isSome
noncomputable def fin5 (n : Nat) : Bool := (chainsOf n).all fun c => (c.all fun m => decide (m < 2 ^ n)) && decide (0 < c.length) && clsB n c (c.length / 2) (c.length - 1 - c.length / 2) && (!decide (0 < c.length / 2) || !decide (0 < c.length - 1 - c.length / 2) || !clsB n c (c.length / 2 - 1) (c.length - 1 - c.length / 2 - 1))
theorem fins : ∀ n, n < 6 -> 3 ≤ n -> (fin1 n && fin2 n && fin3 n && fin4 n && fin5 n) = true := by decide +kernel
structure Paths (n : Nat) (suc : Nat -> Option Nat) : Prop where
 up : ∀ m m', m < 2 ^ n -> suc m = some m' -> m < m' /\ m' < 2 ^ n
 one : ∀ a b m', a < 2 ^ n -> b < 2 ^ n -> suc a = some m' -> suc b = some m' -> a = b
 ch : ∀ m, m < 2 ^ n -> ((chainsOf n).filter fun c => decide (c.headD 0 = m)) = if hdF suc n m = true then [pathF suc (n + 1) m] else []
 hd : hdF suc n 0 = true
 go : ∀ t, t ≤ n -> (itF suc t 0).isSome = true
 stop : ∀ m, m < 2 ^ n -> hdF suc n m = true -> itF suc (n + 1) m = none
theorem paths {n : Nat} (h3 : 3 ≤ n) (h5 : n ≤ 5) : Paths n (sucN n) /\ (∀ m, m < 2 ^ n -> sucB n m = sucN n m) /\ fin5 n = true := by
 have h := fins n (by exact Nat.lt_succ_of_le ‹_›) h3
 simp only [Bool.and_eq_true] at h
 obtain ⟨⟨⟨⟨f1, f2⟩, f3⟩, f4⟩, f5⟩ := h
 have F : ∀ {p : Nat -> Bool}, (List.range (2 ^ n)).all p = true -> ∀ m, m < 2 ^ n -> p m = true := fun h m hm => List.all_eq_true.mp h m (List.mem_range.mpr hm)
 have f2' := F f2
 have f3' := F f3
 unfold fin4 at f4
 rw [Bool.and_eq_true] at f4
 refine ⟨⟨fun m m' hm e => ?_, fun a b m' ha hb ea eb => ?_, fun m hm => ?_, f4.1, fun t ht => List.all_eq_true.mp f4.2 t (List.mem_range.mpr (by exact Nat.lt_succ_of_le ‹_›)), fun m hm e => ?_⟩, fun m hm => ?_, f5⟩
 ·have := f2' m hm
  rw [e] at this
  simp only [Bool.and_eq_true, decide_eq_true_iff] at this
  exact this.1
 ·have hm' : m' < 2 ^ n := by
   have := f2' a ha
   rw [ea] at this
   simp only [Bool.and_eq_true, decide_eq_true_iff] at this
   exact this.1.2
  have hl := f2' m' hm'
  rw [Bool.and_eq_true] at hl
  have hl := of_decide_eq_true hl.2
  have ma : a ∈ (List.range (2 ^ n)).filter fun a => sucN n a == some m' := List.mem_filter.mpr ⟨List.mem_range.mpr ha, by rw [ea]; exact beq_self_eq_true _⟩
  have mb : b ∈ (List.range (2 ^ n)).filter fun a => sucN n a == some m' := List.mem_filter.mpr ⟨List.mem_range.mpr hb, by rw [eb]; exact beq_self_eq_true _⟩
  generalize (List.range (2 ^ n)).filter (fun a => sucN n a == some m') = l at *
  match l, hl, ma, mb with
  | [x], _, ma, mb => rw [List.mem_singleton.mp ma, List.mem_singleton.mp mb]
 ·have := f3' m hm
  rw [Bool.and_eq_true] at this
  exact eq_of_beq this.1
 ·have := f3' m hm
  rw [Bool.and_eq_true, e] at this
  exact Option.isNone_iff_eq_none.mp this.2
 exact eq_of_beq (F f1 m hm)
section
variable {n : Nat} {suc : Nat -> Option Nat} {row : Nat -> Str}
theorem it_front : ∀ t m, itF suc (t + 1) m = (suc m).bind (itF suc t)
 | 0, m => by
  show suc m = (suc m).bind some
  cases suc m <;> rfl
 | t + 1, m => by
  show (itF suc (t + 1) m).bind suc = _
  rw [it_front t m]
  cases suc m <;> rfl
theorem it_lt (P : Paths n suc) {m : Nat} (hm : m < 2 ^ n) : ∀ {t x}, itF suc t m = some x -> x < 2 ^ n
 | 0, x, e => Option.some.inj e ▸ hm
 | t + 1, x, e => by
  obtain ⟨y, h1, h2⟩ := Option.bind_eq_some_iff.mp e
  exact (P.up y x (it_lt P hm h1) h2).2
theorem path_at : ∀ (f t m : Nat), t < f -> (pathF suc f m)[t]? = itF suc t m
 | f + 1, 0, m, _ => rfl
 | f + 1, t + 1, m, h => by
  rw [it_front]
  show (match suc m with | some m' => pathF suc f m' | none => [])[t]? = _
  cases suc m with
  | none => rfl
  | some m' => exact path_at f t m' (by exact Nat.le_of_lt_succ ‹_›)
theorem fm_pick {β : Type} {f : Nat -> Option β} {p : β -> Bool} {m : Nat} : ∀ {l : List Nat}, l.Nodup -> m ∈ l -> (∀ a ∈ l, a ≠ m -> ∀ e, f a = some e -> p e = false) -> (l.filterMap f).filter p = ((f m).filter p).toList
 | x :: l, nd, hm, h => by
  obtain ⟨hx, nd⟩ := List.nodup_cons.mp nd
  have none_of : ∀ l' : List Nat, (∀ a ∈ l', ∀ e, f a = some e -> p e = false) -> (l'.filterMap f).filter p = [] := fun l' h' => by
   rw [List.filter_eq_nil_iff]
   intro e he
   obtain ⟨a, ha, ea⟩ := List.mem_filterMap.mp he
   rw [h' a ha e ea]; exact Bool.false_ne_true
  have cons : ((x :: l).filterMap f).filter p = ((f x).filter p).toList ++ (l.filterMap f).filter p := by
   rw [List.filterMap_cons]
   cases f x with
   | none => rfl
   | some e =>
    show (e :: l.filterMap f).filter p = _
    rw [List.filter_cons]
    show _ = (Option.filter p (some e)).toList ++ _
    cases q : p e
    ·rw [Option.filter_some, q]; rfl
    rw [Option.filter_some, q]; rfl
  rw [cons]
  by_cases q : x = m
  ·subst q
   rw [none_of l fun a ha e ea => h a (.tail _ ha) (fun q => hx (q ▸ ha)) e ea, List.append_nil]
  have hm' : m ∈ l := (List.mem_cons.mp hm).resolve_left (Ne.symm q)
  rw [fm_pick nd hm' fun a ha => h a (.tail _ ha)]
  have : ((f x).filter p).toList = [] := by
   cases e : f x with
   | none => rfl
   | some e' => rw [Option.filter_some, h x (.head _) q e' e]; rfl
  rw [this]; rfl
theorem fm_none_of {β : Type} {f : Nat -> Option β} {p : β -> Bool} {l : List Nat} (h : ∀ a ∈ l, ∀ e, f a = some e -> p e = false) : (l.filterMap f).filter p = [] := by
 rw [List.filter_eq_nil_iff]
 intro e he
 obtain ⟨a, ha, ea⟩ := List.mem_filterMap.mp he
 rw [h a ha e ea]; exact Bool.false_ne_true
noncomputable def idxS (n : Nat) (row : Nat -> Str) (k : Str) : Option Nat := (List.range (2 ^ n)).find? fun m => row m == k
noncomputable def sucS (n : Nat) (suc : Nat -> Option Nat) (row : Nat -> Str) (k : Str) : Option Str := (idxS n row k).bind fun m => (suc m).map row
noncomputable def preS (n : Nat) (suc : Nat -> Option Nat) (row : Nat -> Str) (k : Str) : Option Str := (idxS n row k).bind fun m => ((List.range (2 ^ n)).find? fun p => suc p == some m).map row
theorem idx_row (inj : ∀ a b, a < 2 ^ n -> b < 2 ^ n -> row a = row b -> a = b) {m : Nat} (hm : m < 2 ^ n) : idxS n row (row m) = some m := by
 unfold idxS
 cases q : (List.range (2 ^ n)).find? (fun x => row x == row m) with
 | none => exact absurd (beq_self_eq_true (row m)) (List.find?_eq_none.mp q m (List.mem_range.mpr hm))
 | some x =>
  have h1 := List.find?_some q
  have h2 := List.mem_range.mp (List.mem_of_find?_eq_some q)
  rw [inj x m h2 hm (eq_of_beq h1)]
theorem idx_some {k : Str} {m : Nat} (h : idxS n row k = some m) : m < 2 ^ n /\ row m = k :=
 ⟨List.mem_range.mp (List.mem_of_find?_eq_some h), eq_of_beq (List.find?_some (p := fun m => row m == k) h)⟩
theorem pre_mask (P : Paths n suc) {p m : Nat} (hp : p < 2 ^ n) (h : suc p = some m) : (List.range (2 ^ n)).find? (fun p => suc p == some m) = some p := by
 cases q : (List.range (2 ^ n)).find? (fun p => suc p == some m) with
 | none => exact absurd (show (suc p == some m) = true by rw [h]; exact beq_self_eq_true _) (List.find?_eq_none.mp q p (List.mem_range.mpr hp))
 | some x => rw [P.one x p m (List.mem_range.mp (List.mem_of_find?_eq_some q)) hp (eq_of_beq (List.find?_some (p := fun p => suc p == some m) q)) h]
theorem hd_none (m : Nat) : hdF suc n m = true ↔ (List.range (2 ^ n)).find? (fun p => suc p == some m) = none := by
 rw [List.find?_eq_none]
 unfold hdF
 rw [List.all_eq_true]
 exact ⟨fun h x hx => by have := h x hx; simpa using this, fun h x hx => by have := h x hx; simpa using this⟩
noncomputable def rndF (suc : Nat -> Option Nat) (n : Nat) (row : Nat -> Str) (order : List Nat) (t : Nat) : List Str := ((order.filter (hdF suc n)).filterMap (itF suc t)).map row
theorem rnd_runs (P : Paths n suc) (inj : ∀ a b, a < 2 ^ n -> b < 2 ^ n -> row a = row b -> a = b) {order : List Nat} (nd : order.Nodup) (hm : ∀ m, m ∈ order ↔ m < 2 ^ n) (hz : order.length ≤ 1000) :
  Runs ((List.range (n + 1)).map (rndF suc n row order)) (((SG.nodes (order.map row)).edges (order.filterMap fun m => (suc m).map fun m' => (row m, row m'))).prep) := by
 have lt : ∀ m, m ∈ order -> m < 2 ^ n := fun m h => (hm m).mp h
 have hN : (order.map row).Nodup := List.pairwise_map.mpr (nd.imp_of_mem fun {x y} hx hy ne e => ne (inj x y (lt x hx) (lt y hy) e))
 have he : ∀ e ∈ order.filterMap (fun m => (suc m).map fun m' => (row m, row m')), e.1 ∈ order.map row /\ e.2 ∈ order.map row := fun e he => by
  obtain ⟨m, hmo, q⟩ := List.mem_filterMap.mp he
  obtain ⟨m', hs, rfl⟩ := Option.map_eq_some_iff.mp q
  exact ⟨List.mem_map.mpr ⟨m, hmo, rfl⟩, List.mem_map.mpr ⟨m', (hm m').mpr (P.up m m' (lt m hmo) hs).2, rfl⟩⟩
 have sr : ∀ m, m < 2 ^ n -> sucS n suc row (row m) = (suc m).map row := fun m h => by unfold sucS; rw [idx_row inj h]; rfl
 refine led2_runs (succ := sucS n suc row) (pred := preS n suc row) (edges_ok (nodes_ok _ hN) _ he) hN (by rw [List.length_map]; exact hz) (fun k => ?_) (fun k => ?_) he ?_
 ·cases q : idxS n row k with
  | none =>
   rw [fm_none_of fun a ha e ea => ?_]
   ·unfold sucS; rw [q]; rfl
   obtain ⟨m', _, rfl⟩ := Option.map_eq_some_iff.mp ea
   refine decide_eq_false fun h => ?_
   have h : row a = k := h
   rw [← h, idx_row inj (lt a ha)] at q
   exact nomatch q
  | some m =>
   obtain ⟨h1, rfl⟩ := idx_some q
   rw [fm_pick nd ((hm m).mpr h1) fun a ha ne e ea => ?_]
   ·rw [sr m h1]
    cases suc m with
    | none => rfl
    | some m' =>
     show (Option.filter _ (some (row m, row m'))).toList = _
     rw [Option.filter_some, decide_eq_true rfl]; rfl
   obtain ⟨m', _, rfl⟩ := Option.map_eq_some_iff.mp ea
   exact decide_eq_false fun h => ne (inj a m (lt a ha) h1 h)
 ·cases q : idxS n row k with
  | none =>
   rw [fm_none_of fun a ha e ea => ?_]
   ·unfold preS; rw [q]; rfl
   obtain ⟨m', hs, rfl⟩ := Option.map_eq_some_iff.mp ea
   refine decide_eq_false fun h => ?_
   have h : row m' = k := h
   rw [← h, idx_row inj (P.up a m' (lt a ha) hs).2] at q
   exact nomatch q
  | some m =>
   obtain ⟨h1, rfl⟩ := idx_some q
   cases qp : (List.range (2 ^ n)).find? (fun p => suc p == some m) with
   | none =>
    rw [fm_none_of fun a ha e ea => ?_]
    ·unfold preS; rw [q]
     show _ = (Option.map _ (Option.map row ((List.range (2 ^ n)).find? fun p => suc p == some m))).toList
     rw [qp]; rfl
    obtain ⟨m', hs, rfl⟩ := Option.map_eq_some_iff.mp ea
    refine decide_eq_false fun h => ?_
    have h := inj m' m (P.up a m' (lt a ha) hs).2 h1 h
    subst h
    rw [pre_mask P (lt a ha) hs] at qp
    exact nomatch qp
   | some p =>
    have p1 := List.mem_range.mp (List.mem_of_find?_eq_some qp)
    have p2 : suc p = some m := eq_of_beq (List.find?_some (p := fun p => suc p == some m) qp)
    rw [fm_pick nd ((hm p).mpr p1) fun a ha ne e ea => ?_]
    ·unfold preS; rw [q]
     show _ = (Option.map _ (Option.map row ((List.range (2 ^ n)).find? fun p => suc p == some m))).toList
     rw [qp, p2]
     show (Option.filter _ (some (row p, row m))).toList = _
     rw [Option.filter_some, decide_eq_true rfl]; rfl
    obtain ⟨m', hs, rfl⟩ := Option.map_eq_some_iff.mp ea
    refine decide_eq_false fun h => ?_
    have h := inj m' m (P.up a m' (lt a ha) hs).2 h1 h
    subst h
    exact ne (P.one a p m' (lt a ha) p1 hs p2)
 have hlt : ∀ m ∈ order.filter (hdF suc n), m < 2 ^ n := fun m h => lt m (List.mem_filter.mp h).1
 have r0 : (order.map row).filter (fun x => (preS n suc row x).isNone) = rndF suc n row order 0 := by
  unfold rndF
  rw [List.filter_map]
  have : (order.filter (hdF suc n)).filterMap (itF suc 0) = order.filter (hdF suc n) := List.filterMap_some
  rw [this]
  congr 1
  refine List.filter_congr fun m hmo => ?_
  show (preS n suc row (row m)).isNone = _
  unfold preS
  rw [idx_row inj (lt m hmo)]
  show (Option.map row ((List.range (2 ^ n)).find? fun p => suc p == some m)).isNone = _
  rw [Option.isNone_map, Bool.eq_iff_iff, Option.isNone_iff_eq_none]
  exact (hd_none m).symm
 have rs : ∀ t, rndF suc n row order (t + 1) = (rndF suc n row order t).filterMap (sucS n suc row) := fun t => by
  unfold rndF
  generalize order.filter (hdF suc n) = hs at *
  induction hs with
  | nil => rfl
  | cons m hs ih =>
   have ih := ih fun x hx => hlt x (.tail _ hx)
   have hm' := hlt m (.head _)
   rw [List.filterMap_cons, List.filterMap_cons, show itF suc (t + 1) m = (itF suc t m).bind suc from rfl]
   cases q : itF suc t m with
   | none => exact ih
   | some x =>
    rw [Option.bind_some]
    show _ = List.filterMap (sucS n suc row) (row x :: List.map row _)
    rw [List.filterMap_cons, sr x (it_lt P hm' q)]
    cases suc x with
    | none => exact ih
    | some y => exact congrArg (row y :: ·) ih
 have rn : rndF suc n row order (n + 1) = [] := by
  unfold rndF
  rw [List.map_eq_nil_iff, List.filterMap_eq_nil_iff]
  intro m h
  exact P.stop m (hlt m h) (List.mem_filter.mp h).2
 have rne : ∀ t, t ≤ n -> rndF suc n row order t ≠ [] := fun t ht e => by
  unfold rndF at e
  rw [List.map_eq_nil_iff, List.filterMap_eq_nil_iff] at e
  have := e 0 (List.mem_filter.mpr ⟨(hm 0).mpr (Nat.two_pow_pos n), P.hd⟩)
  have := P.go t ht
  rw [e 0 (List.mem_filter.mpr ⟨(hm 0).mpr (Nat.two_pow_pos n), P.hd⟩)] at this
  exact nomatch this
 rw [r0, List.range_eq_range']
 have gen : ∀ k t, t + k = n + 1 -> KChain (sucS n suc row) ((List.range' t k).map (rndF suc n row order)) (rndF suc n row order t) := fun k => by
  induction k with
  | zero =>
   intro t e
   have : t = n + 1 := e
   subst this
   exact rn
  | succ k ih =>
   intro t e
   rw [List.range'_succ]
   refine ⟨rfl, rne t (by lia), ?_⟩
   rw [← rs]
   exact ih (t + 1) (by lia)
 exact gen (n + 1) 0 (by exact Nat.add_comm _ _)
theorem due_rnd (P : Paths n suc) {modes : List Int} (hr : ∀ m, m < 2 ^ n -> rowUp (modes.getD m 0) 3 = row m) {order : List Nat} (lt : ∀ m ∈ order, m < 2 ^ n) {t : Nat} (ht : t < n + 1) :
  dueAt modes (linesOf order (chainsOf n)) t = rndF suc n row order t := by
 unfold dueAt linesOf rndF
 induction order with
 | nil => rfl
 | cons m l ih =>
  have ih := ih fun x hx => lt x (.tail _ hx)
  have hm := lt m (.head _)
  rw [List.flatMap_cons, List.filterMap_append, ih, P.ch m hm, List.filter_cons]
  by_cases q : hdF suc n m = true
  ·rw [if_pos q, if_pos q, List.filterMap_cons, List.filterMap_nil, List.filterMap_cons]
   have e := path_at (suc := suc) (n + 1) t m ht
   generalize pathF suc (n + 1) m = p at *
   cases qt : itF suc t m with
   | none =>
    rw [qt] at e
    rw [if_neg (by have := List.getElem?_eq_none_iff.mp e; lia)]; rfl
   | some x =>
    rw [qt] at e
    have hl := (List.getElem?_eq_some_iff.mp e).1
    rw [if_pos hl, show p.getD t 0 = x by rw [List.getD_eq_getElem?_getD, e]; rfl, hr x (it_lt P hm qt)]; rfl
  rw [if_neg q, if_neg q]; rfl
end
theorem range9 : rangeKs 0 9 = nI [0, 1, 2, 3, 4, 5, 6, 7, 8] := by decide +kernel
theorem erase_perm {α : Type} : ∀ (l : List α) (i : Nat) (h : i < l.length), (l[i] :: l.eraseIdx i).Perm l
 | x :: l, 0, _ => .refl _
 | x :: l, i + 1, h => (List.Perm.swap _ _ _).trans ((erase_perm l i (Nat.lt_of_succ_lt_succ h)).cons x)
theorem spot_perm (draw : Int) : ∀ k, k ≤ 8 -> ((spotSt draw k).1 ++ (spotSt draw k).2.1).Perm (rangeKs 0 9)
 | 0, _ => by show (rangeKs 0 9 ++ []).Perm _; rw [List.append_nil]
 | k + 1, h => by
  have ih := spot_perm draw k (by exact Nat.le_of_lt ‹_›)
  have lt := spot_lt draw k (by omega) (spotSt_len draw k (by exact Nat.le_of_lt ‹_›)).1
  refine List.Perm.trans ?_ ih
  show ((spotSt draw k).1.eraseIdx _ ++ ((spotSt draw k).2.1 ++ [_])).Perm _
  rw [List.getD_eq_getElem?_getD, List.getElem?_eq_getElem lt, Option.getD_some]
  generalize ((spotSt draw k).2.2.fmod (9 - (k : Int))).toNat = i at *
  generalize (spotSt draw k).1 = p at *
  generalize (spotSt draw k).2.1 = s at *
  rw [← List.append_assoc]
  refine List.perm_append_comm.trans ?_
  show (p[i] :: (p.eraseIdx i ++ s)).Perm (p ++ s)
  exact (erase_perm p i lt).append_right s
theorem spots_ok (draw : Int) {n : Nat} (hn : n ≤ 5) : ∃ S : List Nat, spotsOf draw n = nI S /\ S.length = n /\ S.Nodup /\ ∀ s ∈ S, s < 9 := by
 have hp := spot_perm draw n (by exact Nat.le_trans ‹_› (by decide))
 have hl := (spotSt_len draw n (by omega)).2
 have nd9 : (rangeKs 0 9).Nodup := by rw [range9]; decide
 have nd : (spotsOf draw n).Nodup := (List.nodup_append.mp (hp.nodup_iff.mpr nd9)).2.1
 have m9 : ∀ x ∈ spotsOf draw n, 0 ≤ x /\ x < 9 := fun x hx => by
  have h1 : x ∈ rangeKs 0 9 := hp.mem_iff.mp (List.mem_append_right _ hx)
  rw [range9] at h1
  exact (by decide : ∀ y ∈ nI [0, 1, 2, 3, 4, 5, 6, 7, 8], 0 ≤ y /\ y < 9) x h1
 refine ⟨(spotsOf draw n).map Int.toNat, ?_, by rw [List.length_map]; exact hl, List.pairwise_map.mpr (nd.imp_of_mem fun {x y} hx hy ne e => ne (by have := m9 x hx; have := m9 y hy; lia)), fun s hs => ?_⟩
 ·unfold nI
  rw [List.map_map]
  have : (spotsOf draw n).map ((fun n : Nat => (n : Int)) ∘ Int.toNat) = (spotsOf draw n).map id := List.map_congr_left fun x hx => Int.toNat_of_nonneg (m9 x hx).1
  exact (this.trans (List.map_id _)).symm
 obtain ⟨x, hx, rfl⟩ := List.mem_map.mp hs
 have := m9 x hx
 lia
theorem inv_ex : ∀ n, n < 6 -> 3 ≤ n -> ∀ r, r < 8 -> ∃ v, v < 2 ^ n /\ ((2 * r + 5) * v) % 2 ^ n = 1 := by decide +kernel
noncomputable def orderI (step shift : Int) (size : Nat) : List Int := (List.range size).map fun i => ((i : Nat) * step + shift).fmod (size : Int)
theorem order_ok {n : Nat} (h3 : 3 ≤ n) (h5 : n ≤ 5) {x shift : Int} : ∃ order : List Nat, orderI (2 * x.fmod 8 + 5) shift (2 ^ n) = nI order /\ order.length = 2 ^ n /\ order.Nodup /\ ∀ m, m ∈ order ↔ m < 2 ^ n := by
 obtain ⟨r, hr, er⟩ : ∃ r : Nat, r < 8 /\ x.fmod 8 = (r : Int) := fmN x (by decide)
 obtain ⟨v, hv, ev⟩ := inv_ex n (by exact Nat.lt_succ_of_le ‹_›) h3 r hr
 have hs : (0 : Int) < ((2 ^ n : Nat) : Int) := by have := Nat.two_pow_pos n; exact om15 ‹_›
 rw [er]
 generalize hS : 2 ^ n = s at *
 obtain ⟨q, eq⟩ : ∃ q : Int, (2 * (r : Int) + 5) * (v : Int) = 1 + (s : Int) * q := ⟨((((2 * r + 5) * v) / s : Nat) : Int), by
  have := Nat.div_add_mod ((2 * r + 5) * v) s
  rw [ev] at this
  have h2 : (((2 * r + 5) * v : Nat) : Int) = ((s * (((2 * r + 5) * v) / s) + 1 : Nat) : Int) := by rw [this]
  rw [Int.natCast_add, Int.natCast_mul, Int.natCast_mul] at h2
  rw [show (2 * (r : Int) + 5) * (v : Int) = (((2 * r + 5 : Nat) : Int)) * (v : Int) by congr 1, h2]; exact Int.add_comm _ _⟩
 generalize 2 * (r : Int) + 5 = st at *
 have at_ : ∀ i : Nat, 0 ≤ ((i : Int) * st + shift).fmod (s : Int) /\ ((i : Int) * st + shift).fmod (s : Int) < s := fun i => ⟨Int.fmod_nonneg_of_pos _ hs, Int.fmod_lt_of_pos _ hs⟩
 have em : ∀ y : Int, y.fmod (s : Int) = y % (s : Int) := fun y => Int.fmod_eq_emod_of_nonneg _ (by exact Int.natCast_nonneg _)
 have key : ∀ i m : Nat, i < s -> m < s -> (((i : Int) * st + shift) % (s : Int) = (m : Int) ↔ (i : Int) = (((m : Int) - shift) * v) % (s : Int)) := fun i m hi hm => by
  constructor
  ·intro e
   have d : (i : Int) * st + shift = (m : Int) + (s : Int) * (((i : Int) * st + shift) / (s : Int)) := by have := Int.emod_add_mul_ediv ((i : Int) * st + shift) (s : Int); rw [e] at this; lia
   generalize ((i : Int) * st + shift) / (s : Int) = k at d
   have h1 : ((m : Int) - shift) * v = (i : Int) + (s : Int) * ((i : Int) * q - k * v) := by
    have h2 : (m : Int) - shift = (i : Int) * st - (s : Int) * k := by lia
    rw [h2, Int.sub_mul, Int.mul_assoc, eq, Int.mul_add, Int.mul_one, Int.mul_sub, ← Int.mul_assoc, Int.mul_comm (i : Int) (s : Int), Int.mul_assoc, Int.mul_assoc]; lia
   rw [h1, Int.add_mul_emod_self_left, Int.emod_eq_of_lt (by exact Int.natCast_nonneg _) (by exact om15 ‹_›)]
  intro e
  have d : ((m : Int) - shift) * v = (i : Int) + (s : Int) * ((((m : Int) - shift) * v) / (s : Int)) := by have := Int.emod_add_mul_ediv (((m : Int) - shift) * v) (s : Int); rw [← e] at this; lia
  generalize (((m : Int) - shift) * v) / (s : Int) = k at d
  have h1 : (i : Int) * st + shift = (m : Int) + (s : Int) * (((m : Int) - shift) * q - k * st) := by
   have h2 : (i : Int) = ((m : Int) - shift) * v - (s : Int) * k := by lia
   have h3 : ((m : Int) - shift) * v * st = ((m : Int) - shift) + (s : Int) * (((m : Int) - shift) * q) := by
    rw [Int.mul_assoc, Int.mul_comm (v : Int) st, eq, Int.mul_add, Int.mul_one, ← Int.mul_assoc, Int.mul_comm _ (s : Int), Int.mul_assoc]
   rw [h2, Int.sub_mul, h3, Int.mul_sub, Int.mul_assoc]; lia
  rw [h1, Int.add_mul_emod_self_left, Int.emod_eq_of_lt (by exact Int.natCast_nonneg _) (by exact om15 ‹_›)]
 have e0 : ∀ i : Nat, ((((i : Int) * st + shift).fmod (s : Int)).toNat : Int) = ((i : Int) * st + shift) % (s : Int) := fun i => by
  rw [Int.toNat_of_nonneg (at_ i).1, em]
 have lt0 : ∀ i : Nat, (((i : Int) * st + shift).fmod (s : Int)).toNat < s := fun i => by have := at_ i; omega
 refine ⟨(List.range s).map fun (i : Nat) => (((i : Int) * st + shift).fmod (s : Int)).toNat, ?_, by rw [List.length_map, List.length_range], ?_, fun m => ⟨fun h => ?_, fun h => ?_⟩⟩
 ·unfold nI orderI
  rw [List.map_map]
  exact List.map_congr_left fun i _ => (Int.toNat_of_nonneg (at_ i).1).symm
 ·refine List.pairwise_map.mpr (List.nodup_range.imp_of_mem fun {i j} hi hj ne e => ne ?_)
  have h1 := (key i _ (List.mem_range.mp hi) (lt0 i)).mp (e0 i).symm
  have h2 := (key j _ (List.mem_range.mp hj) (lt0 j)).mp (e0 j).symm
  rw [e] at h1
  lia
 ·obtain ⟨i, _, rfl⟩ := List.mem_map.mp h
  exact lt0 i
 have p1 := Int.emod_nonneg (((m : Int) - shift) * v) (Int.ne_of_gt hs)
 have p2 := Int.emod_lt_of_pos (((m : Int) - shift) * v) hs
 refine List.mem_map.mpr ⟨((((m : Int) - shift) * v) % (s : Int)).toNat, List.mem_range.mpr (by exact om07 ‹_› ‹_›), ?_⟩
 have := (key ((((m : Int) - shift) * v) % (s : Int)).toNat m (by exact om07 ‹_› ‹_›) h).mpr (Int.toNat_of_nonneg p1)
 have e1 := e0 ((((m : Int) - shift) * v) % (s : Int)).toNat
 rw [this] at e1
 exact Int.natCast_inj.mp ‹_›
theorem fm_congr {α β : Type} {f g : α -> Option β} : ∀ {l : List α}, (∀ x ∈ l, f x = g x) -> l.filterMap f = l.filterMap g
 | [], _ => rfl
 | x :: l, h => by rw [List.filterMap_cons, List.filterMap_cons, h x (.head _), fm_congr fun y hy => h y (.tail _ hy)]
theorem holds_ok {n b h at' : Nat} (h3 : 3 ≤ n) (h5 : n ≤ 5) {S order : List Nat} (sl : S.length = n) (nd : S.Nodup) (h9 : ∀ s ∈ S, s < 9) (hb : b < 65536) {hidden : Str} (hh : tl hidden = hidL h) (ha : at' < n)
  (ol : order.length = 2 ^ n) (ond : order.Nodup) (om : ∀ m, m ∈ order ↔ m < 2 ^ n) : HoldsOk (modesOf (b : Int) (nI S)) (nI S) order hidden at' := by
 obtain ⟨P, hsuc, f5⟩ := paths h3 h5
 have nl : (nI S).length = n := by unfold nI; rw [List.length_map, sl]
 have p32 : 2 ^ n ≤ 32 := Nat.le_trans (Nat.pow_le_pow_right (by decide) h5) (by decide)
 have ml : (modesOf (b : Int) (nI S)).length = 2 ^ n := by unfold modesOf; rw [List.length_map, List.length_range, nl]
 have mget : ∀ m, m < 2 ^ n -> (modesOf (b : Int) (nI S))[m]? = some (modeOf (b : Int) (nI S) m) := fun m hm => by
  unfold modesOf
  rw [List.getElem?_map, nl, List.getElem?_range hm]; rfl
 have mb := mode_bits hb nd h9
 have mlt : ∀ x ∈ modesOf (b : Int) (nI S), 0 ≤ x /\ x < 65536 := fun x hx => by
  unfold modesOf at hx
  obtain ⟨m, _, rfl⟩ := List.mem_map.mp hx
  obtain ⟨y, e, h1, _⟩ := mb m
  rw [e]; lia
 have hl : hidden.length ≤ 3 := by
  rw [← tl_len, hh]
  exact z4 (fun l _ => l.length ≤ 3) (by decide) (by decide) (by decide) (by decide) (by decide) h
 have pcs : ∀ m, m < 2 ^ n -> Pcs ((wordsOf (modesOf (b : Int) (nI S)) (nI S) hidden at').getD m []) (ssOf n m at' h) := fun m hm => by
  unfold wordsOf
  rw [List.getD_eq_getElem?_getD, List.getElem?_map, List.getElem?_map, mget m hm]
  obtain ⟨y, e, _, h2⟩ := mb m
  rw [e, ← sl]
  exact pieces_pcs h9 h2 hh (by rw [sl]; exact ha)
 have fre : ∀ m, m < 2 ^ n -> sucOf (wordsOf (modesOf (b : Int) (nI S)) (nI S) hidden at') m = sucN n m := fun m hm => by
  unfold sucOf
  rw [(pcs m hm).free (by rw [ss_len]; exact h5), ss_bs]
  exact hsuc m hm
 have row : ∀ m, m < 2 ^ n -> ((modesOf (b : Int) (nI S)).map fm).getD m Str.empty = fm ((modesOf (b : Int) (nI S)).getD m 0) := fun m hm => by
  rw [List.getD_eq_getElem?_getD, List.getElem?_map, List.getD_eq_getElem?_getD, mget m hm]; rfl
 have inj : ∀ x y, x < 2 ^ n -> y < 2 ^ n -> fm ((modesOf (b : Int) (nI S)).getD x 0) = fm ((modesOf (b : Int) (nI S)).getD y 0) -> x = y := fun x y hx hy e => by
  rw [List.getD_eq_getElem?_getD, List.getD_eq_getElem?_getD, mget x hx, mget y hy] at e
  have e : fm (modeOf (b : Int) (nI S) x) = fm (modeOf (b : Int) (nI S) y) := e
  obtain ⟨u, eu, _, hu⟩ := mb x
  obtain ⟨v, ev, _, hv⟩ := mb y
  rw [eu, ev] at e
  refine Nat.eq_of_testBit_eq fun k => ?_
  by_cases hk : k < S.length
  ·have hs : S.getD k 0 < 9 := h9 _ (by rw [List.getD_eq_getElem?_getD, List.getElem?_eq_getElem hk]; exact List.getElem_mem _)
   rw [← hu k hk, ← hv k hk, ← right_bit u _ hs, ← right_bit v _ hs, e]
  have hk : n ≤ k := by lia
  have : 2 ^ n ≤ 2 ^ k := Nat.pow_le_pow_right (by decide) hk
  rw [Nat.testBit_lt_two_pow (by exact Nat.lt_of_lt_of_le ‹_› ‹_›), Nat.testBit_lt_two_pow (by exact Nat.lt_of_lt_of_le ‹_› ‹_›)]
 have emap : (order.map fun m => ((modesOf (b : Int) (nI S)).map fm).getD m Str.empty) = order.map fun m => fm ((modesOf (b : Int) (nI S)).getD m 0) := List.map_congr_left fun m hm => row m ((om m).mp hm)
 have efm : order.filterMap (edgeOf ((modesOf (b : Int) (nI S)).map fm) (wordsOf (modesOf (b : Int) (nI S)) (nI S) hidden at')) = order.filterMap fun m => (sucN n m).map fun m' => (fm ((modesOf (b : Int) (nI S)).getD m 0), fm ((modesOf (b : Int) (nI S)).getD m' 0)) := by
  refine fm_congr fun m hm => ?_
  have hm := (om m).mp hm
  unfold edgeOf
  rw [fre m hm]
  cases q : sucN n m with
  | none => rfl
  | some m' =>
   show some (_, _) = some (_, _)
   rw [row m hm, row m' (P.up m m' hm q).2]
 unfold fin5 at f5
 have f5' := fun cc hc => List.all_eq_true.mp f5 cc hc
 simp only [Bool.and_eq_true, Bool.or_eq_true, Bool.not_eq_true', decide_eq_false_iff_not, decide_eq_true_iff, List.all_eq_true] at f5'
 have cm : ∀ cc ∈ chainsOf (nI S).length, ∀ m ∈ cc, m < (modesOf (b : Int) (nI S)).length := by
  rw [nl, ml]
  exact fun cc hc => (f5' cc hc).1.1.1
 refine ⟨by rw [nl]; exact h5, fun s hs => ?_, mlt, by rw [ml]; exact p32, hl, by rw [nl]; exact ha, by rw [ol]; exact p32, fun m hm => by rw [ml]; exact (om m).mp hm, cm, fun m hm => (pcs m ((om m).mp hm)).wordOk (by rw [ss_len]; exact h5), fun m hm m' e => ?_, ?_, ?_, ?_, ?_⟩
 ·obtain ⟨x, hx, rfl⟩ := List.mem_map.mp hs
  have := h9 x hx
  lia
 ·have hm := (om m).mp hm
  rw [fre m hm] at e
  exact (om m').mpr (P.up m m' hm e).2
 ·rw [emap]
  exact List.pairwise_map.mpr (ond.imp_of_mem fun {x y} hx hy ne e => ne (inj x y ((om x).mp hx) ((om y).mp hy) e))
 ·refine ⟨fun k => 2 ^ n - (idxS n (fun m => fm ((modesOf (b : Int) (nI S)).getD m 0)) k).getD 0, fun e he => ?_⟩
  rw [efm] at he
  obtain ⟨m, hm, q⟩ := List.mem_filterMap.mp he
  obtain ⟨m', hs, rfl⟩ := Option.map_eq_some_iff.mp q
  have hm := (om m).mp hm
  have hu := P.up m m' hm hs
  dsimp only
  rw [idx_row inj hm, idx_row inj hu.2]
  show 2 ^ n - m' < 2 ^ n - m
  omega
 ·rw [emap, efm, nl]
  have e : dueOf (modesOf (b : Int) (nI S)) (linesOf order (chainsOf n)) n = (List.range (n + 1)).map (rndF (sucN n) n (fun m => fm ((modesOf (b : Int) (nI S)).getD m 0)) order) := by
   unfold dueOf
   refine List.map_congr_left fun t ht => due_rnd P (fun m hm => ?_) (fun m hm => (om m).mp hm) (List.mem_range.mp ht)
   have := mlt ((modesOf (b : Int) (nI S)).getD m 0) (by rw [List.getD_eq_getElem?_getD, List.getElem?_eq_getElem (by rw [ml]; exact hm)]; exact List.getElem_mem _)
   exact (fm_row this.1 this.2).symm
  rw [e]
  exact rnd_runs P inj ond om (by lia)
 rw [nl]
 intro cc hc
 have bd := chain_bounds n (by exact Nat.lt_succ_of_le ‹_›)
 unfold chainBounds at bd
 rw [Bool.and_eq_true] at bd
 have bc := List.all_eq_true.mp bd.2 cc hc
 rw [Bool.and_eq_true] at bc
 have b6 := of_decide_eq_true bc.2
 obtain ⟨⟨⟨g1, g2⟩, g3⟩, g4⟩ := f5' cc hc
 have hmid : midOf cc < 2 ^ n := g1 _ (by unfold midOf; rw [List.getD_eq_getElem?_getD, List.getElem?_eq_getElem (by lia)]; exact List.getElem_mem _)
 have pc := pcs _ hmid
 have s5 : (ssOf n (midOf cc) at' h).length ≤ 5 := by rw [ss_len]; exact h5
 unfold midOf at *
 have q1 : cc.length / 2 ≤ 6 := Nat.le_trans (Nat.div_le_self _ _) b6
 have q2 : cc.length - 1 - cc.length / 2 ≤ 6 := Nat.le_trans (Nat.sub_le _ _) (Nat.le_trans (Nat.sub_le _ _) b6)
 have w1 := pc.wrap s5 (a := cc.length / 2) (b := cc.length - 1 - cc.length / 2) q1 q2
 have w2 := pc.wrap s5 (a := cc.length / 2 - 1) (b := cc.length - 1 - cc.length / 2 - 1) (Nat.le_trans (Nat.sub_le _ _) q1) (Nat.le_trans (Nat.sub_le _ _) q2)
 rw [ss_bs] at w1 w2
 refine ⟨by rw [pc.len]; exact s5, fun s hs => (pc.one hs).2, w1.1, w1.2.trans g3, fun qa qb => ⟨w2.1, w2.2.trans ?_⟩⟩
 rcases g4 with (g4 | g4) | g4
 ·exact absurd qa g4
 ·exact absurd qb g4
 exact g4
section
variable {P : Params}
theorem fn_law (hK : g.K = hd.heap_1 P) : FnIs g.K 267 (bodyOf P 267) (fdOf P 267).scope (fdOf P 267) :=
 fnIs ⟨_, _, _, rfl⟩ (by kernel_rfl) rfl rfl rfl rfl hK
theorem so_law : scopeOk (fdOf P 267).scope = true := by kernel_rfl
noncomputable def numsOf (ns : List Int) : List Int := (ns.take 4 ++ [0, 0, 0, 0]).take 4
theorem nums_len (ns : List Int) : (numsOf ns).length = 4 := by
 unfold numsOf
 rw [List.length_take, List.length_append]
 simp only [List.length_cons, List.length_nil]
 exact Nat.sub_zero _
theorem iL_take (l : List Int) (k : Nat) : (iL l).take k = iL (l.take k) := by unfold iL; rw [List.map_take]
theorem iL_cat (l r : List Int) : iL l ++ iL r = iL (l ++ r) := by unfold iL; rw [List.map_append]
theorem pick4 (l : List Int) : pickL (iL l) none (some 4) = iL (l.take 4) := by
 unfold pickL clipAt
 simp only [Option.elim]
 rw [if_neg (by decide), zj, List.drop_zero, iL_take]
 have : (max 0 (min (4 : Int) (l.length : Int))).toNat - 0 = min 4 l.length := pqh _
 rw [this]
 congr 1
 rw [← List.take_take, List.take_length]
noncomputable def hidT : List Str := [ofString "\"(\"", ofString "\\)", ofString "\")\"", ofString "\\("]
theorem hid_tl : ∀ k, k < 4 -> ∃ h, tl (hidT.getD k Str.empty) = hidL h
 | 0, _ => ⟨1, by decide +kernel⟩
 | 1, _ => ⟨2, by decide +kernel⟩
 | 2, _ => ⟨3, by decide +kernel⟩
 | 3, _ => ⟨4, by decide +kernel⟩
theorem WXsF_gen1 {c : Ac} {ss : List Stmt} {Q : Flow -> St Str -> Prop} {m : Str -> Option Value} {σ : Addr -> Option (AO Str)} {x : Str} {w : Value} {A : Addr} {o : AO Str} (h1 : m x = some w) (h2 : σ A = some o)
  (h : ∀ m' σ', m' x = some w -> σ' A = some o -> WXsF g c ss ⟨m', σ'⟩ Q) : WXsF g c ss ⟨m, σ⟩ Q := h m σ h1 h2
theorem W_law (hK : g.K = hd.heap_1 P) (hG : g.Ok) (K : KeyOk g kvS) {c' : Ac} (hs : c'.env.scope = (fdOf P 267).scope) (hx : c'.ext = fun _ => false) (hd' : c'.Deep 9) {l : Addr} {ns : List Int} (hl : ∃ ob, g.hU.get? l = some ob /\ Is g ob (.list (iL ns) : AO Str)) (hn : ns.length ≤ 63) :
  WXsF g c' (bodyOf P 267) ⟨setv (fun _ => none) (ofString "script") (.ref l), fun _ => none⟩ fun fl _ => retV fl = .bool true := by
 have atL : ∀ S : St Str, At g S l (.list (iL ns)) := fun S => .inr hl
 have hnl := nums_len ns
 show WXsF g c' (_ :: _) _ _
 refine zp ?_
 intro Q_
 refine WXF_ofAssign (WX_AssignN (by rfl) hs hx (by kernel_rfl) ?_)
 refine WE_SliceL (WE_BinOp (WE_SliceL ?_))
 w_fin
 refine ⟨l, rfl, WPart_none (zn ?_)⟩
 w_fin
 refine ⟨_, rfl, _, atL _, by rw [zj, sizeLine_eq]; exact Nat.le_trans hn (by decide), fun D1 hD1 => ?_⟩
 rw [pick4]
 w_fin
 refine ⟨Nat.le_of_lt (show 4 < sizeLine by decide +kernel), fun D2 hD2 => ?_⟩
 refine WBin_addL (xs := iL (ns.take 4)) (ys := iL [0, 0, 0, 0]) (zC hD2 _ _ zA) zA (by rw [zj, zj, List.length_take, sizeLine_eq]; simp only [List.length_cons, List.length_nil]; lia) fun D3 hD3 => ?_
 rw [iL_cat]
 refine ⟨D3, rfl, WPart_none (zn ?_)⟩
 w_fin
 refine ⟨_, rfl, _, .inl zA, by rw [zj, List.length_append, List.length_take, sizeLine_eq]; simp only [List.length_cons, List.length_nil]; omega, fun A hA => ?_⟩
 rw [pick4]
 show WXsF g c' (_ :: _) ⟨_, _⟩ _
 refine WXsF_gen1 (x := ofString "numbers") (w := .ref A) (A := A) (o := .list (iL (numsOf ns))) (by walk_at "l") zA fun mf σ1 v1 hN => ?_
 generalize numsOf ns = nums at *
 clear hA hD1 hD2 hD3 Q_ atL
 have ng : ∀ k : Nat, k < 4 -> nums[((k : Nat) : Int).toNat]? = some (nums.getD k 0) := fun k hk => by
  rw [Int.toNat_natCast, List.getD_eq_getElem?_getD, List.getElem?_eq_getElem (by lia)]; rfl
 w_fin
 refine WSub_iL (S := ⟨_, σ1⟩) (j := nums.getD 0 0) hN (by decide) (by decide) (ng 0 (by decide)) ?_
 w_fin
 obtain ⟨n, hn3, hn5, en⟩ : ∃ n : Nat, 3 ≤ n /\ n ≤ 5 /\ 3 + ((nums.getD 0 0).fdiv 100 + 1).fmod 3 = (n : Int) := (fmN _ (by decide)).elim fun k h => ⟨3 + k, Nat.le_add_right _ _, Nat.add_le_add_left (Nat.le_of_lt_succ h.1) 3, congrArg (fun z : Int => 3 + z) h.2⟩
 rw [en]
 refine WSub_iL (S := ⟨_, σ1⟩) (j := nums.getD 2 0) hN (by decide) (by decide) (ng 2 (by decide)) ?_
 w_fin
 refine W_spots (S := ⟨_, σ1⟩) hK (hd'.less (by decide)) hn5 fun sA σ2 hsA kp2 hS => ?_
 have kp2 : ∀ b o, σ1 b = some o -> σ2 b = some o := kp2
 obtain ⟨S, eS, sl, snd, s9⟩ := spots_ok ((nums.getD 2 0 + 5000).fmod 15120) hn5
 rw [eS] at hS
 have hN2 := kp2 _ _ hN
 show WXsF g c' (_ :: _) ⟨_, σ2⟩ _
 refine zv (x1 := ofString "numbers") (x2 := ofString "many") (x3 := ofString "spots") (x4 := ofString "numbers") (x5 := ofString "numbers") (x6 := ofString "numbers") (x7 := ofString "numbers") (by walk_at "l") (by walk_at "l") (by walk_at "l") (by walk_at "l") (by walk_at "l") (by walk_at "l") (by walk_at "l") fun mc u1 u2 u3 u4 u5 u6 u7 => ?_
 clear v1 hsA kp2 hN eS Q_
 w_fin
 refine WSub_iL (S := ⟨_, σ2⟩) (j := nums.getD 1 0) hN2 (by decide) (by decide) (ng 1 (by decide)) ?_
 w_fin
 refine WBin_mul (IntMulOk.of_right (by decide)) ?_
 w_fin
 obtain ⟨b, hb, eb⟩ : ∃ b : Nat, b < 65536 /\ (nums.getD 1 0 * 4109 + 18372).fmod 65536 = (b : Int) := fmN _ (by decide)
 rw [eb]
 have sln : (nI S).length = n := by unfold nI; rw [List.length_map, sl]
 refine W_modes (S := ⟨_, σ2⟩) hK (hd'.less (by decide)) hS (fun s h => by obtain ⟨x, _, rfl⟩ := List.mem_map.mp h; exact Int.natCast_nonneg _) (by exact om37 ‹_› ‹_›) fun mA σ3 hmA kp3 hM => ?_
 have kp3 : ∀ b o, σ2 b = some o -> σ3 b = some o := kp3
 have hN3 := kp3 _ _ hN2
 have hS3 := kp3 _ _ hS
 show WXsF g c' (_ :: _) ⟨_, σ3⟩ _
 refine zv (x1 := ofString "numbers") (x2 := ofString "many") (x3 := ofString "spots") (x4 := ofString "modes") (x5 := ofString "numbers") (x6 := ofString "numbers") (x7 := ofString "numbers") (by walk_at "l") (by walk_at "l") (by walk_at "l") (by walk_at "l") (by walk_at "l") (by walk_at "l") (by walk_at "l") fun m3 v1 v2 v3 v4 v5 v6 v7 => ?_
 clear u1 u2 u3 u4 u5 u6 u7 hmA kp3 hN2 hS
 w_fin
 refine WBin_shl (by exact Int.natCast_nonneg _) (by lia) (by decide) ?_
 rw [show (1 : Int) * 2 ^ (n : Int).toNat = ((2 ^ n : Nat) : Int) by rw [Int.toNat_natCast, Int.one_mul]; exact (Int.natCast_pow 2 _).symm]
 w_fin
 refine WSub_iL (S := ⟨_, σ3⟩) (j := nums.getD 3 0) hN3 (by decide) (by decide) (ng 3 (by decide)) ?_
 w_fin
 refine WBin_mul (IntMulOk.of_left (by decide)) ?_
 w_fin
 show WX g c' _ ⟨_, σ3⟩ _
 refine WX_gen7 (x1 := ofString "numbers") (x2 := ofString "many") (x3 := ofString "spots") (x4 := ofString "modes") (x5 := ofString "size") (x6 := ofString "step") (x7 := ofString "numbers") (by walk_at "l") (by walk_at "l") (by walk_at "l") (by walk_at "l") (by walk_at "l") (by walk_at "l") (by walk_at "l") fun m4 u1 u2 u3 u4 u5 u6 u7 => ?_
 clear v1 v2 v3 v4 v5 v6 v7
 obtain ⟨order, eo, ol, ond, om⟩ := order_ok hn3 hn5 (x := nums.getD 3 0) (shift := (nums.getD 3 0).fdiv 8)
 have p32 : 2 ^ n ≤ 32 := Nat.le_trans (Nat.pow_le_pow_right (by decide) hn5) (by decide)
 have p0 : 0 < 2 ^ n := Nat.two_pow_pos n
 generalize hz : 2 ^ n = z at *
 refine WX_CompVR (fun _ _ => rfl) hs (by kernel_rfl) (by kernel_rfl) (by kernel_rfl) hx (by kernel_rfl) (by kernel_rfl) ?_
 w_fin
 refine zw fun r hr => ?_
 have hr : σ3 r = none := hr
 have hrr : upd σ3 r (rngO 0 (z : Int) 1) r = some (rngO 0 (z : Int) 1) := zA
 have hN4 := zC (o := rngO 0 (z : Int) 1) hr _ _ hN3
 have hM4 := zC (o := rngO 0 (z : Int) 1) hr _ _ hM
 have hS4 := zC (o := rngO 0 (z : Int) 1) hr _ _ hS3
 show CompVRPost g c' _ _ _ _ _ _ _ ⟨_, upd σ3 r (rngO 0 (z : Int) 1)⟩
 generalize upd σ3 r (rngO 0 (z : Int) 1) = σ4 at *
 refine .mk (Q := _) r 0 1 z (fun i => some (.int (((i : Nat) * (2 * (nums.getD 3 0).fmod 8 + 5) + (nums.getD 3 0).fdiv 8).fmod (z : Int)) 0)) rfl hrr (small_nat (by lia) (by lia) (by lia) (by lia)) (size1 _) (by exact Nat.le_trans ‹_› (by decide)) (fun c2 hsa hx2 _ i hi => ?_) fun oA hoA => ?_
 ·rw [Int.zero_add, Int.mul_one]
  w_fin
  refine WBin_mul (IntMulOk.of_left (intBits_le_64 (by (constructor <;> assumption)) (by lia))) ?_
  w_fin
  refine WSub_iL (S := ⟨_, σ4⟩) (j := nums.getD 3 0) hN4 (by decide) (by decide) (ng 3 (by decide)) ?_
  w_fin
  exact WBin_mod (by lia) ⟨rfl, zY (by kernel_rfl)⟩
 have hoA : σ4 oA = none := hoA
 rw [fm_some]
 have eO : (List.range z).map (fun i => Value.int (((i : Nat) * (2 * (nums.getD 3 0).fmod 8 + 5) + (nums.getD 3 0).fdiv 8).fmod (z : Int)) 0) = iL (nI order) := by
  rw [← eo]
  unfold orderI iL
  rw [List.map_map]; rfl
 rw [eO]
 have hO : upd σ4 oA (.list (iL (nI order))) oA = some (.list (iL (nI order))) := zA
 have hN5 := zC (o := .list (iL (nI order))) hoA _ _ hN4
 have hM5 := zC (o := .list (iL (nI order))) hoA _ _ hM4
 have hS5 := zC (o := .list (iL (nI order))) hoA _ _ hS4
 show Q_ Flow.next ⟨_, upd σ4 oA (.list (iL (nI order)))⟩
 generalize upd σ4 oA (.list (iL (nI order))) = σ5 at *
 show WXsF g c' (_ :: _) ⟨_, σ5⟩ _
 refine zv (x1 := ofString "numbers") (x2 := ofString "many") (x3 := ofString "spots") (x4 := ofString "modes") (x5 := ofString "order") (x6 := ofString "numbers") (x7 := ofString "numbers") (by walk_at "l") (by walk_at "l") (by walk_at "l") (by walk_at "l") (by walk_at "l") (by walk_at "l") (by walk_at "l") fun m5 v1 v2 v3 v4 v5 v6 v7 => ?_
 clear u1 u2 u3 u4 u5 u6 u7 hN3 hN4 hM hM4 hS3 hS4 hrr eO eo hr hoA
 w_fin
 refine ⟨Nat.le_of_lt (show 4 < sizeLine by decide +kernel), fun B hB => ?_⟩
 have hB : σ5 B = none := hB
 have hBB : upd σ5 B (.list (sL hidT)) B = some (.list (sL hidT)) := zA
 have hN6 := zC (o := .list (sL hidT)) hB _ _ hN5
 have hM6 := zC (o := .list (sL hidT)) hB _ _ hM5
 have hS6 := zC (o := .list (sL hidT)) hB _ _ hS5
 have hO6 := zC (o := .list (sL hidT)) hB _ _ hO
 show WE g c' _ ⟨_, upd σ5 B (.list (sL hidT))⟩ _
 generalize upd σ5 B (.list (sL hidT)) = σ6 at *
 clear hN5 hM5 hS5 hO hB
 w_fin
 refine WSub_iL (S := ⟨_, σ6⟩) (j := nums.getD 0 0) hN6 (by decide) (by decide) (ng 0 (by decide)) ?_
 w_fin
 obtain ⟨k, hk, ek⟩ : ∃ k : Nat, k < 4 /\ ((nums.getD 0 0).fdiv 5).fmod 4 = (k : Int) := fmN _ (by decide)
 rw [ek]
 refine zW (S := ⟨_, σ6⟩) hBB (by exact Int.natCast_nonneg _) (by lia) (sL_at (show k < hidT.length from hk)) ?_
 show WXsF g c' (_ :: _) ⟨_, σ6⟩ _
 refine zv (x1 := ofString "numbers") (x2 := ofString "many") (x3 := ofString "spots") (x4 := ofString "modes") (x5 := ofString "order") (x6 := ofString "hidden") (x7 := ofString "numbers") (by walk_at "l") (by walk_at "l") (by walk_at "l") (by walk_at "l") (by walk_at "l") (by walk_at "l") (by walk_at "l") fun m6 u1 u2 u3 u4 u5 u6 u7 => ?_
 clear v1 v2 v3 v4 v5 v6 v7 Q_
 refine zp ?_
 intro Q_
 refine WXF_Return (WEF_Call rfl ?_)
 w_fin
 refine ⟨by rw [hK]; kernel_rfl, ?_⟩
 w_fin
 refine WSub_iL (S := ⟨_, σ6⟩) (j := nums.getD 0 0) hN6 (by decide) (by decide) (ng 0 (by decide)) ?_
 w_fin
 refine WBin_mod (by lia) ?_
 w_fin
 obtain ⟨a, ha, ea⟩ := fmN (nums.getD 0 0 + 1) (Nat.lt_of_lt_of_le (by decide) hn3)
 rw [ea]
 obtain ⟨h, eh⟩ := hid_tl k hk
 subst hz
 exact W_holds (S := ⟨_, σ6⟩) hK hG (hd'.less (by decide)) K hM6 hS6 hO6 (holds_ok hn3 hn5 sl snd s9 hb eh ha ol ond om) rfl
end
end
section
open PySem PySem.W PySem.Calls PySem.Spec PyProof.Rows PySem.W.X
theorem well_list {P : Params} {h : Heap} {v : Value} {xs : List WData} (w : Well P h v (.list xs)) : ∃ (a : Addr) (vs : List Value), v = .ref a /\ h.get? a = some { cls := .type "list", data := .seq vs.toArray } := by
 cases w with
 | list h1 _ => exact ⟨_, _, rfl, h1⟩
theorem ints_er : ∀ {vs : List Value} {ns : List Int}, IntsAre vs ns -> vs.map er = iL ns
 | _, _, .nil => rfl
 | _, _, .cons n t h => by
  show er _ :: _ = _
  rw [List.map_congr_left (fun _ _ => rfl), ints_er h]; rfl
theorem keyStr {prog : Program} {w : World} {K : Frag} {hU : Heap} {os : OsState} {mg mb : Str -> Option Value} : KeyOk ⟨prog, w, PySem.strKind prog w, K, hU, os, mg, mb⟩ kvS where
 is k u e := by
  refine zI (zZ e) ?_; intro t rfl_59; subst rfl_59
  exact beq_self_eq_true k
 inv k u e := by
  refine zI (Value.isStrOf_shape e) ?_; intro t rfl_58; subst rfl_58
  rfl
 sc k u e := by
  refine zI (zZ e) ?_; intro t rfl_57; subst rfl_57
  rfl
 er k := rfl
 hand k := rfl
theorem X : PySem.Challenge.rw_oy0345_01.Holds := Mine.hd (by
 intro w s0 s1 mg mb G Y fa o pm cd doc dV kV ho hd hcd hD hmg hg args vals as hpre hlay hrd hwl hlo
 have KX := kIn_of Y
 refine Ground.open G ?_
 intro T B D TE TW
 wrow_args hpre hlay hrd hwl hlo
 rename_i ns hs' hlay0 hL1 hr1 hl2 a4 a3 l vs a0 hL ra w1 r0 hI hr hcond _
 have h267 : nsIn (Mine.hd.heap_1 w.params) mainGlobals (ofString "law") = some (some (.ref 267)) := by kernel_rfl
 have hfa : fa = 267 := by
  have e := mg_of KX T.g h267
  have e' : mg (ofString "law") = some (.ref fa) := hmg
  rw [e] at e'
  (replace e' := Option.some.inj e'; replace e' := PySem.Value.ref.inj e'; subst e'); rfl
 subst hfa
 refine zg (well_list (show Well w.params s1.heap (.ref l) (.list (ofPys (ns.map PyData.int))) from w1)) ?_; intro a us e1 e2
 (replace e1 := PySem.Value.ref.inj e1; subst e1)
 refine el_EAAE hL ?_; (try clear hL); intro o' h1 h2 n' h3
 rw [e2] at h1
 (replace h1 := Option.some.inj h1; subst h1)
 cases h3
 have hus : vs.map er = iL ns := ints_er hI
 let g : Gl Str := ⟨PySem.Challenge.rw_oy0345_01.row.prog, w, PySem.strKind _ w, Mine.hd.heap_1 w.params, s1.heap, s1.os, mg, mb⟩
 have hG : g.Ok := ⟨KX, T.g, T.b, T.builtins, T.nolimit, _, _, topRead_of T⟩
 refine wpAny_mono (W_entry (g := g) (A := callerA) (n := 9) rfl rfl (by decide) hG (fn_law rfl) so_law (us := [.ref l]) (bs := [(ofString "script", .ref l)]) (by kernel_rfl) (by kernel_rfl) rfl rfl (.of_eq hg) (P := fun v => v = .bool true) fun c' hs hx hd' => W_law (g := g) rfl hG keyStr hs hx hd' ⟨_, e2, vs.toArray, _, rfl, by simpa using hus⟩ (by lia)) (fun v s' q_ => ?_) fun _ _ x => x.elim
 refine el_AAA q_ ?_; clear q_; intro hv hk hos hbare
 obtain rfl := er_bool hv
 refine ⟨.inl ⟨_, (.bool true), [], rfl, (fun _ => rfl), .bool true, by kernel_rfl, fun _ => ⟨.nil, fun _ h => nomatch h⟩⟩, .of_keep hk, hos, hbare⟩)
end
end Mine
theorem PySem.Challenge.cw_oy0345_01_holds : PySem.Challenge.rw_oy0345_01.Holds :=
 Mine.X
end
