import PyProof.Rows.All
import Wide.All
import OpenK.AllK
import Wide.FinOn
import PySem.Challenge.RW_ty0023_01
open PySem PySem.W PyProof.Rows
set_option Elab.async false
set_option maxRecDepth 100000
set_option maxHeartbeats 4000000
set_option linter.all false
set_option compiler.extract_closed false
set_option genSizeOf false
set_option genInjectivity false
namespace Mine
section
theorem x0a2 {A1 A2 : Prop} {G : Prop} (h : A1 ∧ A2) (k : A1 → A2 → G) : G := k h.1 h.2
theorem x0a3 {A1 A2 A3 : Prop} {G : Prop} (h : A1 ∧ A2 ∧ A3) (k : A1 → A2 → A3 → G) : G := k h.1 h.2.1 h.2.2
theorem x0a4 {A1 A2 A3 A4 : Prop} {G : Prop} (h : A1 ∧ A2 ∧ A3 ∧ A4) (k : A1 → A2 → A3 → A4 → G) : G := k h.1 h.2.1 h.2.2.1 h.2.2.2
theorem x0a5 {A1 A2 A3 A4 A5 : Prop} {G : Prop} (h : A1 ∧ A2 ∧ A3 ∧ A4 ∧ A5) (k : A1 → A2 → A3 → A4 → A5 → G) : G := k h.1 h.2.1 h.2.2.1 h.2.2.2.1 h.2.2.2.2
theorem x0a6 {A1 A2 A3 A4 A5 A6 : Prop} {G : Prop} (h : A1 ∧ A2 ∧ A3 ∧ A4 ∧ A5 ∧ A6) (k : A1 → A2 → A3 → A4 → A5 → A6 → G) : G := k h.1 h.2.1 h.2.2.1 h.2.2.2.1 h.2.2.2.2.1 h.2.2.2.2.2
theorem x0a10 {A1 A2 A3 A4 A5 A6 A7 A8 A9 A10 : Prop} {G : Prop} (h : A1 ∧ A2 ∧ A3 ∧ A4 ∧ A5 ∧ A6 ∧ A7 ∧ A8 ∧ A9 ∧ A10) (k : A1 → A2 → A3 → A4 → A5 → A6 → A7 → A8 → A9 → A10 → G) : G := k h.1 h.2.1 h.2.2.1 h.2.2.2.1 h.2.2.2.2.1 h.2.2.2.2.2.1 h.2.2.2.2.2.2.1 h.2.2.2.2.2.2.2.1 h.2.2.2.2.2.2.2.2.1 h.2.2.2.2.2.2.2.2.2
theorem x1a1 {α1 : Sort _} {A1 : α1 → Prop} {G : Prop} (h : ∃ x1, A1 x1) (k : ∀ x1, A1 x1 → G) : G := h.elim fun x1 h => k x1 h
theorem x1a2 {α1 : Sort _} {A1 A2 : α1 → Prop} {G : Prop} (h : ∃ x1, A1 x1 ∧ A2 x1) (k : ∀ x1, A1 x1 → A2 x1 → G) : G := h.elim fun x1 h => k x1 h.1 h.2
theorem x1a3 {α1 : Sort _} {A1 A2 A3 : α1 → Prop} {G : Prop} (h : ∃ x1, A1 x1 ∧ A2 x1 ∧ A3 x1) (k : ∀ x1, A1 x1 → A2 x1 → A3 x1 → G) : G := h.elim fun x1 h => k x1 h.1 h.2.1 h.2.2
theorem x1a4 {α1 : Sort _} {A1 A2 A3 A4 : α1 → Prop} {G : Prop} (h : ∃ x1, A1 x1 ∧ A2 x1 ∧ A3 x1 ∧ A4 x1) (k : ∀ x1, A1 x1 → A2 x1 → A3 x1 → A4 x1 → G) : G := h.elim fun x1 h => k x1 h.1 h.2.1 h.2.2.1 h.2.2.2
theorem x1a5 {α1 : Sort _} {A1 A2 A3 A4 A5 : α1 → Prop} {G : Prop} (h : ∃ x1, A1 x1 ∧ A2 x1 ∧ A3 x1 ∧ A4 x1 ∧ A5 x1) (k : ∀ x1, A1 x1 → A2 x1 → A3 x1 → A4 x1 → A5 x1 → G) : G := h.elim fun x1 h => k x1 h.1 h.2.1 h.2.2.1 h.2.2.2.1 h.2.2.2.2
theorem x2a1 {α1 α2 : Sort _} {A1 : α1 → α2 → Prop} {G : Prop} (h : ∃ x1 x2, A1 x1 x2) (k : ∀ x1 x2, A1 x1 x2 → G) : G := h.elim fun x1 h => h.elim fun x2 h => k x1 x2 h
theorem x2a2 {α1 α2 : Sort _} {A1 A2 : α1 → α2 → Prop} {G : Prop} (h : ∃ x1 x2, A1 x1 x2 ∧ A2 x1 x2) (k : ∀ x1 x2, A1 x1 x2 → A2 x1 x2 → G) : G := h.elim fun x1 h => h.elim fun x2 h => k x1 x2 h.1 h.2
theorem x2a3 {α1 α2 : Sort _} {A1 A2 A3 : α1 → α2 → Prop} {G : Prop} (h : ∃ x1 x2, A1 x1 x2 ∧ A2 x1 x2 ∧ A3 x1 x2) (k : ∀ x1 x2, A1 x1 x2 → A2 x1 x2 → A3 x1 x2 → G) : G := h.elim fun x1 h => h.elim fun x2 h => k x1 x2 h.1 h.2.1 h.2.2
theorem x2a4 {α1 α2 : Sort _} {A1 A2 A3 A4 : α1 → α2 → Prop} {G : Prop} (h : ∃ x1 x2, A1 x1 x2 ∧ A2 x1 x2 ∧ A3 x1 x2 ∧ A4 x1 x2) (k : ∀ x1 x2, A1 x1 x2 → A2 x1 x2 → A3 x1 x2 → A4 x1 x2 → G) : G := h.elim fun x1 h => h.elim fun x2 h => k x1 x2 h.1 h.2.1 h.2.2.1 h.2.2.2
theorem x2a6 {α1 α2 : Sort _} {A1 A2 A3 A4 A5 A6 : α1 → α2 → Prop} {G : Prop} (h : ∃ x1 x2, A1 x1 x2 ∧ A2 x1 x2 ∧ A3 x1 x2 ∧ A4 x1 x2 ∧ A5 x1 x2 ∧ A6 x1 x2) (k : ∀ x1 x2, A1 x1 x2 → A2 x1 x2 → A3 x1 x2 → A4 x1 x2 → A5 x1 x2 → A6 x1 x2 → G) : G := h.elim fun x1 h => h.elim fun x2 h => k x1 x2 h.1 h.2.1 h.2.2.1 h.2.2.2.1 h.2.2.2.2.1 h.2.2.2.2.2
theorem x3a1 {α1 α2 α3 : Sort _} {A1 : α1 → α2 → α3 → Prop} {G : Prop} (h : ∃ x1 x2 x3, A1 x1 x2 x3) (k : ∀ x1 x2 x3, A1 x1 x2 x3 → G) : G := h.elim fun x1 h => h.elim fun x2 h => h.elim fun x3 h => k x1 x2 x3 h
theorem x3a2 {α1 α2 α3 : Sort _} {A1 A2 : α1 → α2 → α3 → Prop} {G : Prop} (h : ∃ x1 x2 x3, A1 x1 x2 x3 ∧ A2 x1 x2 x3) (k : ∀ x1 x2 x3, A1 x1 x2 x3 → A2 x1 x2 x3 → G) : G := h.elim fun x1 h => h.elim fun x2 h => h.elim fun x3 h => k x1 x2 x3 h.1 h.2
theorem x3a3 {α1 α2 α3 : Sort _} {A1 A2 A3 : α1 → α2 → α3 → Prop} {G : Prop} (h : ∃ x1 x2 x3, A1 x1 x2 x3 ∧ A2 x1 x2 x3 ∧ A3 x1 x2 x3) (k : ∀ x1 x2 x3, A1 x1 x2 x3 → A2 x1 x2 x3 → A3 x1 x2 x3 → G) : G := h.elim fun x1 h => h.elim fun x2 h => h.elim fun x3 h => k x1 x2 x3 h.1 h.2.1 h.2.2
theorem x3a4 {α1 α2 α3 : Sort _} {A1 A2 A3 A4 : α1 → α2 → α3 → Prop} {G : Prop} (h : ∃ x1 x2 x3, A1 x1 x2 x3 ∧ A2 x1 x2 x3 ∧ A3 x1 x2 x3 ∧ A4 x1 x2 x3) (k : ∀ x1 x2 x3, A1 x1 x2 x3 → A2 x1 x2 x3 → A3 x1 x2 x3 → A4 x1 x2 x3 → G) : G := h.elim fun x1 h => h.elim fun x2 h => h.elim fun x3 h => k x1 x2 x3 h.1 h.2.1 h.2.2.1 h.2.2.2
theorem x3a5 {α1 α2 α3 : Sort _} {A1 A2 A3 A4 A5 : α1 → α2 → α3 → Prop} {G : Prop} (h : ∃ x1 x2 x3, A1 x1 x2 x3 ∧ A2 x1 x2 x3 ∧ A3 x1 x2 x3 ∧ A4 x1 x2 x3 ∧ A5 x1 x2 x3) (k : ∀ x1 x2 x3, A1 x1 x2 x3 → A2 x1 x2 x3 → A3 x1 x2 x3 → A4 x1 x2 x3 → A5 x1 x2 x3 → G) : G := h.elim fun x1 h => h.elim fun x2 h => h.elim fun x3 h => k x1 x2 x3 h.1 h.2.1 h.2.2.1 h.2.2.2.1 h.2.2.2.2
theorem x3a6 {α1 α2 α3 : Sort _} {A1 A2 A3 A4 A5 A6 : α1 → α2 → α3 → Prop} {G : Prop} (h : ∃ x1 x2 x3, A1 x1 x2 x3 ∧ A2 x1 x2 x3 ∧ A3 x1 x2 x3 ∧ A4 x1 x2 x3 ∧ A5 x1 x2 x3 ∧ A6 x1 x2 x3) (k : ∀ x1 x2 x3, A1 x1 x2 x3 → A2 x1 x2 x3 → A3 x1 x2 x3 → A4 x1 x2 x3 → A5 x1 x2 x3 → A6 x1 x2 x3 → G) : G := h.elim fun x1 h => h.elim fun x2 h => h.elim fun x3 h => k x1 x2 x3 h.1 h.2.1 h.2.2.1 h.2.2.2.1 h.2.2.2.2.1 h.2.2.2.2.2
theorem x4a1 {α1 α2 α3 α4 : Sort _} {A1 : α1 → α2 → α3 → α4 → Prop} {G : Prop} (h : ∃ x1 x2 x3 x4, A1 x1 x2 x3 x4) (k : ∀ x1 x2 x3 x4, A1 x1 x2 x3 x4 → G) : G := h.elim fun x1 h => h.elim fun x2 h => h.elim fun x3 h => h.elim fun x4 h => k x1 x2 x3 x4 h
theorem x4a4 {α1 α2 α3 α4 : Sort _} {A1 A2 A3 A4 : α1 → α2 → α3 → α4 → Prop} {G : Prop} (h : ∃ x1 x2 x3 x4, A1 x1 x2 x3 x4 ∧ A2 x1 x2 x3 x4 ∧ A3 x1 x2 x3 x4 ∧ A4 x1 x2 x3 x4) (k : ∀ x1 x2 x3 x4, A1 x1 x2 x3 x4 → A2 x1 x2 x3 x4 → A3 x1 x2 x3 x4 → A4 x1 x2 x3 x4 → G) : G := h.elim fun x1 h => h.elim fun x2 h => h.elim fun x3 h => h.elim fun x4 h => k x1 x2 x3 x4 h.1 h.2.1 h.2.2.1 h.2.2.2
theorem x4a5 {α1 α2 α3 α4 : Sort _} {A1 A2 A3 A4 A5 : α1 → α2 → α3 → α4 → Prop} {G : Prop} (h : ∃ x1 x2 x3 x4, A1 x1 x2 x3 x4 ∧ A2 x1 x2 x3 x4 ∧ A3 x1 x2 x3 x4 ∧ A4 x1 x2 x3 x4 ∧ A5 x1 x2 x3 x4) (k : ∀ x1 x2 x3 x4, A1 x1 x2 x3 x4 → A2 x1 x2 x3 x4 → A3 x1 x2 x3 x4 → A4 x1 x2 x3 x4 → A5 x1 x2 x3 x4 → G) : G := h.elim fun x1 h => h.elim fun x2 h => h.elim fun x3 h => h.elim fun x4 h => k x1 x2 x3 x4 h.1 h.2.1 h.2.2.1 h.2.2.2.1 h.2.2.2.2
theorem x4a6 {α1 α2 α3 α4 : Sort _} {A1 A2 A3 A4 A5 A6 : α1 → α2 → α3 → α4 → Prop} {G : Prop} (h : ∃ x1 x2 x3 x4, A1 x1 x2 x3 x4 ∧ A2 x1 x2 x3 x4 ∧ A3 x1 x2 x3 x4 ∧ A4 x1 x2 x3 x4 ∧ A5 x1 x2 x3 x4 ∧ A6 x1 x2 x3 x4) (k : ∀ x1 x2 x3 x4, A1 x1 x2 x3 x4 → A2 x1 x2 x3 x4 → A3 x1 x2 x3 x4 → A4 x1 x2 x3 x4 → A5 x1 x2 x3 x4 → A6 x1 x2 x3 x4 → G) : G := h.elim fun x1 h => h.elim fun x2 h => h.elim fun x3 h => h.elim fun x4 h => k x1 x2 x3 x4 h.1 h.2.1 h.2.2.1 h.2.2.2.1 h.2.2.2.2.1 h.2.2.2.2.2
theorem x4a7 {α1 α2 α3 α4 : Sort _} {A1 A2 A3 A4 A5 A6 A7 : α1 → α2 → α3 → α4 → Prop} {G : Prop} (h : ∃ x1 x2 x3 x4, A1 x1 x2 x3 x4 ∧ A2 x1 x2 x3 x4 ∧ A3 x1 x2 x3 x4 ∧ A4 x1 x2 x3 x4 ∧ A5 x1 x2 x3 x4 ∧ A6 x1 x2 x3 x4 ∧ A7 x1 x2 x3 x4) (k : ∀ x1 x2 x3 x4, A1 x1 x2 x3 x4 → A2 x1 x2 x3 x4 → A3 x1 x2 x3 x4 → A4 x1 x2 x3 x4 → A5 x1 x2 x3 x4 → A6 x1 x2 x3 x4 → A7 x1 x2 x3 x4 → G) : G := h.elim fun x1 h => h.elim fun x2 h => h.elim fun x3 h => h.elim fun x4 h => k x1 x2 x3 x4 h.1 h.2.1 h.2.2.1 h.2.2.2.1 h.2.2.2.2.1 h.2.2.2.2.2.1 h.2.2.2.2.2.2
theorem x5a1 {α1 α2 α3 α4 α5 : Sort _} {A1 : α1 → α2 → α3 → α4 → α5 → Prop} {G : Prop} (h : ∃ x1 x2 x3 x4 x5, A1 x1 x2 x3 x4 x5) (k : ∀ x1 x2 x3 x4 x5, A1 x1 x2 x3 x4 x5 → G) : G := h.elim fun x1 h => h.elim fun x2 h => h.elim fun x3 h => h.elim fun x4 h => h.elim fun x5 h => k x1 x2 x3 x4 x5 h
theorem x5a5 {α1 α2 α3 α4 α5 : Sort _} {A1 A2 A3 A4 A5 : α1 → α2 → α3 → α4 → α5 → Prop} {G : Prop} (h : ∃ x1 x2 x3 x4 x5, A1 x1 x2 x3 x4 x5 ∧ A2 x1 x2 x3 x4 x5 ∧ A3 x1 x2 x3 x4 x5 ∧ A4 x1 x2 x3 x4 x5 ∧ A5 x1 x2 x3 x4 x5) (k : ∀ x1 x2 x3 x4 x5, A1 x1 x2 x3 x4 x5 → A2 x1 x2 x3 x4 x5 → A3 x1 x2 x3 x4 x5 → A4 x1 x2 x3 x4 x5 → A5 x1 x2 x3 x4 x5 → G) : G := h.elim fun x1 h => h.elim fun x2 h => h.elim fun x3 h => h.elim fun x4 h => h.elim fun x5 h => k x1 x2 x3 x4 x5 h.1 h.2.1 h.2.2.1 h.2.2.2.1 h.2.2.2.2
theorem x6a8 {α1 α2 α3 α4 α5 α6 : Sort _} {A1 A2 A3 A4 A5 A6 A7 A8 : α1 → α2 → α3 → α4 → α5 → α6 → Prop} {G : Prop} (h : ∃ x1 x2 x3 x4 x5 x6, A1 x1 x2 x3 x4 x5 x6 ∧ A2 x1 x2 x3 x4 x5 x6 ∧ A3 x1 x2 x3 x4 x5 x6 ∧ A4 x1 x2 x3 x4 x5 x6 ∧ A5 x1 x2 x3 x4 x5 x6 ∧ A6 x1 x2 x3 x4 x5 x6 ∧ A7 x1 x2 x3 x4 x5 x6 ∧ A8 x1 x2 x3 x4 x5 x6) (k : ∀ x1 x2 x3 x4 x5 x6, A1 x1 x2 x3 x4 x5 x6 → A2 x1 x2 x3 x4 x5 x6 → A3 x1 x2 x3 x4 x5 x6 → A4 x1 x2 x3 x4 x5 x6 → A5 x1 x2 x3 x4 x5 x6 → A6 x1 x2 x3 x4 x5 x6 → A7 x1 x2 x3 x4 x5 x6 → A8 x1 x2 x3 x4 x5 x6 → G) : G := h.elim fun x1 h => h.elim fun x2 h => h.elim fun x3 h => h.elim fun x4 h => h.elim fun x5 h => h.elim fun x6 h => k x1 x2 x3 x4 x5 x6 h.1 h.2.1 h.2.2.1 h.2.2.2.1 h.2.2.2.2.1 h.2.2.2.2.2.1 h.2.2.2.2.2.2.1 h.2.2.2.2.2.2.2
theorem x6a9 {α1 α2 α3 α4 α5 α6 : Sort _} {A1 A2 A3 A4 A5 A6 A7 A8 A9 : α1 → α2 → α3 → α4 → α5 → α6 → Prop} {G : Prop} (h : ∃ x1 x2 x3 x4 x5 x6, A1 x1 x2 x3 x4 x5 x6 ∧ A2 x1 x2 x3 x4 x5 x6 ∧ A3 x1 x2 x3 x4 x5 x6 ∧ A4 x1 x2 x3 x4 x5 x6 ∧ A5 x1 x2 x3 x4 x5 x6 ∧ A6 x1 x2 x3 x4 x5 x6 ∧ A7 x1 x2 x3 x4 x5 x6 ∧ A8 x1 x2 x3 x4 x5 x6 ∧ A9 x1 x2 x3 x4 x5 x6) (k : ∀ x1 x2 x3 x4 x5 x6, A1 x1 x2 x3 x4 x5 x6 → A2 x1 x2 x3 x4 x5 x6 → A3 x1 x2 x3 x4 x5 x6 → A4 x1 x2 x3 x4 x5 x6 → A5 x1 x2 x3 x4 x5 x6 → A6 x1 x2 x3 x4 x5 x6 → A7 x1 x2 x3 x4 x5 x6 → A8 x1 x2 x3 x4 x5 x6 → A9 x1 x2 x3 x4 x5 x6 → G) : G := h.elim fun x1 h => h.elim fun x2 h => h.elim fun x3 h => h.elim fun x4 h => h.elim fun x5 h => h.elim fun x6 h => k x1 x2 x3 x4 x5 x6 h.1 h.2.1 h.2.2.1 h.2.2.2.1 h.2.2.2.2.1 h.2.2.2.2.2.1 h.2.2.2.2.2.2.1 h.2.2.2.2.2.2.2.1 h.2.2.2.2.2.2.2.2
theorem x7a7 {α1 α2 α3 α4 α5 α6 α7 : Sort _} {A1 A2 A3 A4 A5 A6 A7 : α1 → α2 → α3 → α4 → α5 → α6 → α7 → Prop} {G : Prop} (h : ∃ x1 x2 x3 x4 x5 x6 x7, A1 x1 x2 x3 x4 x5 x6 x7 ∧ A2 x1 x2 x3 x4 x5 x6 x7 ∧ A3 x1 x2 x3 x4 x5 x6 x7 ∧ A4 x1 x2 x3 x4 x5 x6 x7 ∧ A5 x1 x2 x3 x4 x5 x6 x7 ∧ A6 x1 x2 x3 x4 x5 x6 x7 ∧ A7 x1 x2 x3 x4 x5 x6 x7) (k : ∀ x1 x2 x3 x4 x5 x6 x7, A1 x1 x2 x3 x4 x5 x6 x7 → A2 x1 x2 x3 x4 x5 x6 x7 → A3 x1 x2 x3 x4 x5 x6 x7 → A4 x1 x2 x3 x4 x5 x6 x7 → A5 x1 x2 x3 x4 x5 x6 x7 → A6 x1 x2 x3 x4 x5 x6 x7 → A7 x1 x2 x3 x4 x5 x6 x7 → G) : G := h.elim fun x1 h => h.elim fun x2 h => h.elim fun x3 h => h.elim fun x4 h => h.elim fun x5 h => h.elim fun x6 h => h.elim fun x7 h => k x1 x2 x3 x4 x5 x6 x7 h.1 h.2.1 h.2.2.1 h.2.2.2.1 h.2.2.2.2.1 h.2.2.2.2.2.1 h.2.2.2.2.2.2
theorem x8a3 {α1 α2 α3 α4 α5 α6 α7 α8 : Sort _} {A1 A2 A3 : α1 → α2 → α3 → α4 → α5 → α6 → α7 → α8 → Prop} {G : Prop} (h : ∃ x1 x2 x3 x4 x5 x6 x7 x8, A1 x1 x2 x3 x4 x5 x6 x7 x8 ∧ A2 x1 x2 x3 x4 x5 x6 x7 x8 ∧ A3 x1 x2 x3 x4 x5 x6 x7 x8) (k : ∀ x1 x2 x3 x4 x5 x6 x7 x8, A1 x1 x2 x3 x4 x5 x6 x7 x8 → A2 x1 x2 x3 x4 x5 x6 x7 x8 → A3 x1 x2 x3 x4 x5 x6 x7 x8 → G) : G := h.elim fun x1 h => h.elim fun x2 h => h.elim fun x3 h => h.elim fun x4 h => h.elim fun x5 h => h.elim fun x6 h => h.elim fun x7 h => h.elim fun x8 h => k x1 x2 x3 x4 x5 x6 x7 x8 h.1 h.2.1 h.2.2
theorem k1a2 {α1 : Sort _} {A1 A2 : α1 → Prop} (x1 : α1) (h1 : A1 x1) (h2 : A2 x1) : ∃ x1, A1 x1 ∧ A2 x1 := ⟨x1, h1, h2⟩
theorem k1a3 {α1 : Sort _} {A1 A2 A3 : α1 → Prop} (x1 : α1) (h1 : A1 x1) (h2 : A2 x1) (h3 : A3 x1) : ∃ x1, A1 x1 ∧ A2 x1 ∧ A3 x1 := ⟨x1, h1, h2, h3⟩
theorem k1a4 {α1 : Sort _} {A1 A2 A3 A4 : α1 → Prop} (x1 : α1) (h1 : A1 x1) (h2 : A2 x1) (h3 : A3 x1) (h4 : A4 x1) : ∃ x1, A1 x1 ∧ A2 x1 ∧ A3 x1 ∧ A4 x1 := ⟨x1, h1, h2, h3, h4⟩
theorem k1a5 {α1 : Sort _} {A1 A2 A3 A4 A5 : α1 → Prop} (x1 : α1) (h1 : A1 x1) (h2 : A2 x1) (h3 : A3 x1) (h4 : A4 x1) (h5 : A5 x1) : ∃ x1, A1 x1 ∧ A2 x1 ∧ A3 x1 ∧ A4 x1 ∧ A5 x1 := ⟨x1, h1, h2, h3, h4, h5⟩
theorem k2a1 {α1 α2 : Sort _} {A1 : α1 → α2 → Prop} (x1 : α1) (x2 : α2) (h1 : A1 x1 x2) : ∃ x1 x2, A1 x1 x2 := ⟨x1, x2, h1⟩
theorem k2a2 {α1 α2 : Sort _} {A1 A2 : α1 → α2 → Prop} (x1 : α1) (x2 : α2) (h1 : A1 x1 x2) (h2 : A2 x1 x2) : ∃ x1 x2, A1 x1 x2 ∧ A2 x1 x2 := ⟨x1, x2, h1, h2⟩
theorem k2a3 {α1 α2 : Sort _} {A1 A2 A3 : α1 → α2 → Prop} (x1 : α1) (x2 : α2) (h1 : A1 x1 x2) (h2 : A2 x1 x2) (h3 : A3 x1 x2) : ∃ x1 x2, A1 x1 x2 ∧ A2 x1 x2 ∧ A3 x1 x2 := ⟨x1, x2, h1, h2, h3⟩
theorem k2a4 {α1 α2 : Sort _} {A1 A2 A3 A4 : α1 → α2 → Prop} (x1 : α1) (x2 : α2) (h1 : A1 x1 x2) (h2 : A2 x1 x2) (h3 : A3 x1 x2) (h4 : A4 x1 x2) : ∃ x1 x2, A1 x1 x2 ∧ A2 x1 x2 ∧ A3 x1 x2 ∧ A4 x1 x2 := ⟨x1, x2, h1, h2, h3, h4⟩
theorem k2a6 {α1 α2 : Sort _} {A1 A2 A3 A4 A5 A6 : α1 → α2 → Prop} (x1 : α1) (x2 : α2) (h1 : A1 x1 x2) (h2 : A2 x1 x2) (h3 : A3 x1 x2) (h4 : A4 x1 x2) (h5 : A5 x1 x2) (h6 : A6 x1 x2) : ∃ x1 x2, A1 x1 x2 ∧ A2 x1 x2 ∧ A3 x1 x2 ∧ A4 x1 x2 ∧ A5 x1 x2 ∧ A6 x1 x2 := ⟨x1, x2, h1, h2, h3, h4, h5, h6⟩
theorem k3a1 {α1 α2 α3 : Sort _} {A1 : α1 → α2 → α3 → Prop} (x1 : α1) (x2 : α2) (x3 : α3) (h1 : A1 x1 x2 x3) : ∃ x1 x2 x3, A1 x1 x2 x3 := ⟨x1, x2, x3, h1⟩
theorem k3a2 {α1 α2 α3 : Sort _} {A1 A2 : α1 → α2 → α3 → Prop} (x1 : α1) (x2 : α2) (x3 : α3) (h1 : A1 x1 x2 x3) (h2 : A2 x1 x2 x3) : ∃ x1 x2 x3, A1 x1 x2 x3 ∧ A2 x1 x2 x3 := ⟨x1, x2, x3, h1, h2⟩
theorem k3a3 {α1 α2 α3 : Sort _} {A1 A2 A3 : α1 → α2 → α3 → Prop} (x1 : α1) (x2 : α2) (x3 : α3) (h1 : A1 x1 x2 x3) (h2 : A2 x1 x2 x3) (h3 : A3 x1 x2 x3) : ∃ x1 x2 x3, A1 x1 x2 x3 ∧ A2 x1 x2 x3 ∧ A3 x1 x2 x3 := ⟨x1, x2, x3, h1, h2, h3⟩
theorem k3a4 {α1 α2 α3 : Sort _} {A1 A2 A3 A4 : α1 → α2 → α3 → Prop} (x1 : α1) (x2 : α2) (x3 : α3) (h1 : A1 x1 x2 x3) (h2 : A2 x1 x2 x3) (h3 : A3 x1 x2 x3) (h4 : A4 x1 x2 x3) : ∃ x1 x2 x3, A1 x1 x2 x3 ∧ A2 x1 x2 x3 ∧ A3 x1 x2 x3 ∧ A4 x1 x2 x3 := ⟨x1, x2, x3, h1, h2, h3, h4⟩
theorem k3a5 {α1 α2 α3 : Sort _} {A1 A2 A3 A4 A5 : α1 → α2 → α3 → Prop} (x1 : α1) (x2 : α2) (x3 : α3) (h1 : A1 x1 x2 x3) (h2 : A2 x1 x2 x3) (h3 : A3 x1 x2 x3) (h4 : A4 x1 x2 x3) (h5 : A5 x1 x2 x3) : ∃ x1 x2 x3, A1 x1 x2 x3 ∧ A2 x1 x2 x3 ∧ A3 x1 x2 x3 ∧ A4 x1 x2 x3 ∧ A5 x1 x2 x3 := ⟨x1, x2, x3, h1, h2, h3, h4, h5⟩
theorem k3a6 {α1 α2 α3 : Sort _} {A1 A2 A3 A4 A5 A6 : α1 → α2 → α3 → Prop} (x1 : α1) (x2 : α2) (x3 : α3) (h1 : A1 x1 x2 x3) (h2 : A2 x1 x2 x3) (h3 : A3 x1 x2 x3) (h4 : A4 x1 x2 x3) (h5 : A5 x1 x2 x3) (h6 : A6 x1 x2 x3) : ∃ x1 x2 x3, A1 x1 x2 x3 ∧ A2 x1 x2 x3 ∧ A3 x1 x2 x3 ∧ A4 x1 x2 x3 ∧ A5 x1 x2 x3 ∧ A6 x1 x2 x3 := ⟨x1, x2, x3, h1, h2, h3, h4, h5, h6⟩
theorem k4a1 {α1 α2 α3 α4 : Sort _} {A1 : α1 → α2 → α3 → α4 → Prop} (x1 : α1) (x2 : α2) (x3 : α3) (x4 : α4) (h1 : A1 x1 x2 x3 x4) : ∃ x1 x2 x3 x4, A1 x1 x2 x3 x4 := ⟨x1, x2, x3, x4, h1⟩
theorem k4a4 {α1 α2 α3 α4 : Sort _} {A1 A2 A3 A4 : α1 → α2 → α3 → α4 → Prop} (x1 : α1) (x2 : α2) (x3 : α3) (x4 : α4) (h1 : A1 x1 x2 x3 x4) (h2 : A2 x1 x2 x3 x4) (h3 : A3 x1 x2 x3 x4) (h4 : A4 x1 x2 x3 x4) : ∃ x1 x2 x3 x4, A1 x1 x2 x3 x4 ∧ A2 x1 x2 x3 x4 ∧ A3 x1 x2 x3 x4 ∧ A4 x1 x2 x3 x4 := ⟨x1, x2, x3, x4, h1, h2, h3, h4⟩
theorem k4a6 {α1 α2 α3 α4 : Sort _} {A1 A2 A3 A4 A5 A6 : α1 → α2 → α3 → α4 → Prop} (x1 : α1) (x2 : α2) (x3 : α3) (x4 : α4) (h1 : A1 x1 x2 x3 x4) (h2 : A2 x1 x2 x3 x4) (h3 : A3 x1 x2 x3 x4) (h4 : A4 x1 x2 x3 x4) (h5 : A5 x1 x2 x3 x4) (h6 : A6 x1 x2 x3 x4) : ∃ x1 x2 x3 x4, A1 x1 x2 x3 x4 ∧ A2 x1 x2 x3 x4 ∧ A3 x1 x2 x3 x4 ∧ A4 x1 x2 x3 x4 ∧ A5 x1 x2 x3 x4 ∧ A6 x1 x2 x3 x4 := ⟨x1, x2, x3, x4, h1, h2, h3, h4, h5, h6⟩
theorem k5a1 {α1 α2 α3 α4 α5 : Sort _} {A1 : α1 → α2 → α3 → α4 → α5 → Prop} (x1 : α1) (x2 : α2) (x3 : α3) (x4 : α4) (x5 : α5) (h1 : A1 x1 x2 x3 x4 x5) : ∃ x1 x2 x3 x4 x5, A1 x1 x2 x3 x4 x5 := ⟨x1, x2, x3, x4, x5, h1⟩
theorem k5a5 {α1 α2 α3 α4 α5 : Sort _} {A1 A2 A3 A4 A5 : α1 → α2 → α3 → α4 → α5 → Prop} (x1 : α1) (x2 : α2) (x3 : α3) (x4 : α4) (x5 : α5) (h1 : A1 x1 x2 x3 x4 x5) (h2 : A2 x1 x2 x3 x4 x5) (h3 : A3 x1 x2 x3 x4 x5) (h4 : A4 x1 x2 x3 x4 x5) (h5 : A5 x1 x2 x3 x4 x5) : ∃ x1 x2 x3 x4 x5, A1 x1 x2 x3 x4 x5 ∧ A2 x1 x2 x3 x4 x5 ∧ A3 x1 x2 x3 x4 x5 ∧ A4 x1 x2 x3 x4 x5 ∧ A5 x1 x2 x3 x4 x5 := ⟨x1, x2, x3, x4, x5, h1, h2, h3, h4, h5⟩
theorem k6a9 {α1 α2 α3 α4 α5 α6 : Sort _} {A1 A2 A3 A4 A5 A6 A7 A8 A9 : α1 → α2 → α3 → α4 → α5 → α6 → Prop} (x1 : α1) (x2 : α2) (x3 : α3) (x4 : α4) (x5 : α5) (x6 : α6) (h1 : A1 x1 x2 x3 x4 x5 x6) (h2 : A2 x1 x2 x3 x4 x5 x6) (h3 : A3 x1 x2 x3 x4 x5 x6) (h4 : A4 x1 x2 x3 x4 x5 x6) (h5 : A5 x1 x2 x3 x4 x5 x6) (h6 : A6 x1 x2 x3 x4 x5 x6) (h7 : A7 x1 x2 x3 x4 x5 x6) (h8 : A8 x1 x2 x3 x4 x5 x6) (h9 : A9 x1 x2 x3 x4 x5 x6) : ∃ x1 x2 x3 x4 x5 x6, A1 x1 x2 x3 x4 x5 x6 ∧ A2 x1 x2 x3 x4 x5 x6 ∧ A3 x1 x2 x3 x4 x5 x6 ∧ A4 x1 x2 x3 x4 x5 x6 ∧ A5 x1 x2 x3 x4 x5 x6 ∧ A6 x1 x2 x3 x4 x5 x6 ∧ A7 x1 x2 x3 x4 x5 x6 ∧ A8 x1 x2 x3 x4 x5 x6 ∧ A9 x1 x2 x3 x4 x5 x6 := ⟨x1, x2, x3, x4, x5, x6, h1, h2, h3, h4, h5, h6, h7, h8, h9⟩
theorem k7a7 {α1 α2 α3 α4 α5 α6 α7 : Sort _} {A1 A2 A3 A4 A5 A6 A7 : α1 → α2 → α3 → α4 → α5 → α6 → α7 → Prop} (x1 : α1) (x2 : α2) (x3 : α3) (x4 : α4) (x5 : α5) (x6 : α6) (x7 : α7) (h1 : A1 x1 x2 x3 x4 x5 x6 x7) (h2 : A2 x1 x2 x3 x4 x5 x6 x7) (h3 : A3 x1 x2 x3 x4 x5 x6 x7) (h4 : A4 x1 x2 x3 x4 x5 x6 x7) (h5 : A5 x1 x2 x3 x4 x5 x6 x7) (h6 : A6 x1 x2 x3 x4 x5 x6 x7) (h7 : A7 x1 x2 x3 x4 x5 x6 x7) : ∃ x1 x2 x3 x4 x5 x6 x7, A1 x1 x2 x3 x4 x5 x6 x7 ∧ A2 x1 x2 x3 x4 x5 x6 x7 ∧ A3 x1 x2 x3 x4 x5 x6 x7 ∧ A4 x1 x2 x3 x4 x5 x6 x7 ∧ A5 x1 x2 x3 x4 x5 x6 x7 ∧ A6 x1 x2 x3 x4 x5 x6 x7 ∧ A7 x1 x2 x3 x4 x5 x6 x7 := ⟨x1, x2, x3, x4, x5, x6, x7, h1, h2, h3, h4, h5, h6, h7⟩
theorem k8a3 {α1 α2 α3 α4 α5 α6 α7 α8 : Sort _} {A1 A2 A3 : α1 → α2 → α3 → α4 → α5 → α6 → α7 → α8 → Prop} (x1 : α1) (x2 : α2) (x3 : α3) (x4 : α4) (x5 : α5) (x6 : α6) (x7 : α7) (x8 : α8) (h1 : A1 x1 x2 x3 x4 x5 x6 x7 x8) (h2 : A2 x1 x2 x3 x4 x5 x6 x7 x8) (h3 : A3 x1 x2 x3 x4 x5 x6 x7 x8) : ∃ x1 x2 x3 x4 x5 x6 x7 x8, A1 x1 x2 x3 x4 x5 x6 x7 x8 ∧ A2 x1 x2 x3 x4 x5 x6 x7 x8 ∧ A3 x1 x2 x3 x4 x5 x6 x7 x8 := ⟨x1, x2, x3, x4, x5, x6, x7, x8, h1, h2, h3⟩
end
section
section
open PySem.Challenge
noncomputable section
noncomputable def noSt : Stmt := .Pass ⟨0, 0, 0, 0⟩
noncomputable def topSt (i : Nat) : Stmt := (pw_ty0023_01.main.body[i]?).getD noSt
noncomputable def clsSt (i : Nat) : Stmt := match topSt 11 with
  | .ClassDef _ _ _ b .. => (b[i]?).getD noSt
  | _ => noSt
noncomputable def stP : Stmt → Arguments
  | .FunctionDef _ a .. => a
  | _ => ⟨[], [], none, [], [], none, []⟩
noncomputable def stB : Stmt → List Stmt
  | .FunctionDef _ _ b .. => b
  | _ => []
noncomputable def stS : Stmt → Scope
  | .FunctionDef _ _ _ _ _ _ s _ _ _ => s
  | _ => default
/-- a list of statements, made explicit -/
noncomputable abbrev mkL {a : Stmt} {l b : List Stmt} (_ : b = a :: l) : List Stmt := a :: l
noncomputable abbrev fdB2 : List Stmt := mkL (b := stB (topSt 2)) rfl
noncomputable abbrev fdP2 : Arguments := stP (topSt 2)
noncomputable abbrev fdS2 : Scope := stS (topSt 2)
noncomputable abbrev fdB4 : List Stmt := mkL (b := stB (topSt 4)) rfl
noncomputable abbrev fdP4 : Arguments := stP (topSt 4)
noncomputable abbrev fdS4 : Scope := stS (topSt 4)
noncomputable abbrev fdB5 : List Stmt := mkL (b := stB (topSt 5)) rfl
noncomputable abbrev fdP5 : Arguments := stP (topSt 5)
noncomputable abbrev fdS5 : Scope := stS (topSt 5)
noncomputable abbrev fdB8 : List Stmt := mkL (b := stB (topSt 8)) rfl
noncomputable abbrev fdP8 : Arguments := stP (topSt 8)
noncomputable abbrev fdS8 : Scope := stS (topSt 8)
noncomputable abbrev fdB9 : List Stmt := mkL (b := stB (topSt 9)) rfl
noncomputable abbrev fdP9 : Arguments := stP (topSt 9)
noncomputable abbrev fdS9 : Scope := stS (topSt 9)
noncomputable abbrev fdB13 : List Stmt := mkL (b := stB (topSt 13)) rfl
noncomputable abbrev fdP13 : Arguments := stP (topSt 13)
noncomputable abbrev fdS13 : Scope := stS (topSt 13)
noncomputable abbrev fdB14 : List Stmt := mkL (b := stB (topSt 14)) rfl
noncomputable abbrev fdP14 : Arguments := stP (topSt 14)
noncomputable abbrev fdS14 : Scope := stS (topSt 14)
noncomputable abbrev fdB15 : List Stmt := mkL (b := stB (topSt 15)) rfl
noncomputable abbrev fdP15 : Arguments := stP (topSt 15)
noncomputable abbrev fdS15 : Scope := stS (topSt 15)
noncomputable abbrev fdB16 : List Stmt := mkL (b := stB (topSt 16)) rfl
noncomputable abbrev fdP16 : Arguments := stP (topSt 16)
noncomputable abbrev fdS16 : Scope := stS (topSt 16)
noncomputable abbrev fdB17 : List Stmt := mkL (b := stB (topSt 17)) rfl
noncomputable abbrev fdP17 : Arguments := stP (topSt 17)
noncomputable abbrev fdS17 : Scope := stS (topSt 17)
noncomputable abbrev fdB18 : List Stmt := mkL (b := stB (topSt 18)) rfl
noncomputable abbrev fdP18 : Arguments := stP (topSt 18)
noncomputable abbrev fdS18 : Scope := stS (topSt 18)
noncomputable abbrev fdB19 : List Stmt := mkL (b := stB (topSt 19)) rfl
noncomputable abbrev fdP19 : Arguments := stP (topSt 19)
noncomputable abbrev fdS19 : Scope := stS (topSt 19)
noncomputable abbrev fdB100 : List Stmt := mkL (b := stB (clsSt 0)) rfl
noncomputable abbrev fdP100 : Arguments := stP (clsSt 0)
noncomputable abbrev fdS100 : Scope := stS (clsSt 0)
noncomputable abbrev fdB101 : List Stmt := mkL (b := stB (clsSt 1)) rfl
noncomputable abbrev fdP101 : Arguments := stP (clsSt 1)
noncomputable abbrev fdS101 : Scope := stS (clsSt 1)
noncomputable abbrev fdB102 : List Stmt := mkL (b := stB (clsSt 2)) rfl
noncomputable abbrev fdP102 : Arguments := stP (clsSt 2)
noncomputable abbrev fdS102 : Scope := stS (clsSt 2)
noncomputable abbrev fdB103 : List Stmt := mkL (b := stB (clsSt 3)) rfl
noncomputable abbrev fdP103 : Arguments := stP (clsSt 3)
noncomputable abbrev fdS103 : Scope := stS (clsSt 3)
noncomputable def heapK : Params → Frag := fun P =>
  [
(2, { cls := Value.none, data := Data.dict #[] }),
   (3, { cls := Value.type "dict", data := Data.dict #[{ hash := PyData.keyHash P (Str.ofString "__name__"), key := Value.str (Str.ofString "__name__") 165, val := Value.str (Str.ofString "law_ty0023_01") 349 }, { hash := PyData.keyHash P (Str.ofString "__doc__"), key := Value.str (Str.ofString "__doc__") 166, val := Value.none }, { hash := PyData.keyHash P (Str.ofString "__package__"), key := Value.str (Str.ofString "__package__") 167, val := Value.none }, { hash := PyData.keyHash P (Str.ofString "__loader__"), key := Value.str (Str.ofString "__loader__") 168, val := Value.builtin "__main__.__loader__#opaque" }, { hash := PyData.keyHash P (Str.ofString "__spec__"), key := Value.str (Str.ofString "__spec__") 169, val := Value.none }, { hash := PyData.keyHash P (Str.ofString "__annotations__"), key := Value.str (Str.ofString "__annotations__") 170, val := Value.ref 6 }, { hash := PyData.keyHash P (Str.ofString "__builtins__"), key := Value.str (Str.ofString "__builtins__") 171, val := Value.ref 4 }, { hash := PyData.keyHash P (Str.ofString "__file__"), key := Value.str (Str.ofString "__file__") 173, val := Value.str (Str.ofString "/claim/cut.py") 172 }, { hash := PyData.keyHash P (Str.ofString "__cached__"), key := Value.str (Str.ofString "__cached__") 174, val := Value.none }, { hash := PyData.keyHash P (Str.ofString "ELLIPSIS_MARKER"), key := Value.str (Str.ofString "ELLIPSIS_MARKER") 190, val := Value.str (Str.ofString "...") 189 }, { hash := PyData.keyHash P (Str.ofString "_ellipsis_match"), key := Value.str (Str.ofString "_ellipsis_match") 202, val := Value.ref 21 }, { hash := PyData.keyHash P (Str.ofString "rgb_to_hsv"), key := Value.str (Str.ofString "rgb_to_hsv") 222, val := Value.ref 28 }, { hash := PyData.keyHash P (Str.ofString "hsv_to_rgb"), key := Value.str (Str.ofString "hsv_to_rgb") 236, val := Value.ref 35 }, { hash := PyData.keyHash P (Str.ofString "COMPILER_FLAG_NAMES"), key := Value.str (Str.ofString "COMPILER_FLAG_NAMES") 269, val := Value.ref 36 }, { hash := PyData.keyHash P (Str.ofString "pretty_flags"), key := Value.str (Str.ofString "pretty_flags") 279, val := Value.ref 43 }, { hash := PyData.keyHash P (Str.ofString "_parse_varint"), key := Value.str (Str.ofString "_parse_varint") 288, val := Value.ref 50 }, { hash := PyData.keyHash P (Str.ofString "_netrclex"), key := Value.str (Str.ofString "_netrclex") 348, val := Value.ref 88 }, { hash := PyData.keyHash P (Str.ofString "_law_stream"), key := Value.str (Str.ofString "_law_stream") 359, val := Value.ref 99 }, { hash := PyData.keyHash P (Str.ofString "_law_octets"), key := Value.str (Str.ofString "_law_octets") 366, val := Value.ref 106 }, { hash := PyData.keyHash P (Str.ofString "_law_written"), key := Value.str (Str.ofString "_law_written") 372, val := Value.ref 111 }, { hash := PyData.keyHash P (Str.ofString "_law_pattern"), key := Value.str (Str.ofString "_law_pattern") 379, val := Value.ref 118 }, { hash := PyData.keyHash P (Str.ofString "_law_holds"), key := Value.str (Str.ofString "_law_holds") 388, val := Value.ref 125 }, { hash := PyData.keyHash P (Str.ofString "_law_once"), key := Value.str (Str.ofString "_law_once") 394, val := Value.ref 130 }, { hash := PyData.keyHash P (Str.ofString "_law_round"), key := Value.str (Str.ofString "_law_round") 404, val := Value.ref 137 }, { hash := PyData.keyHash P (Str.ofString "law"), key := Value.str (Str.ofString "law") 410, val := Value.ref 142 }] 25 }),
   (20, { cls := Value.type "code", data := Data.fields #[Value.str (Str.ofString "_ellipsis_match") 191, Value.str (Str.ofString "_ellipsis_match") 192, Value.str (Str.ofString "/claim/cut.py") 193, Value.int 3 0, Value.int 2 0, Value.int 0 0, Value.int 0 0, Value.int 3 0, Value.ref 15, Value.bool true, Value.int 181 0, Value.ref 16, Value.none, Value.ref 17, Value.ref 18, Value.ref 19, Value.int 200 0, Value.int 3 0, Value.str (Str.ofString "/claim/cut.py") 201] }),
   (21, { cls := Value.type "function", data := Data.func { name := Str.ofString "_ellipsis_match", qualname := Str.ofString "_ellipsis_match", params := fdP2, body := FuncBody.stmts (fdB2), scope := fdS2, globals := 3, closure := [], defaults := Value.none, kwdefaults := Value.none, pyModule := Value.str (Str.ofString "cpy313.doctest") 187, code := Value.ref 20 } }),
   (27, { cls := Value.type "code", data := Data.fields #[Value.str (Str.ofString "rgb_to_hsv") 205, Value.str (Str.ofString "rgb_to_hsv") 206, Value.str (Str.ofString "/claim/cut.py") 207, Value.int 32 0, Value.int 3 0, Value.int 0 0, Value.int 0 0, Value.int 3 0, Value.ref 22, Value.bool true, Value.int 181 0, Value.ref 23, Value.none, Value.ref 24, Value.ref 25, Value.ref 26, Value.int 220 0, Value.int 32 0, Value.str (Str.ofString "/claim/cut.py") 221] }),
   (28, { cls := Value.type "function", data := Data.func { name := Str.ofString "rgb_to_hsv", qualname := Str.ofString "rgb_to_hsv", params := fdP4, body := FuncBody.stmts (fdB4), scope := fdS4, globals := 3, closure := [], defaults := Value.none, kwdefaults := Value.none, pyModule := Value.str (Str.ofString "cpy313.colorsys") 203, code := Value.ref 27 } }),
   (34, { cls := Value.type "code", data := Data.fields #[Value.str (Str.ofString "hsv_to_rgb") 223, Value.str (Str.ofString "hsv_to_rgb") 224, Value.str (Str.ofString "/claim/cut.py") 225, Value.int 51 0, Value.int 3 0, Value.int 0 0, Value.int 0 0, Value.int 3 0, Value.ref 29, Value.bool true, Value.int 181 0, Value.ref 30, Value.none, Value.ref 31, Value.ref 32, Value.ref 33, Value.int 234 0, Value.int 51 0, Value.str (Str.ofString "/claim/cut.py") 235] }),
   (35, { cls := Value.type "function", data := Data.func { name := Str.ofString "hsv_to_rgb", qualname := Str.ofString "hsv_to_rgb", params := fdP5, body := FuncBody.stmts (fdB5), scope := fdS5, globals := 3, closure := [], defaults := Value.none, kwdefaults := Value.none, pyModule := Value.str (Str.ofString "cpy313.colorsys") 203, code := Value.ref 34 } }),
   (36, { cls := Value.type "dict", data := Data.dict #[{ hash := 1, key := Value.int 1 239, val := Value.str (Str.ofString "OPTIMIZED") 240 }, { hash := 2, key := Value.int 2 241, val := Value.str (Str.ofString "NEWLOCALS") 242 }, { hash := 4, key := Value.int 4 243, val := Value.str (Str.ofString "VARARGS") 244 }, { hash := 8, key := Value.int 8 245, val := Value.str (Str.ofString "VARKEYWORDS") 246 }, { hash := 16, key := Value.int 16 247, val := Value.str (Str.ofString "NESTED") 248 }, { hash := 32, key := Value.int 32 249, val := Value.str (Str.ofString "GENERATOR") 250 }, { hash := 64, key := Value.int 64 251, val := Value.str (Str.ofString "NOFREE") 252 }, { hash := 128, key := Value.int 128 253, val := Value.str (Str.ofString "COROUTINE") 254 }, { hash := 256, key := Value.int 256 255, val := Value.str (Str.ofString "ITERABLE_COROUTINE") 256 }, { hash := 512, key := Value.int 512 257, val := Value.str (Str.ofString "ASYNC_GENERATOR") 258 }] 10 }),
   (42, { cls := Value.type "code", data := Data.fields #[Value.str (Str.ofString "pretty_flags") 270, Value.str (Str.ofString "pretty_flags") 271, Value.str (Str.ofString "/claim/cut.py") 272, Value.int 74 0, Value.int 1 0, Value.int 0 0, Value.int 0 0, Value.int 3 0, Value.ref 37, Value.bool true, Value.int 181 0, Value.ref 38, Value.none, Value.ref 39, Value.ref 40, Value.ref 41, Value.int 277 0, Value.int 74 0, Value.str (Str.ofString "/claim/cut.py") 278] }),
   (43, { cls := Value.type "function", data := Data.func { name := Str.ofString "pretty_flags", qualname := Str.ofString "pretty_flags", params := fdP8, body := FuncBody.stmts (fdB8), scope := fdS8, globals := 3, closure := [], defaults := Value.none, kwdefaults := Value.none, pyModule := Value.str (Str.ofString "cpy313.dis") 237, code := Value.ref 42 } }),
   (49, { cls := Value.type "code", data := Data.fields #[Value.str (Str.ofString "_parse_varint") 280, Value.str (Str.ofString "_parse_varint") 281, Value.str (Str.ofString "/claim/cut.py") 282, Value.int 86 0, Value.int 1 0, Value.int 0 0, Value.int 0 0, Value.int 3 0, Value.ref 44, Value.bool true, Value.int 181 0, Value.ref 45, Value.none, Value.ref 46, Value.ref 47, Value.ref 48, Value.int 286 0, Value.int 86 0, Value.str (Str.ofString "/claim/cut.py") 287] }),
   (50, { cls := Value.type "function", data := Data.func { name := Str.ofString "_parse_varint", qualname := Str.ofString "_parse_varint", params := fdP9, body := FuncBody.stmts (fdB9), scope := fdS9, globals := 3, closure := [], defaults := Value.none, kwdefaults := Value.none, pyModule := Value.str (Str.ofString "cpy313.dis") 237, code := Value.ref 49 } }),
   (63, { cls := Value.type "code", data := Data.fields #[Value.str (Str.ofString "__init__") 303, Value.str (Str.ofString "_netrclex.__init__") 304, Value.str (Str.ofString "/claim/cut.py") 305, Value.int 97 0, Value.int 2 0, Value.int 0 0, Value.int 0 0, Value.int 3 0, Value.ref 58, Value.bool true, Value.int 181 0, Value.ref 59, Value.none, Value.ref 60, Value.ref 61, Value.ref 62, Value.int 308 0, Value.int 97 0, Value.str (Str.ofString "/claim/cut.py") 309] }),
   (64, { cls := Value.type "function", data := Data.func { name := Str.ofString "__init__", qualname := Str.ofString "_netrclex.__init__", params := fdP100, body := FuncBody.stmts (fdB100), scope := fdS100, globals := 3, closure := [], defaults := Value.none, kwdefaults := Value.none, pyModule := Value.str (Str.ofString "cpy313.netrc") 289, code := Value.ref 63 } }),
   (70, { cls := Value.type "code", data := Data.fields #[Value.str (Str.ofString "_read_char") 311, Value.str (Str.ofString "_netrclex._read_char") 312, Value.str (Str.ofString "/claim/cut.py") 313, Value.int 103 0, Value.int 1 0, Value.int 0 0, Value.int 0 0, Value.int 3 0, Value.ref 65, Value.bool true, Value.int 181 0, Value.ref 66, Value.none, Value.ref 67, Value.ref 68, Value.ref 69, Value.int 316 0, Value.int 103 0, Value.str (Str.ofString "/claim/cut.py") 317] }),
   (71, { cls := Value.type "function", data := Data.func { name := Str.ofString "_read_char", qualname := Str.ofString "_netrclex._read_char", params := fdP101, body := FuncBody.stmts (fdB101), scope := fdS101, globals := 3, closure := [], defaults := Value.none, kwdefaults := Value.none, pyModule := Value.str (Str.ofString "cpy313.netrc") 289, code := Value.ref 70 } }),
   (77, { cls := Value.type "code", data := Data.fields #[Value.str (Str.ofString "get_token") 319, Value.str (Str.ofString "_netrclex.get_token") 320, Value.str (Str.ofString "/claim/cut.py") 321, Value.int 109 0, Value.int 1 0, Value.int 0 0, Value.int 0 0, Value.int 3 0, Value.ref 72, Value.bool true, Value.int 181 0, Value.ref 73, Value.none, Value.ref 74, Value.ref 75, Value.ref 76, Value.int 326 0, Value.int 109 0, Value.str (Str.ofString "/claim/cut.py") 327] }),
   (78, { cls := Value.type "function", data := Data.func { name := Str.ofString "get_token", qualname := Str.ofString "_netrclex.get_token", params := fdP102, body := FuncBody.stmts (fdB102), scope := fdS102, globals := 3, closure := [], defaults := Value.none, kwdefaults := Value.none, pyModule := Value.str (Str.ofString "cpy313.netrc") 289, code := Value.ref 77 } }),
   (84, { cls := Value.type "code", data := Data.fields #[Value.str (Str.ofString "push_token") 329, Value.str (Str.ofString "_netrclex.push_token") 330, Value.str (Str.ofString "/claim/cut.py") 331, Value.int 136 0, Value.int 2 0, Value.int 0 0, Value.int 0 0, Value.int 3 0, Value.ref 79, Value.bool true, Value.int 181 0, Value.ref 80, Value.none, Value.ref 81, Value.ref 82, Value.ref 83, Value.int 334 0, Value.int 136 0, Value.str (Str.ofString "/claim/cut.py") 335] }),
   (85, { cls := Value.type "function", data := Data.func { name := Str.ofString "push_token", qualname := Str.ofString "_netrclex.push_token", params := fdP103, body := FuncBody.stmts (fdB103), scope := fdS103, globals := 3, closure := [], defaults := Value.none, kwdefaults := Value.none, pyModule := Value.str (Str.ofString "cpy313.netrc") 289, code := Value.ref 84 } }),
   (87, { cls := Value.type "dict", data := Data.dict #[{ hash := PyData.keyHash P (Str.ofString "__module__"), key := Value.str (Str.ofString "__module__") 298, val := Value.str (Str.ofString "cpy313.netrc") 289 }, { hash := PyData.keyHash P (Str.ofString "__firstlineno__"), key := Value.str (Str.ofString "__firstlineno__") 302, val := Value.int 95 301 }, { hash := PyData.keyHash P (Str.ofString "__init__"), key := Value.str (Str.ofString "__init__") 310, val := Value.ref 64 }, { hash := PyData.keyHash P (Str.ofString "_read_char"), key := Value.str (Str.ofString "_read_char") 318, val := Value.ref 71 }, { hash := PyData.keyHash P (Str.ofString "get_token"), key := Value.str (Str.ofString "get_token") 328, val := Value.ref 78 }, { hash := PyData.keyHash P (Str.ofString "push_token"), key := Value.str (Str.ofString "push_token") 336, val := Value.ref 85 }, { hash := PyData.keyHash P (Str.ofString "__static_attributes__"), key := Value.str (Str.ofString "__static_attributes__") 341, val := Value.ref 86 }, { hash := PyData.keyHash P (Str.ofString "__dict__"), key := Value.str (Str.ofString "__dict__") 343, val := Value.ref 89 }, { hash := PyData.keyHash P (Str.ofString "__weakref__"), key := Value.str (Str.ofString "__weakref__") 345, val := Value.ref 90 }, { hash := PyData.keyHash P (Str.ofString "__doc__"), key := Value.str (Str.ofString "__doc__") 346, val := Value.none }] 4 }),
   (88, { cls := Value.type "type", data := Data.cls { name := Str.ofString "_netrclex", bases := [Value.type "object"], mro := [Value.ref 88, Value.type "object"], ns := 87, qualname := Str.ofString "_netrclex" }, slots := #[none, none, some (Value.str (Str.ofString "_netrclex") 291), some (Value.str (Str.ofString "_netrclex") 299), some (Value.builtin "object.__new__"), some (Value.bool true)] }),
   (89, { cls := Value.type "getset_descriptor", data := Data.fields #[Value.str (Str.ofString "__dict__") 342, Value.ref 88, Value.builtin "function.__dict__", Value.builtin "function.__dict__#set"] }),
   (90, { cls := Value.type "getset_descriptor", data := Data.fields #[Value.str (Str.ofString "__weakref__") 344, Value.ref 88, Value.builtin "ExceptionGroup.__weakref__", Value.none] }),
   (98, { cls := Value.type "code", data := Data.fields #[Value.str (Str.ofString "_law_stream") 351, Value.str (Str.ofString "_law_stream") 352, Value.str (Str.ofString "/claim/cut.py") 353, Value.int 139 0, Value.int 1 0, Value.int 0 0, Value.int 0 0, Value.int 3 0, Value.ref 93, Value.bool true, Value.int 181 0, Value.ref 94, Value.none, Value.ref 95, Value.ref 96, Value.ref 97, Value.int 357 0, Value.int 139 0, Value.str (Str.ofString "/claim/cut.py") 358] }),
   (99, { cls := Value.type "function", data := Data.func { name := Str.ofString "_law_stream", qualname := Str.ofString "_law_stream", params := fdP13, body := FuncBody.stmts (fdB13), scope := fdS13, globals := 3, closure := [], defaults := Value.none, kwdefaults := Value.none, pyModule := Value.str (Str.ofString "law_ty0023_01") 349, code := Value.ref 98 } }),
   (105, { cls := Value.type "code", data := Data.fields #[Value.str (Str.ofString "_law_octets") 360, Value.str (Str.ofString "_law_octets") 361, Value.str (Str.ofString "/claim/cut.py") 362, Value.int 144 0, Value.int 1 0, Value.int 0 0, Value.int 0 0, Value.int 3 0, Value.ref 100, Value.bool true, Value.int 181 0, Value.ref 101, Value.none, Value.ref 102, Value.ref 103, Value.ref 104, Value.int 364 0, Value.int 144 0, Value.str (Str.ofString "/claim/cut.py") 365] }),
   (106, { cls := Value.type "function", data := Data.func { name := Str.ofString "_law_octets", qualname := Str.ofString "_law_octets", params := fdP14, body := FuncBody.stmts (fdB14), scope := fdS14, globals := 3, closure := [], defaults := Value.none, kwdefaults := Value.none, pyModule := Value.str (Str.ofString "law_ty0023_01") 349, code := Value.ref 105 } }),
   (110, { cls := Value.type "code", data := Data.fields #[Value.str (Str.ofString "_law_written") 367, Value.str (Str.ofString "_law_written") 368, Value.str (Str.ofString "/claim/cut.py") 369, Value.int 148 0, Value.int 2 0, Value.int 0 0, Value.int 0 0, Value.int 3 0, Value.ref 107, Value.bool true, Value.int 181 0, Value.ref 108, Value.none, Value.none, Value.none, Value.ref 109, Value.int 370 0, Value.int 148 0, Value.str (Str.ofString "/claim/cut.py") 371] }),
   (111, { cls := Value.type "function", data := Data.func { name := Str.ofString "_law_written", qualname := Str.ofString "_law_written", params := fdP15, body := FuncBody.stmts (fdB15), scope := fdS15, globals := 3, closure := [], defaults := Value.none, kwdefaults := Value.none, pyModule := Value.str (Str.ofString "law_ty0023_01") 349, code := Value.ref 110 } }),
   (117, { cls := Value.type "code", data := Data.fields #[Value.str (Str.ofString "_law_pattern") 373, Value.str (Str.ofString "_law_pattern") 374, Value.str (Str.ofString "/claim/cut.py") 375, Value.int 152 0, Value.int 1 0, Value.int 0 0, Value.int 0 0, Value.int 3 0, Value.ref 112, Value.bool true, Value.int 181 0, Value.ref 113, Value.none, Value.ref 114, Value.ref 115, Value.ref 116, Value.int 377 0, Value.int 152 0, Value.str (Str.ofString "/claim/cut.py") 378] }),
   (118, { cls := Value.type "function", data := Data.func { name := Str.ofString "_law_pattern", qualname := Str.ofString "_law_pattern", params := fdP16, body := FuncBody.stmts (fdB16), scope := fdS16, globals := 3, closure := [], defaults := Value.none, kwdefaults := Value.none, pyModule := Value.str (Str.ofString "law_ty0023_01") 349, code := Value.ref 117 } }),
   (124, { cls := Value.type "code", data := Data.fields #[Value.str (Str.ofString "_law_holds") 380, Value.str (Str.ofString "_law_holds") 381, Value.str (Str.ofString "/claim/cut.py") 382, Value.int 154 0, Value.int 2 0, Value.int 0 0, Value.int 0 0, Value.int 3 0, Value.ref 119, Value.bool true, Value.int 181 0, Value.ref 120, Value.none, Value.ref 121, Value.ref 122, Value.ref 123, Value.int 386 0, Value.int 154 0, Value.str (Str.ofString "/claim/cut.py") 387] }),
   (125, { cls := Value.type "function", data := Data.func { name := Str.ofString "_law_holds", qualname := Str.ofString "_law_holds", params := fdP17, body := FuncBody.stmts (fdB17), scope := fdS17, globals := 3, closure := [], defaults := Value.none, kwdefaults := Value.none, pyModule := Value.str (Str.ofString "law_ty0023_01") 349, code := Value.ref 124 } }),
   (129, { cls := Value.type "code", data := Data.fields #[Value.str (Str.ofString "_law_once") 389, Value.str (Str.ofString "_law_once") 390, Value.str (Str.ofString "/claim/cut.py") 391, Value.int 159 0, Value.int 1 0, Value.int 0 0, Value.int 0 0, Value.int 3 0, Value.ref 126, Value.bool true, Value.int 181 0, Value.ref 127, Value.none, Value.none, Value.none, Value.ref 128, Value.int 392 0, Value.int 159 0, Value.str (Str.ofString "/claim/cut.py") 393] }),
   (130, { cls := Value.type "function", data := Data.func { name := Str.ofString "_law_once", qualname := Str.ofString "_law_once", params := fdP18, body := FuncBody.stmts (fdB18), scope := fdS18, globals := 3, closure := [], defaults := Value.none, kwdefaults := Value.none, pyModule := Value.str (Str.ofString "law_ty0023_01") 349, code := Value.ref 129 } }),
   (136, { cls := Value.type "code", data := Data.fields #[Value.str (Str.ofString "_law_round") 395, Value.str (Str.ofString "_law_round") 396, Value.str (Str.ofString "/claim/cut.py") 397, Value.int 165 0, Value.int 1 0, Value.int 0 0, Value.int 0 0, Value.int 3 0, Value.ref 131, Value.bool true, Value.int 181 0, Value.ref 132, Value.none, Value.ref 133, Value.ref 134, Value.ref 135, Value.int 402 0, Value.int 165 0, Value.str (Str.ofString "/claim/cut.py") 403] }),
   (137, { cls := Value.type "function", data := Data.func { name := Str.ofString "_law_round", qualname := Str.ofString "_law_round", params := fdP19, body := FuncBody.stmts (fdB19), scope := fdS19, globals := 3, closure := [], defaults := Value.none, kwdefaults := Value.none, pyModule := Value.str (Str.ofString "law_ty0023_01") 349, code := Value.ref 136 } })]
noncomputable def heapAs : List Addr := [2, 3, 20, 21, 27, 28, 34, 35, 36, 42, 43, 49, 50, 63, 64, 70, 71, 77, 78, 84, 85, 87, 88, 89, 90, 98, 99, 105, 106, 110, 111, 117, 118, 124, 125, 129, 130, 136, 137]
noncomputable def viewM : Program := { pw_ty0023_01 with main := { pw_ty0023_01.main with body := [1, 2, 4, 5, 7, 8, 9, 11, 13, 14, 15, 16, 17, 18, 19, 20].map topSt } }
noncomputable def hookK : Hook := kmHook heapK heapAs (fun _ => rfl) [94]
noncomputable def lawDef : Stmt := topSt 20
noncomputable def lawBody : List Stmt := stB lawDef
noncomputable def lawParams : Arguments := stP lawDef
noncomputable def lawScope : Scope := stS lawDef
noncomputable def lawRec : DefRec := { name := "law", params := lawParams, body := lawBody, scope := lawScope, pos := match lawDef with | .FunctionDef _ _ _ _ _ _ _ _ _ p => p | _ => ⟨0, 0, 0, 0⟩ }
theorem said : rw_ty0023_01.wellSaid = true := by decide +kernel
theorem left : LeftO rw_ty0023_01.row.prog viewM ["COMPILER_FLAG_NAMES"] (fun s => xlAt viewM [] s && recOk (RowW.records rw_ty0023_01.row.toRowW) s) hookK.obs hookK.val 1966 :=
  LeftO.of_split "special-get-raises" (fun w => by kernel_rfl!)
theorem hd (walk : WalkO viewM ["COMPILER_FLAG_NAMES"] (XL viewM []) hookK.says rw_ty0023_01.row.toRowW lawRec [] fun f vs => PySem.call f vs) : rw_ty0023_01.Holds := by
  refine holds_law said fun said => ?_
  refine holds_open (q := viewM) (loose := ["COMPILER_FLAG_NAMES"]) (XP := XL viewM []) (YP := hookK.says) (d := lawRec) (kwd := []) left hookK.of hookK.keeps (fun s e => xl_of s (Bool.and_eq_true_iff.mp e).1) XL.keeps ?_ ?_ ?_ (fun s e => recFacts_of (Bool.and_eq_true_iff.mp e).2) rfl said ?_ ?_ ?_ walk
  · kernel_rfl!
  · kernel_rfl!
  · kernel_rfl!
  · decide +kernel
  · exact ⟨rfl, rfl, rfl, rfl, rfl, by decide +kernel⟩
  · exact ⟨[.list []], by decide +kernel, by decide +kernel⟩
end
end
end
section
noncomputable abbrev KK : Params → Frag := heapK
/-- the table of the code object of `_law_stream` (the one object of the top that the call changes) -/
noncomputable abbrev tabA : Addr := 94
inductive Sc where
  | none | bool (b : Bool) | int (i : Int) | float (x : UInt64) | str (x : Str)
noncomputable def Sc.Is : Sc → Value → Prop
  | .none, v => v = .none
  | .bool b, v => v = .bool b
  | .int i, v => ∃ t, v = .int i t
  | .float x, v => ∃ t, v = .float x t
  | .str x, v => ∃ t, v = .str x t
inductive AllSc : List Sc → List Value → Prop
  | nil : AllSc [] []
  | cons {c v cs vs} : c.Is v → AllSc cs vs → AllSc (c :: cs) (v :: vs)
noncomputable def TupAt (h : Heap) (a : Addr) (cs : List Sc) : Prop := ∃ (vs : List Value) (n : Nat), IsT h a vs.toArray n ∧ AllSc cs vs
inductive MV where
  | sc (c : Sc) | tup (cs : List Sc) | val (v : Value)
noncomputable abbrev MV.int (i : Int) : MV := .sc (.int i)
noncomputable abbrev MV.str (x : Str) : MV := .sc (.str x)
noncomputable abbrev MV.bool (b : Bool) : MV := .sc (.bool b)
noncomputable abbrev MV.float (x : UInt64) : MV := .sc (.float x)
noncomputable abbrev MV.ref (a : Addr) : MV := .val (.ref a)
noncomputable def MV.Is (h : Heap) : MV → Value → Prop
  | .sc c, v => c.Is v
  | .tup cs, v => ∃ a, v = .ref a ∧ TupAt h a cs
  | .val u, v => v = u
inductive AllMV (h : Heap) : List MV → List Value → Prop
  | nil : AllMV h [] []
  | cons {c v cs vs} : c.Is h v → AllMV h cs vs → AllMV h (c :: cs) (v :: vs)
inductive VO where
  | ns (m : List (Str × Option MV))
  | cell (v : Option MV)
  | list (xs : List MV)
  | tuple (cs : List Sc)
  | listIter (l : Addr) (i : Nat)
  | rangeIter (x left step : Int)
  | strIter (cls : String) (x : Str) (i : Nat)
  | obj (o : Obj)
  | ins (m : List (Str × MV))
  | code (q : Str)
  | prefs (a b : Addr)
  | pairAny
  | zipo (TI TO : Addr)
noncomputable def NsIs (h : Heap) (a : Addr) (m : List (Str × Option MV)) : Prop :=
  ∃ f, h.Ns a f ∧ (m.map (·.1)).Nodup ∧ ∀ p ∈ m, ∀ mv, p.2 = some mv → ∃ v, f p.1 = some v ∧ mv.Is h v
/-- a name space with no more than N entries -/
noncomputable def NsB (h : Heap) (a : Addr) (f : Str → Option Value) (N : Nat) : Prop :=
  ∃ o es ep, h.get? a = some o ∧ o.data = .dict es ep ∧ StrKeys es ∧ es.size ≤ N ∧ ∀ name, nsFind es name = f name
theorem NsB.ns {h : Heap} {a f N} (n : NsB h a f N) : h.Ns a f := let ⟨o, es, ep, h1, h2, h3, _, h4⟩ := n; ⟨o, es, ep, h1, h2, h3, h4⟩
theorem NsB.extBut {h h' : Heap} {a x f N} (n : NsB h a f N) (e : Heap.ExtBut x h h') (hx : a ≠ x) : NsB h' a f N := let ⟨o, es, ep, h1, r⟩ := n; ⟨o, es, ep, e _ _ hx h1, r⟩
/-- a dict whose keys are all known -/
noncomputable def InsIs (h : Heap) (a : Addr) (m : List (Str × MV)) : Prop :=
  ∃ f, NsB h a f m.length ∧ (m.map (·.1)).Nodup ∧ (∀ p ∈ m, ∃ v, f p.1 = some v ∧ p.2.Is h v) ∧ ∀ x, x ∉ m.map (·.1) → f x = none
noncomputable def CellIs (h : Heap) (a : Addr) : Option MV → Prop
  | none => ∃ u, h.IsCell a u
  | some mv => ∃ w, h.IsCell a (some w) ∧ mv.Is h w
noncomputable def VO.Is (h : Heap) (a : Addr) : VO → Prop
  | .ns m => NsIs h a m
  | .cell v => CellIs h a v
  | .list xs => ∃ (vs : List Value) (n : Nat), IsL h a vs.toArray n ∧ AllMV h xs vs
  | .tuple cs => TupAt h a cs
  | .listIter l i => h.IsListIter a l i
  | .rangeIter x left step => IsRangeIter h a x left step
  | .strIter cls x i => (cls = "str_ascii_iterator" ∨ cls = "str_iterator") ∧ ∃ t, h.IsStrIter a cls x t i
  | .obj o => h.get? a = some o ∧ o.cls ≠ .type "tuple"
  | .ins m => InsIs h a m
  | .code q => ∃ oc vs t, h.get? a = some oc ∧ oc.data = .fields vs ∧ vs[1]? = some (.str q t)
  | .prefs b c => IsPair h a (.ref b) (.ref c)
  | .pairAny => ∃ x y, IsPair h a x y
  | .zipo TI TO => IsZip h a TI TO .none
noncomputable def VO.fixed : VO → Bool
  | .tuple _ => true
  | .prefs _ _ => true
  | .pairAny => true
  | _ => false
theorem AllSc.length {cs vs} (h : AllSc cs vs) : vs.length = cs.length := by induction h <;> simp_all
theorem AllMV.length {h cs vs} (x : AllMV h cs vs) : vs.length = cs.length := by induction x <;> simp_all
/-- an object that is tracked and no tuple stands at no tuple's place -/
theorem VO.notTup {h : Heap} {a : Addr} {o : VO} (x : o.Is h a) (hf : o.fixed = false) : ∀ cs, ¬ TupAt h a cs := by
  intro cs ⟨vs, n, ho, _⟩
  cases o with
  | ns m => refine x1a2 x fun f oy011 _ => ?_; clear x; obtain ⟨o', es, ep, ho', hd', _⟩ := oy011; rw [ho] at ho'; cases ho'; cases hd'
  | cell v =>
    cases v with
    | none => refine x2a2 x fun u o' ho' hd' => ?_; clear x; rw [ho] at ho'; cases ho'; cases hd'
    | some mv => refine x1a2 x fun u oy211 _ => ?_; clear x; obtain ⟨o', ho', hd'⟩ := oy211; rw [ho] at ho'; cases ho'; cases hd'
  | list xs => refine x2a2 x fun ws n' ho' _ => ?_; clear x; have := ho.symm.trans ho'; simp at this
  | tuple cs => cases hf
  | listIter l i => refine x1a3 x fun o' ho' hc' _ => ?_; clear x; rw [ho] at ho'; cases ho'; simp at hc'
  | rangeIter x' l s => have x'' : _ = _ := x; have := ho.symm.trans x''; simp at this
  | strIter cls y i => refine x0a2 x fun hcl oz51 => ?_; clear x; refine x2a3 oz51 fun t o' ho' hc' _ => ?_; clear oz51; rw [ho] at ho'; cases ho'; rcases hcl with rfl | rfl <;> simp at hc'
  | obj o' => refine x0a2 x fun ho' hc' => ?_; clear x; rw [ho] at ho'; cases ho'; exact hc' rfl
  | ins m => refine x1a2 x fun f oy711 _ => ?_; clear x; obtain ⟨o', es, ep, ho', hd', _⟩ := oy711; rw [ho] at ho'; cases ho'; cases hd'
  | code q => refine x3a3 x fun o' ws t ho' hd' _ => ?_; clear x; rw [ho] at ho'; cases ho'; cases hd'
  | prefs b c => cases hf
  | pairAny => cases hf
  | zipo TI TO => have x' : _ = _ := x; have := ho.symm.trans x'; simp at this
section
variable {h h' : Heap} {x : Addr}
theorem TupAt.extBut {a : Addr} {cs : List Sc} (t : TupAt h a cs) (e : Heap.ExtBut x h h') (hx : a ≠ x) : TupAt h' a cs :=
  let ⟨vs, n, i, q⟩ := t; ⟨vs, n, e _ _ hx i, q⟩
theorem MV.Is.extBut {mv : MV} {v : Value} (m : mv.Is h v) (e : Heap.ExtBut x h h') (nt : ∀ cs, ¬ TupAt h x cs) : mv.Is h' v := by
  cases mv with
  | sc c => exact m
  | tup cs => refine x1a2 m fun a qz911 t => ?_; clear m; subst qz911; exact k1a2 a rfl (t.extBut e fun q => nt cs (q ▸ t))
  | val u => exact m
theorem AllMV.extBut {xs : List MV} {vs : List Value} (m : AllMV h xs vs) (e : Heap.ExtBut x h h') (nt : ∀ cs, ¬ TupAt h x cs) : AllMV h' xs vs := by
  induction m with
  | nil => exact .nil
  | cons h1 _ ih => exact .cons (h1.extBut e nt) ih
theorem VO.Is.extBut {a : Addr} {o : VO} (m : o.Is h a) (e : Heap.ExtBut x h h') (hx : a ≠ x) (nt : ∀ cs, ¬ TupAt h x cs) : o.Is h' a := by
  cases o with
  | ns m => refine x1a3 m fun f n nd hm => ?_; clear m; exact k1a3 f (n.extBut e hx) nd (fun p hp mv hmv => let ⟨v, h1, h2⟩ := hm p hp mv hmv; ⟨v, h1, h2.extBut e nt⟩)
  | cell v =>
    cases v with
    | none => refine x2a2 m fun u o' ho' hd' => ?_; clear m; exact k2a2 u o' (e _ _ hx ho') hd'
    | some mv => refine x1a2 m fun u oy1211 hm => ?_; clear m; obtain ⟨o', ho', hd'⟩ := oy1211; exact k1a2 u (k1a2 o' (e _ _ hx ho') hd') (hm.extBut e nt)
  | list xs => refine x2a2 m fun ws n i hm => ?_; clear m; exact k2a2 ws n (e _ _ hx i) (hm.extBut e nt)
  | tuple cs => exact TupAt.extBut m e hx
  | listIter l i => exact Heap.IsListIter.extBut m e hx
  | rangeIter y l s => exact e _ _ hx m
  | strIter cls y i => refine x0a2 m fun hcl oz141 => ?_; clear m; refine x1a1 oz141 fun t i => ?_; clear oz141; exact ⟨hcl, t, i.extBut e hx⟩
  | obj o' => exact ⟨e _ _ hx m.1, m.2⟩
  | ins mm => refine x1a4 m fun f n nd hm hn => ?_; clear m; exact k1a4 f (n.extBut e hx) nd (fun p hp => let ⟨v, h1, h2⟩ := hm p hp; ⟨v, h1, h2.extBut e nt⟩) hn
  | code q => refine x3a2 m fun oc vs t ho r => ?_; clear m; exact k3a2 oc vs t (e _ _ hx ho) r
  | prefs b c => exact e _ _ hx m
  | pairAny => refine x2a1 m fun x' y' m => ?_; exact k2a1 x' y' (e _ _ hx m)
  | zipo TI TO => exact e _ _ hx m
end
/-- what stands through the whole call -/
structure Base where
  w : World
  h : Heap
  gens : Array GenState
  drawn : Drawn
  os : OsState
  mg : Str → Option Value
  mb : Str → Option Value
  KX : (KK w.params).In h
  g : h.Ns mainGlobals mg
  b : h.Ns builtinsNs mb
  blt : ∀ x : Str, x ≠ "__name__" → mb x = bootBuiltins x
  nl : h.NoLimit
  hid : h.get? tabA = none
  bm : h.BuiltinsAt mg tabA
noncomputable abbrev Led := List (Addr × VO)
structure St (B : Base) (σ : Led) (s : Shared) : Prop where
  old : ∀ b o, B.h.get? b = some o → b ≠ tabA → s.heap.get? b = some o
  is : ∀ p ∈ σ, p.2.Is s.heap p.1
  fresh : ∀ p ∈ σ, B.h.get? p.1 = none
  nd : (σ.map (·.1)).Nodup
  gens : s.gens = B.gens
  drawn : s.drawn = B.drawn
  os : s.os = B.os
  pos : 0 < s.toks
/-- the same ledger but for the object at x -/
inductive Upd (x : Addr) (o o' : VO) : Led → Led → Prop
  | here {r} : Upd x o o' ((x, o) :: r) ((x, o') :: r)
  | there {p r r'} : Upd x o o' r r' → Upd x o o' (p :: r) (p :: r')
theorem Upd.keys {x o o' σ σ'} (u : Upd x o o' σ σ') : σ'.map (·.1) = σ.map (·.1) := by induction u <;> simp_all
theorem Upd.mem {x o o' σ σ'} (u : Upd x o o' σ σ') : (x, o) ∈ σ := by induction u with
  | here => exact .head _
  | there _ ih => exact .tail _ ih
theorem Upd.mem' {x o o' σ σ'} (u : Upd x o o' σ σ') : ∀ p ∈ σ', p = (x, o') ∨ p ∈ σ := by
  induction u with
  | here => intro p hp; rcases List.mem_cons.mp hp with rfl | hp; exact .inl rfl; exact .inr (.tail _ hp)
  | there _ ih => intro p hp; rcases List.mem_cons.mp hp with rfl | hp; exact .inr (.head _); exact (ih p hp).imp id (.tail _)
section
variable {B : Base} {σ σ' : Led} {s : Shared}
theorem St.tok (S : St B σ s) (k : Nat) (hk : s.toks ≤ k := by omega) : St B σ { s with toks := k } := ⟨S.old, S.is, S.fresh, S.nd, S.gens, S.drawn, S.os, Nat.lt_of_lt_of_le S.pos hk⟩
theorem St.at (S : St B σ s) {a o} (h : (a, o) ∈ σ) : o.Is s.heap a := S.is _ h
theorem St.drop (S : St B σ s) (h : σ'.Sublist σ) : St B σ' s :=
  ⟨S.old, fun p hp => S.is p (h.subset hp), fun p hp => S.fresh p (h.subset hp), S.nd.sublist (h.map _), S.gens, S.drawn, S.os, S.pos⟩
theorem St.tabSome (S : St B σ s) : 98 < s.heap.objs.size := by
  have : ∃ o, (KK B.w.params).lookup 98 = some o := ⟨_, rfl⟩
  refine x1a1 this fun o ho => ?_; clear this
  exact Heap.lt_size (S.old 98 o (B.KX 98 o ho) (by decide))
theorem St.newAddr (S : St B σ s) : B.h.get? s.heap.objs.size = none := by
  cases e : B.h.get? s.heap.objs.size with
  | none => rfl
  | some o =>
    have h98 := S.tabSome
    exact absurd (Heap.lt_size (S.old _ o e (by show s.heap.objs.size ≠ 94; lia))) (Nat.lt_irrefl _)
theorem St.neOf (S : St B σ s) {a o b ob} (h : (a, o) ∈ σ) (e : B.h.get? b = some ob) : b ≠ a := fun q => by
  have := S.fresh _ h
  rw [← q, e] at this; cases this
/-- an update of a tracked object -/
theorem St.upd {x o o'} {h' : Heap} (S : St B σ s) (u : Upd x o o' σ σ') (hf : o.fixed = false) (e : Heap.ExtBut x s.heap h') (k : Nat) (i : o'.Is h' x) (hk : s.toks ≤ k := by omega) : St B σ' { s with heap := h', toks := k } := by
  have hm := u.mem
  have nt := VO.notTup (S.is _ hm) hf
  refine ⟨fun b ob hb ht => e b ob (S.neOf hm hb) (S.old b ob hb ht), fun p hp => ?_, fun p hp => ?_, by rw [u.keys]; exact S.nd, S.gens, S.drawn, S.os, Nat.lt_of_lt_of_le S.pos hk⟩
  · by_cases hx : p.1 = x
    · have : p = (x, o') := by
        have nd := S.nd
        have key : ∀ {σ σ' : Led}, Upd x o o' σ σ' → (σ.map (·.1)).Nodup → ∀ p ∈ σ', p.1 = x → p = (x, o') := by
          intro σ σ' u
          induction u with
          | @here r =>
            intro nd p hp hx
            rcases List.mem_cons.mp hp with rfl | hp
            · rfl
            · exact absurd (hx ▸ List.mem_map_of_mem hp : x ∈ r.map (·.1)) (List.nodup_cons.mp nd).1
          | @there q r r' u ih =>
            intro nd p hp hx
            rcases List.mem_cons.mp hp with rfl | hp
            · exact absurd (show p.1 ∈ r.map (·.1) from hx ▸ List.mem_map_of_mem (f := (·.1)) u.mem) (List.nodup_cons.mp nd).1
            · exact ih (List.nodup_cons.mp nd).2 p hp hx
        exact key u nd p hp hx
      rw [this]; exact i
    · rcases u.mem' p hp with rfl | hp
      · exact absurd rfl hx
      · exact (S.is p hp).extBut e hx nt
  · rcases u.mem' p hp with rfl | hp
    · exact S.fresh (x, o) hm
    · exact S.fresh p hp
/-- the heap has grown, nothing has changed -/
theorem St.grow {h' : Heap} (S : St B σ s) (e : ∀ b o, s.heap.get? b = some o → h'.get? b = some o) (k : Nat) (hk : s.toks ≤ k := by omega) : St B σ { s with heap := h', toks := k } := by
  have h0 : s.heap.get? s.heap.objs.size = none := by
    cases q : s.heap.get? s.heap.objs.size with
    | none => rfl
    | some o => exact absurd (Heap.lt_size q) (Nat.lt_irrefl _)
  have e' : Heap.ExtBut s.heap.objs.size s.heap h' := fun b o _ q => e b o q
  have nt : ∀ cs, ¬ TupAt s.heap s.heap.objs.size cs := fun cs ⟨vs, n, ho, _⟩ => by have := h0.symm.trans ho; cases this
  refine ⟨fun b o hb ht => e b o (S.old b o hb ht), fun p hp => (S.is p hp).extBut e' (fun q => ?_) nt, S.fresh, S.nd, S.gens, S.drawn, S.os, Nat.lt_of_lt_of_le S.pos hk⟩
  have i := S.is p hp
  rw [q] at i
  have lt : ∀ {o : VO} {a : Addr}, o.Is s.heap a → a < s.heap.objs.size := by
    intro o a i
    cases o with
    | ns m => exact i.choose_spec.1.lt
    | cell v => cases v with
      | none => exact i.choose_spec.lt
      | some mv => exact i.choose_spec.1.lt
    | list xs => refine x2a2 i fun _ _ ho _ => ?_; clear i; exact Heap.lt_size ho
    | tuple cs => refine x2a2 i fun _ _ ho _ => ?_; clear i; exact Heap.lt_size ho
    | listIter l j => refine x1a2 i fun o ho _ => ?_; clear i; exact Heap.lt_size ho
    | rangeIter y l s => exact Heap.lt_size i
    | strIter c y j => refine x0a2 i fun _ oz211 => ?_; clear i; refine x2a2 oz211 fun _ o ho _ => ?_; clear oz211; exact Heap.lt_size ho
    | obj o => exact Heap.lt_size i.1
    | ins m => exact i.choose_spec.1.ns.lt
    | code q => refine x3a2 i fun _ _ _ ho _ => ?_; clear i; exact Heap.lt_size ho
    | prefs b c => exact Heap.lt_size (show s.heap.get? _ = some _ from i)
    | pairAny => refine x2a1 i fun _ _ ho => ?_; clear i; exact Heap.lt_size (show s.heap.get? _ = some _ from ho)
    | zipo TI TO => exact Heap.lt_size (show s.heap.get? _ = some _ from i)
  exact Nat.lt_irrefl _ (lt i)
/-- a new object, tracked from now on -/
theorem St.new {h' : Heap} {a : Addr} {o : VO} (S : St B σ s) (e : ∀ b o, s.heap.get? b = some o → h'.get? b = some o) (k : Nat) (ha : s.heap.get? a = none) (hb : B.h.get? a = none) (i : o.Is h' a) (hk : s.toks ≤ k := by omega) :
    St B ((a, o) :: σ) { s with heap := h', toks := k } := by
  have G := S.grow e k hk
  refine ⟨G.old, fun p hp => ?_, fun p hp => ?_, ?_, S.gens, S.drawn, S.os, G.pos⟩
  · rcases List.mem_cons.mp hp with rfl | hp
    · exact i
    · exact G.is p hp
  · rcases List.mem_cons.mp hp with rfl | hp
    · exact hb
    · exact S.fresh p hp
  · rw [List.map_cons, List.nodup_cons]
    refine ⟨fun hm => ?_, S.nd⟩
    refine x1a2 (List.mem_map.mp hm) fun p hp q => ?_
    have lt : ∀ {o : VO} {a : Addr}, o.Is s.heap a → s.heap.get? a ≠ none := by
      intro o a i hn
      cases o with
      | ns m => refine x1a2 i fun _ oy2411 _ => ?_; clear i; obtain ⟨o, _, _, ho, _⟩ := oy2411; rw [hn] at ho; cases ho
      | cell v => cases v with
        | none => refine x2a2 i fun _ o ho _ => ?_; clear i; rw [hn] at ho; cases ho
        | some mv => refine x1a2 i fun _ oy2611 _ => ?_; clear i; obtain ⟨o, ho, _⟩ := oy2611; rw [hn] at ho; cases ho
      | list xs => refine x2a2 i fun _ _ ho _ => ?_; clear i; have := hn.symm.trans ho; cases this
      | tuple cs => refine x2a2 i fun _ _ ho _ => ?_; clear i; have := hn.symm.trans ho; cases this
      | listIter l j => refine x1a2 i fun o ho _ => ?_; clear i; rw [hn] at ho; cases ho
      | rangeIter y l s => have i' : _ = _ := i; rw [hn] at i'; cases i'
      | strIter c y j => refine x0a2 i fun _ oz301 => ?_; clear i; refine x2a2 oz301 fun _ o ho _ => ?_; clear oz301; rw [hn] at ho; cases ho
      | obj o => have i' := i.1; rw [hn] at i'; cases i'
      | ins m => refine x1a2 i fun _ oy3111 _ => ?_; clear i; obtain ⟨o, _, _, ho, _⟩ := oy3111; rw [hn] at ho; cases ho
      | code q => refine x3a2 i fun _ _ _ ho _ => ?_; clear i; rw [hn] at ho; cases ho
      | prefs b c => have i' : _ = _ := i; rw [hn] at i'; cases i'
      | pairAny => refine x2a1 i fun _ _ i' => ?_; clear i; have i' : _ = _ := i'; rw [hn] at i'; cases i'
      | zipo TI TO => have i' : _ = _ := i; rw [hn] at i'; cases i'
    exact lt (S.is p hp) (by dsimp only at q; rw [q]; exact ha)
theorem St.push {o : VO} {ob : Obj} (S : St B σ s) (k : Nat) (i : o.Is (s.heap.push ob) s.heap.objs.size) (hk : s.toks ≤ k := by omega) : St B ((s.heap.objs.size, o) :: σ) { s with heap := s.heap.push ob, toks := k } := by
  refine S.new (fun b o e => Heap.get?_push_of_some _ e) k ?_ S.newAddr i hk
  cases q : s.heap.get? s.heap.objs.size with
  | none => rfl
  | some o => exact absurd (Heap.lt_size q) (Nat.lt_irrefl _)
end
end
section
structure EnvOk (env : Env) (ln : List Str) (cs : List (Str × Addr)) (gn : List Str) : Prop where
  kind : env.scope.kind = .function
  globals : env.globals = mainGlobals
  builtins : env.builtins = builtinsNs
  loc : ∀ x ∈ ln, env.kindOf x = some .local
  cell : ∀ p ∈ cs, (env.kindOf p.1 = some .cell ∨ env.kindOf p.1 = some .free) ∧ env.cells.lookup p.1 = some p.2
  glob : ∀ x ∈ gn, env.kindOf x = some .globalImplicit
  nodebug : ∀ x ∈ ln ++ cs.map (·.1) ++ gn, (x == ("__debug__" : Str)) = false
  nocd : ∀ x ∈ cs, (x.1 == ("__classdict__" : Str)) = false
/-- room for k calls more -/
structure Ok (A : Around) (k : Nat) : Prop where
  depth : A.depth + k ≤ 900
  units : A.units + 20 * k ≤ 9000
  handled : A.handled = none
theorem Ok.room {A k} (h : Ok A k) : A.depth < recursionLimit := by have := h.depth; unfold recursionLimit; lia
theorem Ok.line {A k} (h : Ok A k) : A.units < cLine := by have := h.units; unfold cLine; lia
theorem Ok.deeper {A k env} (h : Ok A (k + 1)) : Ok (A.deeper env) k := ⟨by have := h.depth; show A.depth + 1 + k ≤ 900; lia, by have := h.units; show A.units + 3 + 20 * k ≤ 9000; lia, h.handled⟩
theorem Ok.in1 {A k} (h : Ok A (k + 1)) : Ok A.in1 k := ⟨by have := h.depth; show A.depth + k ≤ 900; lia, by have := h.units; show A.units + 1 + 20 * k ≤ 9000; lia, h.handled⟩
noncomputable def GlobVal (B : Base) (x : Str) (v : Value) : Prop := B.mg x = some v ∨ (B.mg x = none ∧ B.mb x = some v)
inductive UpdN (x : Str) (v : Option MV) : List (Str × Option MV) → List (Str × Option MV) → Prop
  | here {o r} : UpdN x v ((x, o) :: r) ((x, v) :: r)
  | there {p r r'} : UpdN x v r r' → UpdN x v (p :: r) (p :: r')
theorem UpdN.keys {x v m m'} (u : UpdN x v m m') : m'.map (·.1) = m.map (·.1) := by induction u <;> simp_all
theorem UpdN.mem {x v m m'} (u : UpdN x v m m') : x ∈ m.map (·.1) := by induction u <;> simp_all
theorem UpdN.cases {x v m m'} (u : UpdN x v m m') (nd : (m.map (·.1)).Nodup) : ∀ p ∈ m', p = (x, v) ∨ (p ∈ m ∧ p.1 ≠ x) := by
  induction u with
  | @here o r =>
    intro p hp
    rcases List.mem_cons.mp hp with rfl | hp
    · exact .inl rfl
    · exact .inr ⟨.tail _ hp, fun q => (List.nodup_cons.mp nd).1 (q ▸ List.mem_map_of_mem (f := (·.1)) hp)⟩
  | @there q r r' u ih =>
    intro p hp
    rcases List.mem_cons.mp hp with rfl | hp
    · exact .inr ⟨.head _, fun e => (List.nodup_cons.mp nd).1 (show p.1 ∈ r.map (·.1) by rw [e]; exact u.mem)⟩
    · exact (ih (List.nodup_cons.mp nd).2 p hp).imp id fun ⟨a, b⟩ => ⟨.tail _ a, b⟩
noncomputable def initNs (ln ps : List Str) (mvs : List MV) : List (Str × Option MV) := ln.map fun x => (x, (ps.zip mvs).lookup x)
theorem lookup_zip {h : Heap} {x : Str} {mv : MV} : ∀ {ps : List Str} {mvs : List MV} {vs : List Value}, AllMV h mvs vs → (ps.zip mvs).lookup x = some mv → ∃ v, (ps.zip vs).lookup x = some v ∧ mv.Is h v
  | [], _, _, _, e => by simp at e
  | p :: ps, _, _, .nil, e => by simp at e
  | p :: ps, _, _, .cons (c := c) (v := v) hc hr, e => by
    simp only [List.zip_cons_cons, List.lookup_cons] at e ⊢
    cases q : x == p with
    | true => rw [q] at e; cases e; exact k1a2 v rfl hc
    | false => rw [q] at e; exact lookup_zip hr e
theorem lookup_snoc {α : Type} (x : Str) : ∀ (l : List (Str × α)) (a : Str) (b : α), (l ++ [(a, b)]).lookup x = (l.lookup x).or (if x == a then some b else none)
  | [], a, b => by cases q : x == a <;> simp [List.lookup, q]
  | (c, d) :: l, a, b => by
    have ih := lookup_snoc x l a b
    cases q : x == c with
    | true => simp [List.lookup, q]
    | false => simp only [List.cons_append, List.lookup, q]; exact ih
theorem lookup_rev {α : Type} {x : Str} : ∀ {l : List (Str × α)}, (l.map (·.1)).Nodup → l.reverse.lookup x = l.lookup x
  | [], _ => rfl
  | (c, d) :: l, nd => by
    refine x0a2 (List.nodup_cons.mp nd) fun h1 h2 => ?_
    rw [List.reverse_cons, lookup_snoc, lookup_rev h2]
    cases q : x == c with
    | false => simp [List.lookup, q]
    | true =>
      have : l.lookup x = none := by
        cases e : l.lookup x with
        | none => rfl
        | some v =>
          have := List.mem_map_of_mem (f := (·.1)) (mem_of_lookup e)
          rw [beq_iff_eq.mp q] at this
          exact absurd this h1
      simp [this, List.lookup, q]
theorem map_fst_zip {α β : Type} : ∀ (l : List α) (r : List β), ((l.zip r).map (·.1)).Sublist l
  | [], _ => by simp
  | a :: l, [] => by simp
  | a :: l, b :: r => by simpa using map_fst_zip l r
section
variable {B : Base} {σ σ' : Led} {s : Shared} {prog : Program} {A : Around} {E : Value → Shared → Prop} {env : Env} {ln gn : List Str} {cs : List (Str × Addr)}
theorem St.glob (S : St B σ s) : s.heap.Ns mainGlobals B.mg :=
  let ⟨o, es, ep, h1, h2, h3, h4⟩ := B.g
  ⟨o, es, ep, S.old _ _ h1 (by decide), h2, h3, h4⟩
theorem St.bltNs (S : St B σ s) : s.heap.Ns builtinsNs B.mb :=
  let ⟨o, es, ep, h1, h2, h3, h4⟩ := B.b
  ⟨o, es, ep, S.old _ _ h1 (by decide), h2, h3, h4⟩
theorem St.nolimit (S : St B σ s) : s.heap.NoLimit :=
  let ⟨mc, ⟨o, es, ep, h1, h2, h3, h4⟩, r⟩ := B.nl
  ⟨mc, ⟨o, es, ep, S.old _ _ h1 (by decide), h2, h3, h4⟩, r⟩
theorem St.KIn (S : St B σ s) {a : Addr} {o : Obj} (h : (KK B.w.params).lookup a = some o) (ha : a ≠ tabA := by decide) : s.heap.get? a = some o := S.old _ _ (B.KX _ _ h) ha
/- names -/
theorem r_local {x : Str} {pos : Pos} {m} {mv : MV} {Q : Value → Shared → Prop} (S : St B σ s) (hE : EnvOk env ln cs gn) (hx : x ∈ ln) (hm : (env.locals, VO.ns m) ∈ σ) (hv : (x, some mv) ∈ m)
    (h : ∀ v, mv.Is s.heap v → Q v s) : wpAny (model prog B.w) A (eval (.Name x pos) env) Q E s := by
  refine x1a3 (S.at hm) fun f n _ hf => ?_
  refine x1a2 (hf _ hv mv rfl) fun v h1 h2 => ?_
  exact wpAny_Name (wpAny_loadName_local hE.kind (hE.loc x hx) n h1 (h v h2)) (hE.nodebug x (by simp [hx]))
theorem r_local_int {x : Str} {pos : Pos} {m} {i : Int} {Q : Value → Shared → Prop} (S : St B σ s) (hE : EnvOk env ln cs gn) (hx : x ∈ ln) (hm : (env.locals, VO.ns m) ∈ σ) (hv : (x, some (MV.sc (.int i))) ∈ m)
    (h : ∀ t, Q (.int i t) s) : wpAny (model prog B.w) A (eval (.Name x pos) env) Q E s := r_local S hE hx hm hv fun _ ⟨t, e⟩ => e ▸ h t
theorem r_local_str {x : Str} {pos : Pos} {m} {y : Str} {Q : Value → Shared → Prop} (S : St B σ s) (hE : EnvOk env ln cs gn) (hx : x ∈ ln) (hm : (env.locals, VO.ns m) ∈ σ) (hv : (x, some (MV.sc (.str y))) ∈ m)
    (h : ∀ t, Q (.str y t) s) : wpAny (model prog B.w) A (eval (.Name x pos) env) Q E s := r_local S hE hx hm hv fun _ ⟨t, e⟩ => e ▸ h t
theorem r_local_bool {x : Str} {pos : Pos} {m} {y : Bool} {Q : Value → Shared → Prop} (S : St B σ s) (hE : EnvOk env ln cs gn) (hx : x ∈ ln) (hm : (env.locals, VO.ns m) ∈ σ) (hv : (x, some (MV.sc (.bool y))) ∈ m)
    (h : Q (.bool y) s) : wpAny (model prog B.w) A (eval (.Name x pos) env) Q E s := r_local S hE hx hm hv fun _ e => e ▸ h
theorem r_local_float {x : Str} {pos : Pos} {m} {y : UInt64} {Q : Value → Shared → Prop} (S : St B σ s) (hE : EnvOk env ln cs gn) (hx : x ∈ ln) (hm : (env.locals, VO.ns m) ∈ σ) (hv : (x, some (MV.sc (.float y))) ∈ m)
    (h : ∀ t, Q (.float y t) s) : wpAny (model prog B.w) A (eval (.Name x pos) env) Q E s := r_local S hE hx hm hv fun _ ⟨t, e⟩ => e ▸ h t
theorem r_local_val {x : Str} {pos : Pos} {m} {u : Value} {Q : Value → Shared → Prop} (S : St B σ s) (hE : EnvOk env ln cs gn) (hx : x ∈ ln) (hm : (env.locals, VO.ns m) ∈ σ) (hv : (x, some (MV.val u)) ∈ m)
    (h : Q u s) : wpAny (model prog B.w) A (eval (.Name x pos) env) Q E s := r_local S hE hx hm hv fun _ e => e ▸ h
/-- the name alone, as an augmented assignment asks it -/
theorem r_load {x : Str} {m} {mv : MV} {Q : Value → Shared → Prop} (S : St B σ s) (hE : EnvOk env ln cs gn) (hx : x ∈ ln) (hm : (env.locals, VO.ns m) ∈ σ) (hv : (x, some mv) ∈ m)
    (h : ∀ v, mv.Is s.heap v → Q v s) : wpAny (model prog B.w) A (loadName env x) Q E s := by
  refine x1a3 (S.at hm) fun f n _ hf => ?_
  refine x1a2 (hf _ hv mv rfl) fun v h1 h2 => ?_
  exact wpAny_loadName_local hE.kind (hE.loc x hx) n h1 (h v h2)
theorem r_load_int {x : Str} {m} {i : Int} {Q : Value → Shared → Prop} (S : St B σ s) (hE : EnvOk env ln cs gn) (hx : x ∈ ln) (hm : (env.locals, VO.ns m) ∈ σ) (hv : (x, some (MV.sc (.int i))) ∈ m)
    (h : ∀ t, Q (.int i t) s) : wpAny (model prog B.w) A (loadName env x) Q E s := r_load S hE hx hm hv fun _ ⟨t, e⟩ => e ▸ h t
theorem r_load_str {x : Str} {m} {i : Str} {Q : Value → Shared → Prop} (S : St B σ s) (hE : EnvOk env ln cs gn) (hx : x ∈ ln) (hm : (env.locals, VO.ns m) ∈ σ) (hv : (x, some (MV.sc (.str i))) ∈ m)
    (h : ∀ t, Q (.str i t) s) : wpAny (model prog B.w) A (loadName env x) Q E s := r_load S hE hx hm hv fun _ ⟨t, e⟩ => e ▸ h t
theorem r_global {x : Str} {pos : Pos} {v : Value} {Q : Value → Shared → Prop} (S : St B σ s) (hE : EnvOk env ln cs gn) (hx : x ∈ gn) (hv : GlobVal B x v) (h : Q v s) :
    wpAny (model prog B.w) A (eval (.Name x pos) env) Q E s := by
  refine Calls.Name_function_global hE.kind (hE.glob x hx) ?_ (hE.nodebug x (by simp [hx]))
  rcases hv with hv | ⟨h1, h2⟩
  · exact Calls.loadGlobal_global (hE.globals ▸ S.glob) hv h
  · exact Calls.loadGlobal_builtin (hE.globals ▸ S.glob) h1 (hE.builtins ▸ S.bltNs) h2 h
theorem r_store {x : Str} {v : Value} {m m'} {mv : MV} {Q : Unit → Shared → Prop} (S : St B σ s) (hE : EnvOk env ln cs gn) (hx : x ∈ ln) (hv : mv.Is s.heap v) (u1 : Upd env.locals (.ns m) (.ns m') σ σ') (u2 : UpdN x (some mv) m m')
    (h : ∀ s', St B σ' s' → Q () s') : wpAny (model prog B.w) A (storeName env x v) Q E s := by
  refine x1a3 (S.at u1.mem) fun f n nd hf => ?_
  have nt := VO.notTup (S.at u1.mem) rfl
  refine wpAny_storeName_local (hE.loc x hx) n (fun h' hn hs => h _ (S.upd u1 rfl hs.extBut (s.toks + 1) ⟨_, hn, by rw [u2.keys]; exact nd, fun p hp mw hw => ?_⟩)) ?_
  · rcases u2.cases nd p hp with rfl | ⟨hp, hne⟩
    · cases hw; exact k1a2 v (by simp) (hv.extBut hs.extBut nt)
    · refine x1a2 (hf p hp mw hw) fun v' h1 h2 => ?_
      exact k1a2 v' (by simp [hne, h1]) (h2.extBut hs.extBut nt)
  · show (env.scope.kind == .class || (env.scope.kind == .module && env.locals != env.globals)) = false
    rw [hE.kind]; rfl
theorem r_store_int {x : Str} {i : Int} {t : Tok} {m m'} {Q : Unit → Shared → Prop} (S : St B σ s) (hE : EnvOk env ln cs gn) (hx : x ∈ ln) (u1 : Upd env.locals (.ns m) (.ns m') σ σ') (u2 : UpdN x (some (.sc (.int i))) m m')
    (h : ∀ s', St B σ' s' → Q () s') : wpAny (model prog B.w) A (storeName env x (.int i t)) Q E s := r_store (mv := .sc (.int i)) S hE hx (show MV.Is s.heap (.sc (.int i)) (.int i t) from ⟨t, rfl⟩) u1 u2 h
theorem r_store_str {x : Str} {i : Str} {t : Tok} {m m'} {Q : Unit → Shared → Prop} (S : St B σ s) (hE : EnvOk env ln cs gn) (hx : x ∈ ln) (u1 : Upd env.locals (.ns m) (.ns m') σ σ') (u2 : UpdN x (some (.sc (.str i))) m m')
    (h : ∀ s', St B σ' s' → Q () s') : wpAny (model prog B.w) A (storeName env x (.str i t)) Q E s := r_store (mv := .sc (.str i)) S hE hx (show MV.Is s.heap (.sc (.str i)) (.str i t) from ⟨t, rfl⟩) u1 u2 h
theorem r_store_float {x : Str} {i : UInt64} {t : Tok} {m m'} {Q : Unit → Shared → Prop} (S : St B σ s) (hE : EnvOk env ln cs gn) (hx : x ∈ ln) (u1 : Upd env.locals (.ns m) (.ns m') σ σ') (u2 : UpdN x (some (.sc (.float i))) m m')
    (h : ∀ s', St B σ' s' → Q () s') : wpAny (model prog B.w) A (storeName env x (.float i t)) Q E s := r_store (mv := .sc (.float i)) S hE hx (show MV.Is s.heap (.sc (.float i)) (.float i t) from ⟨t, rfl⟩) u1 u2 h
theorem r_store_bool {x : Str} {i : Bool} {m m'} {Q : Unit → Shared → Prop} (S : St B σ s) (hE : EnvOk env ln cs gn) (hx : x ∈ ln) (u1 : Upd env.locals (.ns m) (.ns m') σ σ') (u2 : UpdN x (some (.sc (.bool i))) m m')
    (h : ∀ s', St B σ' s' → Q () s') : wpAny (model prog B.w) A (storeName env x (.bool i)) Q E s := r_store (mv := .sc (.bool i)) S hE hx (show MV.Is s.heap (.sc (.bool i)) (.bool i) from rfl) u1 u2 h
theorem r_store_val {x : Str} {a : Addr} {m m'} {Q : Unit → Shared → Prop} (S : St B σ s) (hE : EnvOk env ln cs gn) (hx : x ∈ ln) (u1 : Upd env.locals (.ns m) (.ns m') σ σ') (u2 : UpdN x (some (.val (.ref a))) m m')
    (h : ∀ s', St B σ' s' → Q () s') : wpAny (model prog B.w) A (storeName env x (.ref a)) Q E s := r_store (mv := .val (.ref a)) S hE hx (show MV.Is s.heap (.val (.ref a)) (.ref a) from rfl) u1 u2 h
/- constants -/
theorem r_int {i k pos} {Q : Value → Shared → Prop} (S : St B σ s) (h : ∀ t s', St B σ s' → Q (.int i t) s') : wpAny (model prog B.w) A (eval (.Constant (.int i) k pos) env) Q E s := wpAny_Constant_int (h _ _ (S.tok _))
theorem r_str {x k pos} {Q : Value → Shared → Prop} (S : St B σ s) (h : ∀ t s', St B σ s' → Q (.str x t) s') : wpAny (model prog B.w) A (eval (.Constant (.str x) k pos) env) Q E s := wpAny_Constant_str (h _ _ (S.tok _))
theorem r_bool {x k pos} {Q : Value → Shared → Prop} (h : Q (.bool x) s) : wpAny (model prog B.w) A (eval (.Constant (.bool x) k pos) env) Q E s := wpAny_Constant_bool h
/- a call of a def without cells -/
theorem r_call {name : Str} {params : Arguments} {body : List Stmt} {scope : Scope} {pm cd doc : Value} {a : Addr} {o : Obj} {args : List Value} {mvs : List MV} {Q : Value → Shared → Prop} {ns : List (Str × Option MV)} {k : Nat}
    (S : St B σ s) (hA : Ok A (k + 1)) (ho : (KK B.w.params).lookup a = some o) (ha : a ≠ tabA)
    (hdata : o.data = .func (Calls.docDef name params body scope pm cd doc)) (hcd : ∀ h : Heap, (∀ a o, (KK B.w.params).lookup a = some o → a ≠ tabA → h.get? a = some o) → h.CodeRec cd name)
    (hargs : AllMV s.heap mvs args)
    (hns : ns = initNs ln (params.args.map (·.arg)) mvs)
    (hbind : ∀ args : List Value, args.length = mvs.length → bindArgs (Calls.docDef name params body scope pm cd doc) ⟨args, []⟩ = pure ((params.args.map (·.arg)).zip args))
    (hsc : scope.kind = .function ∧ (∀ x ∈ ln, scope.names.lookup x = some .local) ∧ (∀ x ∈ gn, scope.names.lookup x = some .globalImplicit) ∧ (∀ x ∈ ln ++ gn, (x == ("__debug__" : Str)) = false) ∧ ln.Nodup ∧
      (∀ x ∈ params.args.map (·.arg), scope.names.lookup x = some .local) ∧ (params.args.map (·.arg)).Nodup ∧ (∀ x ∈ scope.names, x.2 ≠ .cell) ∧ scope.isCoroutine = false ∧ scope.isGenerator = false)
    (h : ∀ env s', EnvOk env ln [] gn → env = envOf name scope env.locals a cd → St B ((env.locals, .ns ns) :: σ) s' → Ok (A.deeper env) k →
      wpAny (model prog B.w) (A.deeper env) (execs body env) (fun f s'' => Q (match f with | .ret v => v | _ => .none) s'') (fun _ _ => False) s') :
    wpAny (model prog B.w) A (call (.ref a) args) Q E s := by
  refine x0a10 hsc fun k1 k2 k3 k4 k5 k6 k6' k7 k8 k9 => ?_; clear hsc
  refine wpAny_call (call_pos_ret hA.room (S.KIn ho ha) hdata S.nolimit (hcd s.heap fun b o e hb => S.KIn e hb) (hbind args hargs.length) (fun x hx => k6 _ (List.of_mem_zip hx).1) (fun h₁ F => ?_) k8 k9 k1 k7)
  have G := S.new (a := s.heap.objs.size) (o := .ns ns) (h' := h₁) F.keep (s.toks + ((params.args.map (·.arg)).zip args).length) (by
      cases q : s.heap.get? s.heap.objs.size with
      | none => rfl
      | some o => exact absurd (Heap.lt_size q) (Nat.lt_irrefl _)) S.newAddr
    ⟨_, F.ns, by rw [hns]; unfold initNs; rw [List.map_map]; simpa [Function.comp_def] using k5, fun p hp mv hmv => by
      rw [hns] at hp
      refine x1a2 (List.mem_map.mp hp) fun x hx qz812 => ?_; subst qz812
      refine x1a2 (lookup_zip hargs hmv) fun v h1 h2 => ?_
      refine k1a2 v ((lookup_rev ?_).trans h1) ?_
      · exact (map_fst_zip _ _).nodup k6'
      have e' : Heap.ExtBut s.heap.objs.size s.heap h₁ := fun b o _ q => F.keep b o q
      refine h2.extBut e' fun cs ⟨vs, n, ho, _⟩ => absurd (Heap.lt_size ho) (Nat.lt_irrefl _)⟩
  refine h (envOf name scope s.heap.objs.size a cd) _ ⟨k1, rfl, rfl, k2, fun _ hp => (nomatch hp), k3, fun x hx => k4 x (by simpa using hx), fun _ hp => (nomatch hp)⟩ rfl G hA.deeper
end
end
section
section
variable {M : Model} {A : Around} {E : Value → Shared → Prop} {s : Shared} {env : Env}
theorem evalArgs_of {f : Value} {args : List (Bool × Sem Value)} {Q : Args → Shared → Prop} (hp : args.any (·.1) = false)
    (h : wpAny M A (spliced args) (fun vs s' => Q ⟨vs, []⟩ s') E s) : wpAny M A (evalArgs f true args []) Q E s := by
  cases args with
  | nil =>
    unfold evalArgs
    show wpAny M A (spliced [] >>= _) Q E s
    refine wpAny_bind (wpAny_mono h (fun vs s' h' => ?_) fun _ _ x => x)
    refine wpAny_holding ?_
    exact wpAny_bind (wpAny_pure (wpAny_bind (wpAny_pure (wpAny_pure h'))))
  | cons a r =>
    obtain ⟨b, x⟩ := a
    simp only [List.any_cons, Bool.or_eq_false_iff] at hp
    obtain rfl : b = false := hp.1
    exact Calls.evalArgs_plain h
theorem callWith_plain {pos : Pos} {f : Value} {first : List Value} {args : List (Bool × Sem Value)} {Q : Value → Shared → Prop} (hf : ∀ a, f ≠ .ref a) (hplain : args.any (·.1) = false)
    (h : wpAny M A (spliced args) (fun vs s₁ => wpAny M A (call f (first ++ vs)) Q E s₁) E s) :
    wpAny M A (callWith pos f first args []) Q E s := by
  unfold callWith
  refine wpAny_bind (wpAny_holding (evalArgs_of hplain (wpAny_mono h (fun a s₁ h₁ => wpAny_bind (wpAny_standAt ?_)) fun _ _ x => x)))
  simp only [hplain, List.any_nil, Bool.or_false]
  have hk : keeperOf f = pure .machine := by
    cases f <;> first | rfl | exact absurd rfl (hf _)
  rw [hk]
  refine wpAny_bind (wpAny_pure ?_)
  exact wpAny_bind (wpAny_mono h₁ (fun r s₂ hr => wpAny_bind (wpAny_holding (wpAny_point (wpAny_pure hr)))) fun _ _ x => x)
/-- a call of a builtin by its name -/
theorem r_callB {x : Str} {p pos : Pos} {args : List Expr} {Q : Value → Shared → Prop} (hplain : (backTo pos (starEach args env)).any (·.1) = false)
    (h : wpAny M A (eval (.Name x p) env) (fun f s₁ => (∀ a, f ≠ .ref a) ∧ wpAny M A (spliced (backTo pos (starEach args env))) (fun vs s₂ => wpAny M A (call f vs) Q E s₂) E s₁) E s) :
    wpAny M A (eval (.Call (.Name x p) args [] pos) env) Q E s :=
  wpAny_Call_Name_kw (wpAny_mono h (fun f s₁ h₁ => callWith_plain h₁.1 hplain h₁.2) fun _ _ x => x)
/-- a method of a builtin type -/
structure MethodIs (T : String) (name : Str) (id : String) : Prop where
  plain : PlainAttrs T
  slot : Slot T name id
  ty : typeOf (.builtin id) = pure (.type "method_descriptor")
theorem r_method {o : Expr} {name : Str} {apos pos : Pos} {args : List Expr} {Q : Value → Shared → Prop}
    (hbase : attributeBase o name env (eval o env) = eval o env)
    (hplain : (backTo pos (starEach args env)).any (·.1) = false)
    (hfew : ((backTo pos (starEach args env)).all (fun x => !x.1) && (backToKw pos (keywordEach [] env)).all (fun x => x.1.isSome)
      && decide (args.length + ([] : List Keyword).length + (if ([] : List Keyword).isEmpty then 0 else 1) < 30)) = true)
    (hline : (apos.endLine == pos.line) = true)
    (h : wpAny M A (eval o env) (fun ov s₁ => ∃ T id, MethodIs T name id ∧ s₁.TypeIs ov T ∧ (∀ a, ov = .ref a → ∃ ob, s₁.heap.get? a = some ob ∧ ob.dict = none) ∧
      wpAny M A (spliced (backTo pos (starEach args env))) (fun vs s₂ => wpAny M A (call (.builtin id) (ov :: vs)) Q E s₂) E s₁) E s) :
    wpAny M A (eval (.Call (.Attribute o name apos) args [] pos) env) Q E s := by
  rw [arm_eval_Call, hbase]
  refine wpAny_bind (wpAny_mono h (fun ov s₁ h₁ => ?_) fun _ _ e => e)
  refine x2a4 h₁ fun T id oy112 hT hd hc => ?_; clear h₁; obtain ⟨pa, slot, hty⟩ := oy112
  refine wpAny_bind (wpAny_standAt ?_)
  have hform : methodCallForm (args.length + ([] : List Keyword).length) (backTo pos (starEach args env)) (backToKw pos (keywordEach [] env)) = true := hfew
  have hpos : methodCallPos true o env apos pos = pure pos := by unfold methodCallPos; simp [hline]
  unfold methodCall
  rw [hform]
  refine wpAny_bind (wpAny_holding (getMethod_builtin hT pa slot hty hd ?_))
  exact wpAny_bind (wpAny_of_eq hpos (callWith_plain (fun _ e => nomatch e) hplain hc))
end
section
variable {B : Base} {σ σ' : Led} {s : Shared} {prog : Program} {A : Around} {E : Value → Shared → Prop} {env : Env} {ln gn : List Str} {cs : List (Str × Addr)} {k : Nat}
variable {Q : Value → Shared → Prop}
/-- a call of a def of the text by its name -/
theorem r_callF {x : Str} {p pos : Pos} {args : List Expr} {a : Addr} {o : Obj} {fd : FuncData} (S : St B σ s) (hE : EnvOk env ln cs gn) (hx : x ∈ gn) (hv : GlobVal B x (.ref a))
    (ho : (KK B.w.params).lookup a = some o) (hd : o.data = .func fd) (hplain : (backTo pos (starEach args env)).any (·.1) = false) (ha : a ≠ tabA := by decide)
    (h : wpAny (model prog B.w) A (spliced (backTo pos (starEach args env))) (fun vs s₂ => (∃ σ', St B σ' s₂) ∧ wpAny (model prog B.w) A (call (.ref a) vs) Q E s₂) E s) :
    wpAny (model prog B.w) A (eval (.Call (.Name x p) args [] pos) env) Q E s := by
  refine wpAny_Call_Name_kw (r_global S hE hx hv (Calls.callWith_function (o := o) (fd := fd) (evalArgs_of hplain (wpAny_mono h (fun vs s₂ h₂ => ?_) fun _ _ x => x))))
  refine x0a2 h₂ fun oy210 h₂ => ?_; refine x1a1 oy210 fun σ' S' => ?_; clear oy210
  exact ⟨⟨S'.KIn ho ha, hd⟩, h₂⟩
/- truth -/
theorem r_truthy_str {x : Str} {t : Tok} {Q : Bool → Shared → Prop} (S : St B σ s) (hx : x.length ≤ sizeLine) (h : ∀ s', St B σ s' → Q (x.length != 0) s') : wpAny (model prog B.w) A (truthy (.str x t)) Q E s := by
  refine PySem.P.truthy_str (by unfold sizeLine at hx; lia) ?_
  have : ((x.length : Int) != 0) = (x.length != 0) := by
    cases q : x.length with
    | zero => rfl
    | succ n => simp; omega
  rw [this]
  exact h _ (S.tok _)
theorem nr_builtin {x : String} {P : Prop} (h : P) : (∀ a, Value.builtin x ≠ .ref a) ∧ P := ⟨fun _ e => (nomatch e), h⟩
theorem nr_type {x : String} {P : Prop} (h : P) : (∀ a, Value.type x ≠ .ref a) ∧ P := ⟨fun _ e => (nomatch e), h⟩
/- ints -/
theorem r_add {a b : Int} {t u : Tok} (S : St B σ s) (h : ∀ t s', St B σ s' → Q (.int (a + b) t) s') : wpAny (model prog B.w) A (binaryOp .Add (.int a t) (.int b u)) Q E s := add_int (h _ _ (S.tok _))
theorem r_iadd {a b : Int} {t u : Tok} (S : St B σ s) (h : ∀ t s', St B σ s' → Q (.int (a + b) t) s') : wpAny (model prog B.w) A (inplaceOp .Add (.int a t) (.int b u)) Q E s := iadd_int (h _ _ (S.tok _))
theorem r_sub {a b : Int} {t u : Tok} (S : St B σ s) (h : ∀ t s', St B σ s' → Q (.int (a - b) t) s') : wpAny (model prog B.w) A (binaryOp .Sub (.int a t) (.int b u)) Q E s := sub_int (h _ _ (S.tok _))
theorem r_isub {a b : Int} {t u : Tok} (S : St B σ s) (h : ∀ t s', St B σ s' → Q (.int (a - b) t) s') : wpAny (model prog B.w) A (inplaceOp .Sub (.int a t) (.int b u)) Q E s := isub_int (h _ _ (S.tok _))
theorem r_neg {a : Int} {t : Tok} (S : St B σ s) (h : ∀ t s', St B σ s' → Q (.int (-a) t) s') : wpAny (model prog B.w) A (unaryOp .USub (.int a t)) Q E s := PyProof.Rows.neg_int (h _ _ (S.tok _))
/- lists -/
theorem St.listIs {l : Addr} {xs : List MV} (S : St B σ s) (hl : (l, VO.list xs) ∈ σ) : ∃ (vs : List Value) (n : Nat), IsL s.heap l vs.toArray n ∧ AllMV s.heap xs vs := S.at hl
theorem St.listType {l : Addr} {xs : List MV} (S : St B σ s) (hl : (l, VO.list xs) ∈ σ) : s.TypeIs (.ref l) "list" := by refine x2a2 (S.listIs hl) fun vs n h _ => ?_; exact k1a2 _ h rfl
theorem St.listNoDict {l : Addr} {xs : List MV} (S : St B σ s) (hl : (l, VO.list xs) ∈ σ) : ∀ a, Value.ref l = .ref a → ∃ ob, s.heap.get? a = some ob ∧ ob.dict = none := by
  refine x2a2 (S.listIs hl) fun vs n h _ => ?_
  intro a e; cases e; exact k1a2 _ h rfl
theorem r_len_list {l : Addr} {xs : List MV} (S : St B σ s) (hl : (l, VO.list xs) ∈ σ) (hsz : xs.length ≤ sizeLine) (h : ∀ t s', St B σ s' → Q (.int xs.length t) s') :
    wpAny (model prog B.w) A (call (.builtin "len") [.ref l]) Q E s := by
  refine x2a2 (S.listIs hl) fun vs n hv ha => ?_
  have hn : (vs.toArray.size : Int) = xs.length := by simp [ha.length]
  refine call_len_meets (n := vs.toArray.size) ⟨_, hv, rfl⟩ F.slot_list_len F.entry_list_len (F.args_list_len_1 _) (AutoListH.list___len___list_0 l vs.toArray n) (by lia) (by rw [hn]; unfold sizeLine at hsz; lia) (fun _ hq => ⟨hv, hq⟩) ?_
  rw [hn]
  exact h _ _ (S.tok _)
theorem r_len_str {x : Str} {t : Tok} (S : St B σ s) (hsz : x.length ≤ sizeLine) (h : ∀ t s', St B σ s' → Q (.int x.length t) s') :
    wpAny (model prog B.w) A (call (.builtin "len") [.str x t]) Q E s :=
  PySem.P.len_str (by unfold sizeLine at hsz; lia) (h _ _ (S.tok _))
end
end
section
section
variable {B : Base} {σ σ' : Led} {s : Shared} {prog : Program} {A : Around} {E : Value → Shared → Prop} {env : Env} {ln gn : List Str} {cs : List (Str × Addr)} {k : Nat}
variable {Q : Value → Shared → Prop}
/- subscripts -/
theorem r_subscr {value slice : Expr} {pos : Pos}
    (h : wpAny (model prog B.w) A (eval value env) (fun o s₁ => wpAny (model prog B.w) A (eval slice env) (fun i s₂ =>
      (∃ T id, s₂.TypeIs o T ∧ typeLookup (.type T) "__getitem__" = pure (some (.builtin id))) ∧ wpAny (model prog B.w) A (getItem o i) Q E s₂) E s₁) E s) :
    wpAny (model prog B.w) A (eval (.Subscript value slice pos) env) Q E s := by
  refine Subscript_ (wpAny_mono h (fun o s₁ h₁ => wpAny_mono h₁ (fun i s₂ h₂ => ?_) fun _ _ x => x) fun _ _ x => x)
  refine x0a2 h₂ fun oy010 hg => ?_; clear h₂; refine x2a2 oy010 fun T id hT hl => ?_; clear oy010
  unfold subscriptTail
  refine wpAny_bind ?_
  rw [getitemInPython_of_ne hT.not_modules]
  refine wpAny_bind (wpAny_specialOf hT hl ?_)
  refine wpAny_pure (wpAny_bind ?_)
  have hs : ∃ ops, subscripted slice false o i = operate ops (getItem o i) := by
    unfold subscripted
    split
    · exact ⟨_, rfl⟩
    · rename_i q; cases q
    · exact ⟨_, rfl⟩
  refine x1a1 hs fun ops hs => ?_
  show wpAny _ _ (subscripted slice false o i) _ _ _
  rw [hs]
  exact wpAny_operating (wpAny_mono hg (fun r s₃ h₃ => wpAny_bind (wpAny_letTemporaryGo (wpAny_pure h₃))) fun _ _ x => x)
theorem AllMV.get {h : Heap} : ∀ {xs : List MV} {vs : List Value} {i : Nat} {mv : MV}, AllMV h xs vs → xs[i]? = some mv → ∃ v, vs[i]? = some v ∧ mv.Is h v
  | _, _, _, _, .nil, e => by simp at e
  | _, _, 0, _, .cons hc _, e => by simp at e; subst e; exact k1a2 _ rfl hc
  | _, _, i + 1, _, .cons _ hr, e => by simpa using AllMV.get hr (by simpa using e)
theorem r_item_list {l : Addr} {xs : List MV} {c : Int} {i : Nat} {t : Tok} {mv : MV} (S : St B σ s) (hl : (l, VO.list xs) ∈ σ) (hc : c = (i : Int)) (hx : xs[i]? = some mv) (hsz : xs.length ≤ sizeLine)
    (h : ∀ v, mv.Is s.heap v → Q v s) : wpAny (model prog B.w) A (getItem (.ref l) (.int c t)) Q E s := by
  subst hc
  refine x2a2 (S.listIs hl) fun vs n hv ha => ?_
  refine x1a2 (ha.get hx) fun v h1 h2 => ?_
  have hi : i < xs.length := (List.getElem?_eq_some_iff.mp hx).1
  exact wpAny_getItem_list hv.isList (by lia) (by unfold sizeLine at hsz; lia) (by simpa using h1) (h v h2)
theorem r_item_last {l : Addr} {xs : List MV} {t : Tok} {mv : MV} (S : St B σ s) (hl : (l, VO.list xs) ∈ σ) (hx : xs.getLast? = some mv) (hsz : xs.length ≤ sizeLine)
    (h : ∀ v, mv.Is s.heap v → Q v s) : wpAny (model prog B.w) A (getItem (.ref l) (.int (-1) t)) Q E s := by
  refine x2a2 (S.listIs hl) fun vs n hv ha => ?_
  rw [List.getLast?_eq_getElem?] at hx
  refine x1a2 (ha.get hx) fun v h1 h2 => ?_
  have hi := (List.getElem?_eq_some_iff.mp hx).1
  have hlen := ha.length
  refine wpAny_getItem_list_neg hv.isList (by lia) (by simp; lia) (by lia) ?_ (h v h2)
  have : (-1 + (vs.toArray.size : Int)).toNat = xs.length - 1 := by simp; lia
  rw [this]; simpa using h1
theorem listGet : typeLookup (.type "list") "__getitem__" = pure (some (.builtin "list.__getitem__")) := slot_list_getitem.lookup
theorem St.listGets {l : Addr} {xs : List MV} (S : St B σ s) (hl : (l, VO.list xs) ∈ σ) : ∃ T id, s.TypeIs (.ref l) T ∧ typeLookup (.type T) "__getitem__" = pure (some (.builtin id)) := ⟨_, _, S.listType hl, listGet⟩
theorem g_list {l : Addr} {xs : List MV} {P : Prop} (S : St B σ s) (hl : (l, VO.list xs) ∈ σ) (h : P) : (∃ T id, s.TypeIs (.ref l) T ∧ typeLookup (.type T) "__getitem__" = pure (some (.builtin id))) ∧ P := ⟨S.listGets hl, h⟩
theorem g_str {x : Str} {t : Tok} {P : Prop} (h : P) : (∃ T id, s.TypeIs (.str x t) T ∧ typeLookup (.type T) "__getitem__" = pure (some (.builtin id))) ∧ P := ⟨⟨_, _, typeIs_str _ _ _, F.slot_str_getitem.lookup⟩, h⟩
theorem g_tup {a : Addr} {cs : List Sc} {P : Prop} (ht : TupAt s.heap a cs) (h : P) : (∃ T id, s.TypeIs (.ref a) T ∧ typeLookup (.type T) "__getitem__" = pure (some (.builtin id))) ∧ P := by
  refine x2a2 ht fun vs n hv _ => ?_; clear ht
  exact ⟨(k2a2 _ _ (k1a2 _ hv rfl) F.slot_tuple_getitem.lookup), h⟩
/-- two statements with one state between them -/
theorem r_join {st : Stmt} {rest : List Stmt} {Q : Flow → Shared → Prop} (J : Shared → Prop) (h1 : wpAny (model prog B.w) A (exec st env) (fun f s' => match f with | .next => J s' | f => Q f s') E s)
    (h2 : ∀ s', J s' → wpAny (model prog B.w) A (execs rest env) Q E s') : wpAny (model prog B.w) A (execs (st :: rest) env) Q E s :=
  wpAny_execs_cons (wpAny_mono h1 (fun f s' h => by cases f <;> first | exact h2 _ h | exact h) fun _ _ x => x)
theorem AllMV.erase {h : Heap} : ∀ {xs : List MV} {vs : List Value} (i : Nat), AllMV h xs vs → AllMV h (xs.eraseIdx i) (vs.eraseIdx i)
  | _, _, _, .nil => by simpa using AllMV.nil
  | _, _, 0, .cons _ hr => by simpa using hr
  | _, _, i + 1, .cons hc hr => by simpa using AllMV.cons hc (AllMV.erase i hr)
theorem r_del_list {l : Addr} {xs : List MV} {i : Int} {j : Nat} {t : Tok} {Q : Unit → Shared → Prop} (S : St B σ s) (hf : Builtin.List.listFitsIndex i = true) (hj : seqIndex? i xs.length = some j) (hsz : xs.length ≤ sizeLine)
    (u : Upd l (.list xs) (.list (xs.eraseIdx j)) σ σ') (h : ∀ s', St B σ' s' → Q () s') : wpAny (model prog B.w) A (delItem (.ref l) (.int i t)) Q E s := by
  refine x2a2 (S.listIs u.mem) fun vs n hv ha => ?_
  have nt := VO.notTup (S.at u.mem) rfl
  refine delItem_at hv hf (by simpa [ha.length] using hj) (fun h' hs ho => ?_) (by simpa [ha.length] using hsz)
  exact h _ (S.upd u rfl hs.extBut s.toks ⟨_, _, ho, (ha.erase j).extBut hs.extBut nt⟩)
theorem r_del_first {l : Addr} {xs r : List MV} {x : MV} {t : Tok} {Q : Unit → Shared → Prop} (S : St B σ s) (hx : xs = x :: r) (hsz : xs.length ≤ sizeLine)
    (u : Upd l (.list xs) (.list r) σ σ') (h : ∀ s', St B σ' s' → Q () s') : wpAny (model prog B.w) A (delItem (.ref l) (.int 0 t)) Q E s := by
  subst hx
  exact r_del_list (j := 0) S (by decide +kernel) (seqIndex_of (k := 0) (Int.le_refl _) (by rw [List.length_cons]; lia)) hsz u h
theorem r_del_last {l : Addr} {xs r : List MV} {x : MV} {t : Tok} {Q : Unit → Shared → Prop} (S : St B σ s) (hx : xs = r ++ [x]) (hsz : xs.length ≤ sizeLine)
    (u : Upd l (.list xs) (.list r) σ σ') (h : ∀ s', St B σ' s' → Q () s') : wpAny (model prog B.w) A (delItem (.ref l) (.int (-1) t)) Q E s := by
  subst hx
  have e : (r ++ [x]).eraseIdx r.length = r := by simp [List.eraseIdx_append_of_length_le]
  refine r_del_list (j := r.length) S (by decide +kernel) ?_ hsz (by rw [e]; exact u) h
  rw [seqIndex_neg (by lia) (by rw [List.length_append, List.length_singleton]; lia), List.length_append, List.length_singleton]
  exact congrArg some (by lia)
/- a tuple of two, stored into two names -/
theorem r_assign2 {x y : Str} {px py tp vp pos : Pos} {n1 n2 : Nat} {e1 e2 : Expr} {Q : Flow → Shared → Prop} (hA : Ok A k)
    (hw : swappedStores [.Tuple [.Name x px, .Name y py] n1 tp] (.Tuple [e1, e2] n2 vp) env = pure (some [x, y]))
    (h1 : starEach [e1, e2] env = [(false, eval e1 env), (false, eval e2 env)])
    (h : wpAny (model prog B.w) A (eval e1 env) (fun v1 s1 => wpAny (model prog B.w) A (eval e2 env) (fun v2 s2 =>
       ∃ σ0, St B σ0 s2 ∧ ∀ s3, St B σ0 s3 → (∀ mv : MV, ∀ v, mv.Is s2.heap v → mv.Is s3.heap v) → wpAny (model prog B.w) A (storeName env y v2) (fun _ s4 => wpAny (model prog B.w) A (storeName env x v1) (fun _ s5 => Q .next s5) E s4) E s3) E s1) E s) :
    wpAny (model prog B.w) A (exec (.Assign [.Tuple [.Name x px, .Name y py] n1 tp] (.Tuple [e1, e2] n2 vp) pos) env) Q E s := by
  refine Assign_Tuple_swapped (names := [x, y]) ?_ rfl hw
  refine wpAny_Tuple ?_
  rw [h1]
  refine Calls.spliced_cons (wpAny_mono h (fun v1 s1 h1 => Calls.spliced_cons (wpAny_mono h1 (fun v2 s2 h2 => Calls.spliced_nil ⟨by simp [sizeLine], ?_⟩) fun _ _ x => x)) fun _ _ x => x)
  refine x1a2 h2 fun σ0 S2 h2 => ?_
  refine PySem.wpAny_unpackItems_tuple (items := #[v1, v2]) hA.handled ⟨_, Heap.get?_push_size _ rfl, rfl, _, rfl⟩ fun h' he => ?_
  have hsz : s2.heap.objs.size < (s2.heap.push { cls := .type "tuple", data := .seq [v1, v2].toArray }).objs.size := by rw [Heap.size_push]; lia
  have G : ∀ b o, s2.heap.get? b = some o → h'.get? b = some o := fun b o e => he b o (Nat.ne_of_lt (Nat.lt_trans (Heap.lt_size e) hsz)) (Heap.get?_push_of_some _ e)
  have key := h2 _ (S2.grow G s2.toks) (fun mv v hm => hm.extBut (x := s2.heap.objs.size) (fun b o _ e => G b o e) fun cs ⟨vs, n, ho, _⟩ => absurd (Heap.lt_size ho) (Nat.lt_irrefl _))
  show wpAny _ _ (do holding [v1] (bindName env y v2); (do holding [] (bindName env x v1); pure ())) _ _ _
  refine wpAny_bind (wpAny_holding (wpAny_bindName (wpAny_mono key (fun _ s4 h4 => ?_) fun _ _ x => x)))
  exact wpAny_bind (wpAny_holding (wpAny_bindName (wpAny_mono h4 (fun _ s5 h5 => wpAny_pure h5) fun _ _ x => x)))
/- for over a list that the loop leaves alone -/
end
end
section
open Builtin Builtin.Str
noncomputable def find4 (x y : Str) (i j : Nat) : Int := match occurrences x y i (min j x.length) 1 with | k :: _ => (k : Int) | [] => -1
theorem gives_find4 (x y : Str) (i j : Nat) (t u v v' : Tok) (hi : i < 2 ^ 62) (hj : j < 2 ^ 62) : Gives («str.find» ⟨[.str x t, .str y u, .int (i : Int) v, .int (j : Int) v'], []⟩) (.int (find4 x y i j)) := by
  have key : ∀ n : Nat, fromIndex x.length (n : Int) = n := fun n => by unfold fromIndex; rw [if_neg (by lia)]; lia
  show Gives (match occurrences x y (fromIndex x.length (i : Int)) (min (fromIndex x.length (j : Int)) x.length) 1 with | k :: _ => retInt k | [] => (do rule "str.find.not-found"; retInt (-1))) _
  rw [key, key]
  unfold find4
  cases occurrences x y i (min j x.length) 1 with
  | nil => exact .rule (.of_eq rfl)
  | cons k _ => exact .of_eq rfl
theorem occ_first_from (x y : Str) (lo hi limit : Nat) (hl : 1 ≤ limit) :
    (occurrences x y lo hi limit = [] ∧ ∀ i, lo ≤ i → ¬ StrLaws.At x y hi i) ∨
    ∃ i r, occurrences x y lo hi limit = i :: r ∧ lo ≤ i ∧ StrLaws.At x y hi i ∧ ∀ k, lo ≤ k → k < i → ¬ StrLaws.At x y hi k := by
  rw [StrLaws.occ_eq]
  rcases StrLaws.occ_first x y hi limit hl (List.range' lo (hi + 1 - lo)) lo (fun i hi => by have := List.mem_range'_1.mp hi; lia) with ⟨h0, hn⟩ | ⟨pre, a, post, e, h0, ha, hn⟩
  · refine .inl ⟨by rw [h0], fun i hlo hi => ?_⟩
    exact hn i (by have := hi.1; rw [List.mem_range'_1]; lia) hi
  · have hs := StrLaws.range'_split_from e
    refine .inr ⟨a, ((forIn (List.range' lo (hi + 1 - lo)) ((#[] : Array Nat), lo) (StrLaws.occBody x y hi limit)).run.fst.toList).tail, ?_, hs.1, ha, fun k hk0 hk => hn k (hs.2 k hk0 hk)⟩
    generalize (forIn (List.range' lo (hi + 1 - lo)) ((#[] : Array Nat), lo) (StrLaws.occBody x y hi limit)).run.fst = arr at h0
    have h1 : arr.toList[0]? = some a := by simpa using h0
    cases hL : arr.toList with
    | nil => rw [hL] at h1; cases h1
    | cons b t => rw [hL] at h1; simp at h1; rw [h1]; rfl
theorem find4_spec (x y : Str) (i j : Nat) :
    (find4 x y i j = -1 ∧ ∀ k, i ≤ k → ¬ StrLaws.At x y (min j x.length) k) ∨
    ∃ k : Nat, find4 x y i j = k ∧ i ≤ k ∧ StrLaws.At x y (min j x.length) k ∧ ∀ m, i ≤ m → m < k → ¬ StrLaws.At x y (min j x.length) m := by
  unfold find4
  rcases occ_first_from x y i (min j x.length) 1 (Nat.le_refl _) with ⟨h0, h1⟩ | ⟨k, r, h0, h1⟩
  · rw [h0]; exact .inl ⟨rfl, h1⟩
  · rw [h0]; exact .inr ⟨k, rfl, h1⟩
theorem split_two {x y : Str} (hk : Builtin.Str.strKind y = 1) (h : Txt.contains x y = true) : 2 ≤ (Txt.split x y).length := by
  refine x1a2 ((StrLaws.found_iff x y).mp h) fun i h1 h2 => ?_
  have hkx : 1 ≤ Builtin.Str.strKind x := by unfold Builtin.Str.strKind; split; exact Nat.le_refl _; split <;> lia
  unfold Txt.split
  rw [if_neg (by simp; lia)]
  rcases StrLaws.occ_head x y (x.length + 1) (by lia) with ⟨h0, hn⟩ | ⟨a, r, h0, _⟩
  · exact absurd ⟨h1, h2⟩ (hn i)
  · rw [h0]
    simp [partsBetween]
theorem le_sum_of_mem : ∀ {l : List Nat} {x : Nat}, x ∈ l → x ≤ l.sum
  | a :: l, x, h => by
    rw [List.sum_cons]
    rcases List.mem_cons.mp h with rfl | h
    · lia
    · have := le_sum_of_mem h; lia
section
variable {B : Base} {σ σ' : Led} {s : Shared} {prog : Program} {A : Around} {E : Value → Shared → Prop} {env : Env} {ln gn : List Str} {cs : List (Str × Addr)} {k : Nat}
variable {Q : Value → Shared → Prop} {x y : Str} {t u : Tok}
theorem mStr {name : Str} {id : String} {x : Str} {t : Tok} {s : Shared} {P : String → Prop} (slot : Slot "str" name id) (ty : typeOf (.builtin id) = pure (.type "method_descriptor")) (h : P id) :
    ∃ T id, MethodIs T name id ∧ s.TypeIs (.str x t) T ∧ (∀ a, Value.str x t = .ref a → ∃ ob, s.heap.get? a = some ob ∧ ob.dict = none) ∧ P id :=
  ⟨"str", id, ⟨F.plainAttrs_str, slot, ty⟩, typeIs_str _ _ _, (fun _ e => nomatch e), h⟩
theorem mList {name : Str} {id : String} {l : Addr} {xs : List MV} {P : String → Prop} (slot : Slot "list" name id) (ty : typeOf (.builtin id) = pure (.type "method_descriptor")) (S : St B σ s) (hl : (l, VO.list xs) ∈ σ) (h : P id) :
    ∃ T id, MethodIs T name id ∧ s.TypeIs (.ref l) T ∧ (∀ a, Value.ref l = .ref a → ∃ ob, s.heap.get? a = some ob ∧ ob.dict = none) ∧ P id :=
  ⟨"list", id, ⟨F.plainAttrs_list, slot, ty⟩, S.listType hl, S.listNoDict hl, h⟩
theorem strs_all {h : Heap} : ∀ l : List (Str × Tok), AllMV h (l.map fun p => MV.str p.1) (strValues l)
  | [] => .nil
  | p :: r => .cons (c := MV.str p.1) (⟨p.2, rfl⟩ : Sc.Is (.str p.1) _) (strs_all r)
theorem r_split (S : St B σ s) (hy : (y.length == 0) = false) (hx : x.length ≤ 2 ^ 20)
    (h : ∀ D s', St B ((D, .list ((Txt.split x y).map MV.str)) :: σ) s' → Q (.ref D) s') :
    wpAny (model prog B.w) A (call (.builtin "str.split") [.str x t, .str y u]) Q E s := by
  have hsz : x.length ≤ sizeLine := by unfold sizeLine; lia
  have hle := split_le x y
  have hfit : (Txt.split x y).length ≤ sizeLine := by unfold sizeLine; lia
  have fin : ∀ (l : List (Str × Tok)) (k : Nat), s.toks ≤ k → l.map (·.1) = Txt.split x y → Q (.ref s.heap.objs.size) { s with toks := k, heap := s.heap.push { cls := .type "list", data := .seq (strValues l).toArray } }   := fun l k hk e => by
    refine h _ _ (S.push (o := .list _) k ⟨strValues l, 0, Heap.get?_push_size _ rfl, ?_⟩)
    rw [← e, List.map_map]; exact strs_all l
  cases h1 : (decide (x.length < y.length) || decide (strKind x < strKind y))
  · cases hf : (occurrences x y 0 x.length (x.length + 1)).isEmpty
    · have e2 : Txt.split x y = _ := (if_neg (ne_true_of_eq_false h1)).trans (if_neg (ne_true_of_eq_false hf))
      refine call_meets F.slot_str_split (typeIs_str _ _ _) F.entry_str_split (F.args_str_split_2 _ _) (meets_str_split_sep x y t u h1 hy hf hsz ?_) ?_
      · rw [e2] at hfit; simpa using hfit
      · show wants Q E _ { s with toks := _, heap := s.heap.push { cls := .type "list", data := .seq (strsFrom s.toks (partsBetween x (occurrences x y 0 x.length (x.length + 1)) y.length)).toArray } }
        rw [strsFrom_eq]
        exact fin (numbered s.toks _) _ (Nat.le_add_right _ _) ((numbered_texts _ _).trans e2.symm)
    · exact call_meets F.slot_str_split (typeIs_str _ _ _) F.entry_str_split (F.args_str_split_2 _ _) (meets_str_split_not_found x y t u h1 hy hf)
        (fin [(x, t)] s.toks (Nat.le_refl _) ((if_neg (ne_true_of_eq_false h1)).trans (if_pos hf)).symm)
  · exact call_meets F.slot_str_split (typeIs_str _ _ _) F.entry_str_split (F.args_str_split_2 _ _) (meets_str_split_cannot_occur x y t u h1)
      (fin [(x, t)] s.toks (Nat.le_refl _) (if_pos h1).symm)
theorem r_startswith (h : Q (.bool (Txt.startswith x y)) s) : wpAny (model prog B.w) A (call (.builtin "str.startswith") [.str x t, .str y u]) Q E s := SC.startswith h
theorem r_endswith (h : Q (.bool (Txt.endswith x y)) s) : wpAny (model prog B.w) A (call (.builtin "str.endswith") [.str x t, .str y u]) Q E s := SC.endswith h
theorem r_find4 {i j : Nat} {v v' : Tok} (S : St B σ s) (hi : i < 2 ^ 62) (hj : j < 2 ^ 62) (h : ∀ t s', St B σ s' → Q (.int (find4 x y i j) t) s') :
    wpAny (model prog B.w) A (call (.builtin "str.find") [.str x t, .str y u, .int (i : Int) v, .int (j : Int) v']) Q E s :=
  call_gives F.slot_str_find (typeIs_str _ _ _) F.entry_str_find (F.args_str_find_4 _ _ _ _) (gives_find4 x y i j t u v v' hi hj) (h _ _ (S.tok _))
end
end
section
section
variable {B : Base} {σ σ' τ : Led} {s : Shared}
theorem Upd.mid {x : Addr} {o o' : VO} : ∀ {τ σ : Led}, Upd x o o' (τ ++ (x, o) :: σ) (τ ++ (x, o') :: σ)
  | [], _ => .here
  | _ :: _, _ => .there Upd.mid
theorem memMid {x : Addr} {o : VO} {τ σ : Led} : (x, o) ∈ τ ++ (x, o) :: σ := by simp
theorem St.ndMid {x o} (S : St B (τ ++ (x, o) :: σ) s) : (x :: (τ ++ σ).map (·.1)).Nodup := by
  have nd := S.nd
  have : (τ ++ (x, o) :: σ).Perm ((x, o) :: (τ ++ σ)) := List.perm_middle
  exact (this.map (·.1)).nodup_iff.mp nd
theorem St.forget {x o} {h' : Heap} (S : St B (τ ++ (x, o) :: σ) s) (hf : o.fixed = false) (e : Heap.ExtBut x s.heap h') (k : Nat) (hk : s.toks ≤ k := by lia) : St B (τ ++ σ) { s with heap := h', toks := k } := by
  have hm : (x, o) ∈ τ ++ (x, o) :: σ := by simp
  have nt := VO.notTup (S.is _ hm) hf
  have nd := List.nodup_cons.mp S.ndMid
  have sub : ∀ p ∈ τ ++ σ, p ∈ τ ++ (x, o) :: σ := fun p hp => by
    rcases List.mem_append.mp hp with h | h
    · simp [h]
    · simp [h]
  refine ⟨fun b ob hb ht => e b ob (S.neOf hm hb) (S.old b ob hb ht), fun p hp => ?_, fun p hp => S.fresh p (sub p hp), nd.2, S.gens, S.drawn, S.os, Nat.lt_of_lt_of_le S.pos hk⟩
  refine (S.is p (sub p hp)).extBut e (fun q => ?_) nt
  exact nd.1 (q ▸ List.mem_map_of_mem (f := (·.1)) hp)
/-- an iterator's items, and what its own objects look like before item i -/
structure Src (B : Base) (prog : Program) (target : Expr) (I : Addr) (items : List MV) (It : Nat → Led) (C : Led → Prop) : Prop where
  item : ∀ {A : Around} {E : Value → Shared → Prop} {τ σ : Led} {s : Shared} {i : Nat} {mv : MV} {K : Value → Shared → Prop}, A.handled = none → items[i]? = some mv → C (τ ++ σ) → St B (τ ++ (It i ++ σ)) s →
    (∀ v s', mv.Is s'.heap v → St B (τ ++ (It (i + 1) ++ σ)) s' → K v s') →
    wpAny (model prog B.w) A (pyNext (.ref I)) (fun r s1 => ∃ v, r = some v ∧ wpAny (model prog B.w) A (letOwnedTupleGo target (.ref I) v) (fun _ s2 => K v s2) E s1) E s
  done : ∀ {A : Around} {E : Value → Shared → Prop} {τ σ : Led} {s : Shared} {Q : Option Value → Shared → Prop}, A.handled = none → C (τ ++ σ) → St B (τ ++ (It items.length ++ σ)) s →
    (∀ s', St B (τ ++ σ) s' → Q none s') → wpAny (model prog B.w) A (pyNext (.ref I)) Q E s
  self : ∀ {A : Around} {E : Value → Shared → Prop} {τ σ : Led} {s : Shared} {Q : Value → Shared → Prop}, St B (τ ++ (It 0 ++ σ)) s → Q (.ref I) s → wpAny (model prog B.w) A (pyIter (.ref I)) Q E s
variable {prog : Program} {A : Around} {E : Value → Shared → Prop}
theorem letOwned_of {target : Expr} {I : Addr} {v : Value} {o : Obj} {Q : Unit → Shared → Prop} (ho : s.heap.get? I = some o)
    (hn : ∀ n vs a, o.cls = .type n → o.data = .fields vs → (["enumerate", "zip", "dict_itemiterator", "dict_reverseitemiterator", "odict_iterator", "itertools.zip_longest", "itertools.pairwise"].contains n && vs[0]? == some (rawInt a)) = false)
    (h : Q () s) : wpAny (model prog B.w) A (letOwnedTupleGo target (.ref I) v) Q E s := by
  have key : wpAny (model prog B.w) A (do
      let (.ref r, .ref a) := ((.ref I : Value), v) | return
      let o ← load r
      match o.cls, o.data with
      | .type n, .fields vs =>
        if ["enumerate", "zip", "dict_itemiterator", "dict_reverseitemiterator", "odict_iterator", "itertools.zip_longest", "itertools.pairwise"].contains n && vs[0]? == some (rawInt a) then
          rule "for.unpacks-the-owned-tuple"
          updateField r 0 .none
      | _, _ => pure () : Sem Unit) Q E s := by
    cases v <;> try exact wpAny_pure h
    rename_i a
    refine wpAny_bind (wpAny_load ho ?_)
    split
    · rename_i n vs hc hd
      rw [if_neg (by rw [hn n vs _ hc hd]; decide)]
      exact wpAny_pure h
    · exact wpAny_pure h
  cases target <;> first | exact key | exact wpAny_pure h
theorem Src.list {target : Expr} {I l : Addr} {xs : List MV} : Src B prog target I xs (fun i => [(I, .listIter l i)]) (fun σ => (l, VO.list xs) ∈ σ) where
  item := fun {A E τ σ s i mv K} hA hi hl S h => by
    have hl' : (l, VO.list xs) ∈ τ ++ ((I, VO.listIter l i) :: σ) := by
      rcases List.mem_append.mp hl with h | h <;> simp [h]
    have S : St B (τ ++ (I, VO.listIter l i) :: σ) s := S
    refine x2a2 (S.listIs hl') fun vs n hv ha => ?_
    have hit : s.heap.IsListIter I l i := S.at (o := .listIter l i) (by simp)
    have nt : ∀ cs, ¬ TupAt s.heap I cs := VO.notTup (o := .listIter l i) hit rfl
    refine x1a2 (ha.get hi) fun v h1 h2 => ?_
    refine wpAny_pyNext_list_item hit hv.isList (x := v) (by simpa using h1) fun h' hit' hs => ⟨v, rfl, ?_⟩
    have S' := S.upd (o := .listIter l i) (o' := .listIter l (i + 1)) .mid rfl hs.extBut s.toks hit'
    refine x1a3 hit' fun o ho hc hd => ?_; clear hit'
    refine letOwned_of ho (fun n vs a e1 e2 => ?_) (h v _ (h2.extBut hs.extBut nt) S')
    rw [hc] at e1; cases e1; rfl
  done := fun {A E τ σ s Q} hA hl S h => by
    have hl' : (l, VO.list xs) ∈ τ ++ ((I, VO.listIter l xs.length) :: σ) := by
      rcases List.mem_append.mp hl with h | h <;> simp [h]
    have S : St B (τ ++ (I, VO.listIter l xs.length) :: σ) s := S
    refine x2a2 (S.listIs hl') fun vs n hv ha => ?_
    have hit : s.heap.IsListIter I l xs.length := S.at (o := .listIter l xs.length) (by simp)
    refine wpAny_pyNext_list_end hA hit hv.isList (by simp [ha.length]) fun h' he => h _ (S.forget rfl he s.toks)
  self := fun {A E τ σ s Q} S h => by
    have hit : s.heap.IsListIter I l 0 := S.at (o := .listIter l 0) (by simp)
    exact wpAny_pyIter_listiter hit h
theorem Src.range {target : Expr} {I : Addr} {a : Int} {n : Nat} : Src B prog target I ((List.range n).map fun k : Nat => MV.int (a + k)) (fun i => [(I, .rangeIter (a + (i : Nat)) ((n : Int) - (i : Nat)) 1)]) (fun _ => True) where
  item := fun {A E τ σ s i mv K} hA hi _ S h => by
    have hin : i < n := by
      have := (List.getElem?_eq_some_iff.mp hi).1
      simpa using this
    obtain rfl : MV.int (a + i) = mv := by simpa [hin] using hi
    have S : St B (τ ++ (I, VO.rangeIter (a + (i : Nat)) ((n : Int) - (i : Nat)) 1) :: σ) s := S
    have hit : IsRangeIter s.heap I (a + (i : Nat)) ((n : Int) - (i : Nat)) 1 := S.at (o := .rangeIter _ _ _) (by simp)
    refine wpAny_pyNext_range_item hit (by lia) fun h' hit' hs => ⟨_, rfl, ?_⟩
    have e1 : a + (i : Int) + 1 = a + ((i + 1 : Nat) : Int) := by lia
    have e2 : (n : Int) - (i : Int) - 1 = (n : Int) - ((i + 1 : Nat) : Int) := by lia
    rw [e1, e2] at hit'
    have S' := S.upd (o' := .rangeIter (a + ((i + 1 : Nat) : Int)) ((n : Int) - ((i + 1 : Nat) : Int)) 1) .mid rfl hs.extBut (s.toks + 1) hit'
    refine letOwned_of hit' (fun n vs a e1 e2 => ?_) (h _ _ ⟨_, rfl⟩ S')
    cases e1; rfl
  done := fun {A E τ σ s Q} hA _ S h => by
    have S : St B (τ ++ (I, VO.rangeIter (a + (((List.range n).map fun k : Nat => MV.int (a + k)).length : Nat)) ((n : Int) - (((List.range n).map fun k : Nat => MV.int (a + k)).length : Nat)) 1) :: σ) s := S
    have hit : IsRangeIter s.heap I _ _ 1 := S.at (o := .rangeIter _ _ _) memMid
    exact wpAny_pyNext_range_end hA hit (by simp) fun h' he => h _ (S.forget rfl he s.toks)
  self := fun {A E τ σ s Q} S h => by
    have hit : IsRangeIter s.heap I _ _ 1 := S.at (o := .rangeIter (a + ((0 : Nat) : Int)) ((n : Int) - ((0 : Nat) : Int)) 1) memMid
    exact wpAny_pyIter_rangeiter hit h
theorem Src.str {target : Expr} {I : Addr} {cls : String} {x : Str} : Src B prog target I (x.cps.toList.map fun c => MV.str ⟨#[c]⟩) (fun i => [(I, .strIter cls x i)]) (fun _ => True) where
  item := fun {A E τ σ s i mv K} hA hi _ S h => by
    have S : St B (τ ++ (I, VO.strIter cls x i) :: σ) s := S
    refine x0a2 (S.at (o := .strIter cls x i) (by simp) : (cls = "str_ascii_iterator" ∨ cls = "str_iterator") ∧ ∃ t, s.heap.IsStrIter I cls x t i) fun hcl oz11 => ?_; refine x1a1 oz11 fun t hit => ?_; clear oz11
    refine x1a2 (by simpa using hi : ∃ c, x.cps[i]? = some c ∧ MV.str ⟨#[c]⟩ = mv) fun c hc qz512 => ?_; subst qz512
    have fin : ∀ h', h'.IsStrIter I cls x t (i + 1) → Heap.SameBut I s.heap h' → wpAny (model prog B.w) A (letOwnedTupleGo target (.ref I) (.str ⟨#[c]⟩ s.toks)) (fun _ s2 => K (.str ⟨#[c]⟩ s.toks) s2) E { s with heap := h', toks := s.toks + 1 } := fun h' hit' hs => by
      have S' := S.upd (o' := .strIter cls x (i + 1)) .mid rfl hs.extBut (s.toks + 1) ⟨hcl, t, hit'⟩
      refine x1a3 hit' fun o ho hco hd => ?_; clear hit'
      refine letOwned_of ho (fun n vs a e1 e2 => ?_) (h _ _ ⟨_, rfl⟩ S')
      rw [hco] at e1; cases e1
      rcases hcl with rfl | rfl <;> rfl
    rcases hcl with rfl | rfl
    · exact wpAny_pyNext_ascii_item hit hc fun h' hit' hs => ⟨_, rfl, fin h' hit' hs⟩
    · exact wpAny_pyNext_wide_item hit hc fun h' hit' hs => ⟨_, rfl, fin h' hit' hs⟩
  done := fun {A E τ σ s Q} hA _ S h => by
    have S : St B (τ ++ (I, VO.strIter cls x (x.cps.toList.map fun c => MV.str ⟨#[c]⟩).length) :: σ) s := S
    refine x0a2 (S.at (o := .strIter cls x _) memMid : (cls = "str_ascii_iterator" ∨ cls = "str_iterator") ∧ ∃ t, s.heap.IsStrIter I cls x t (x.cps.toList.map fun c => MV.str ⟨#[c]⟩).length) fun hcl oz31 => ?_; refine x1a1 oz31 fun t hit => ?_; clear oz31
    rcases hcl with rfl | rfl
    · exact wpAny_pyNext_ascii_end hA hit (by simp) fun h' he => h _ (S.forget rfl he s.toks)
    · exact wpAny_pyNext_wide_end hA hit (by simp) fun h' he => h _ (S.forget rfl he s.toks)
  self := fun {A E τ σ s Q} S h => by
    refine x0a2 (S.at (o := .strIter cls x 0) (by simp) : (cls = "str_ascii_iterator" ∨ cls = "str_iterator") ∧ ∃ t, s.heap.IsStrIter I cls x t 0) fun hcl oz41 => ?_; refine x1a1 oz41 fun t hit => ?_; clear oz41
    rcases hcl with rfl | rfl
    · exact wpAny_pyIter_striter_ascii hit h
    · exact wpAny_pyIter_striter_wide hit h
theorem i_str {x : Str} {t : Tok} {Q : Value → Shared → Prop} (S : St B σ s) (h : ∀ I cls s', St B ((I, .strIter cls x 0) :: σ) s' → Q (.ref I) s') : wpAny (model prog B.w) A (pyIter (.str x t)) Q E s := by
  cases ha : x.cps.all (· < 128)
  · exact wpAny_pyIter_wide ha (h _ "str_iterator" _ (S.push (o := .strIter _ x 0) s.toks ⟨.inr rfl, t, _, Heap.get?_push_size _ rfl, rfl, rfl⟩))
  · exact wpAny_pyIter_ascii ha (h _ "str_ascii_iterator" _ (S.push (o := .strIter _ x 0) s.toks ⟨.inl rfl, t, _, Heap.get?_push_size _ rfl, rfl, rfl⟩))
theorem i_list {l : Addr} {xs : List MV} {Q : Value → Shared → Prop} (S : St B σ s) (hl : (l, VO.list xs) ∈ σ) (h : ∀ I s', St B ((I, .listIter l 0) :: σ) s' → Q (.ref I) s') : wpAny (model prog B.w) A (pyIter (.ref l)) Q E s := by
  refine x2a2 (S.listIs hl) fun vs n hv ha => ?_
  exact wpAny_pyIter_list hv.isList (h _ _ (S.push (o := .listIter l 0) s.toks ⟨_, Heap.get?_push_size _ rfl, rfl, rfl⟩))
/-- range(n), range(a, b) made -/
theorem r_range1 {n : Int} {t : Tok} {Q : Value → Shared → Prop} (S : St B σ s) (h : ∀ r s' t u v, IsRange s'.heap r 0 n 1 t u v → St B σ s' → Q (.ref r) s') : wpAny (model prog B.w) A (call (.type "range") [.int n t]) Q E s :=
  call_range_1 (h _ _ _ _ _ (Heap.get?_push_size _ rfl) (S.grow (fun b o e => Heap.get?_push_of_some _ e) _))
theorem r_range2 {a b : Int} {t u : Tok} {Q : Value → Shared → Prop} (S : St B σ s) (h : ∀ r s' t u v, IsRange s'.heap r a b 1 t u v → St B σ s' → Q (.ref r) s') : wpAny (model prog B.w) A (call (.type "range") [.int a t, .int b u]) Q E s :=
  call_range_2 (h _ _ _ _ _ (Heap.get?_push_size _ rfl) (S.grow (fun b o e => Heap.get?_push_of_some _ e) _))
theorem i_range {r : Addr} {a b : Int} {t u v : Tok} {n : Nat} {Q : Value → Shared → Prop} (S : St B σ s) (hr : IsRange s.heap r a b 1 t u v) (hn : b = a + n) (ha : -(2 ^ 62) ≤ a) (hb : a + n < 2 ^ 62)
    (h : ∀ I s', St B ((I, .rangeIter (a + (0 : Nat)) ((n : Int) - (0 : Nat)) 1) :: σ) s' → Q (.ref I) s') : wpAny (model prog B.w) A (pyIter (.ref r)) Q E s := by
  subst hn
  refine wpAny_pyIter_range hr (small_one ha (by lia) (by lia) (by omega)) (h _ _ (S.push (o := .rangeIter _ _ 1) s.toks ?_))
  have e : Builtin.Range.rangeSize a (a + n) 1 = n := by rw [rangeSize_one]; split <;> lia
  rw [e]
  show IsRangeIter _ _ _ _ _
  rw [show a + ((0 : Nat) : Int) = a by simp, show (n : Int) - ((0 : Nat) : Int) = n by simp]
  exact Heap.get?_push_size _ rfl
/- the loop -/
theorem r_forLoop {target : Expr} {body orelse : List Stmt} {env : Env} {I : Addr} {items : List MV} {It : Nat → Led} {Cnd : Led → Prop} {R : Result → Shared → Prop} (W : Src B prog target I items It Cnd) (P : Nat → Led → Prop) (hA : A.handled = none)
    (hC : ∀ i σ, P i σ → Cnd σ)
    (turn : ∀ i σ s mv v, items[i]? = some mv → P i σ → St B (It (i + 1) ++ σ) s → mv.Is s.heap v → ∀ N : Value → Shared → Prop,
      wpAny (model prog B.w) A (assign target env v) (fun _ s₂ => wpAny (model prog B.w) A (execs body env) (fun f s₃ => match f with
        | .next | .cont => ∃ σ', P (i + 1) σ' ∧ St B (It (i + 1) ++ σ') s₃
        | .brk => R (.ok .next) s₃
        | .ret v => R (.ok (.ret v)) s₃) N s₂) N s)
    (done : ∀ σ s, P items.length σ → St B σ s → ∀ N : Value → Shared → Prop, wpAny (model prog B.w) A (execs orelse env) (fun f s₃ => R (.ok f) s₃) N s)
    {σ : Led} {s : Shared} (hP : P 0 σ) (S : St B (It 0 ++ σ) s) :
    codeAny (model prog B.w) A (.forLoop target (.ref I) body orelse env) R s := by
  refine codeAny_forLoop_any (fun n s => ∃ i σ, n = items.length - i ∧ i ≤ items.length ∧ P i σ ∧ St B (It i ++ σ) s) (fun n s hI => ?_) (items.length - 0) ⟨0, σ, rfl, Nat.zero_le _, hP, S⟩
  refine x2a4 hI fun i σ qz1012 hi hP S => ?_; clear hI; subst qz1012
  by_cases hlt : i < items.length
  · refine x1a1 (⟨_, List.getElem?_eq_getElem hlt⟩ : ∃ mv, items[i]? = some mv) fun mv hmv => ?_
    refine wpAny_mono (W.item (τ := []) (K := fun v s' => wpAny (model prog B.w) A (assign target env v) (fun _ s₂ => wpAny (model prog B.w) A (execs body env) (fun f s₃ => match f with
        | .next | .cont => ∃ m, m < items.length - i ∧ ∃ i σ, m = items.length - i ∧ i ≤ items.length ∧ P i σ ∧ St B (It i ++ σ) s₃
        | .brk => R (.ok .next) s₃
        | .ret v => R (.ok (.ret v)) s₃) (notedBy (model prog B.w) A env fun e s' => R (.error e) s') s₂) (notedBy (model prog B.w) A env fun e s' => R (.error e) s') s') hA hmv (hC i σ hP) S fun v s' hv S' => ?_) (fun r s1 h1 => ?_) fun _ _ x => x
    · refine wpAny_mono (turn i σ s' mv v hmv hP S' hv _) (fun _ s₂ h₂ => wpAny_mono h₂ (fun f s₃ h₃ => ?_) fun _ _ x => x) fun _ _ x => x
      cases f with
      | next => refine x1a2 h₃ fun σ' p q => ?_; clear h₃; exact k1a2 _ (by omega) (k2a4 (i + 1) σ' rfl hlt p q)
      | cont => refine x1a2 h₃ fun σ' p q => ?_; clear h₃; exact k1a2 _ (by omega) (k2a4 (i + 1) σ' rfl hlt p q)
      | brk => exact h₃
      | ret v => exact h₃
    · obtain ⟨v, rfl, h1⟩ := h1
      exact h1
  · have hi' : i = items.length := by lia
    subst hi'
    exact W.done (τ := []) hA (hC _ σ hP) S fun s' S' => done σ s' hP S' _
/- the comprehension -/
theorem compLoop_any {R : Result → Shared → Prop} {elt target iter : Expr} {ifs : List Expr} {scope : Scope} {pos : Pos} {it acc : Value} {env : Env} (I : Nat → Shared → Prop)
    (turn : ∀ n s, I n s → wpAny (model prog B.w) A (pyNext it) (fun r s₁ => match r with
      | none => R (.ok .next) s₁
      | some v => wpAny (model prog B.w) A (letOwnedTupleGo target it v) (fun _ s₁' => wpAny (model prog B.w) A (assign target env v) (fun _ s₂ =>
          wpAny (model prog B.w) A (forIn ifs true fun c r => if r = true then do let ok ← isTrue c env (eval c env); pure (ForInStep.yield ok) else pure (ForInStep.yield r)) (fun ok s₃ =>
            if ok = true then wpAny (model prog B.w) A (eval elt env) (fun x s₄ =>
              wpAny (model prog B.w) A (call (.builtin "list.append") [acc, x]) (fun _ s₅ => ∃ m, m < n ∧ I m s₅) (notedBy (model prog B.w) A env fun e s' => R (.error e) s') s₄) (notedBy (model prog B.w) A env fun e s' => R (.error e) s') s₃
            else ∃ m, m < n ∧ I m s₃) (notedBy (model prog B.w) A env fun e s' => R (.error e) s') s₂) (notedBy (model prog B.w) A env fun e s' => R (.error e) s') s₁') (notedBy (model prog B.w) A env fun e s' => R (.error e) s') s₁) (notedBy (model prog B.w) A env fun e s' => R (.error e) s') s)
    (n : Nat) (h : I n s) :
    codeAny (model prog B.w) A (.compLoop (.ListComp elt [⟨target, iter, ifs, 0⟩] scope pos) 0 it acc env) R s := by
  refine codeAny_loop rfl I (fun n s hI => ?_) n h
  show wpAny _ A ((compTurn (.ListComp elt [⟨target, iter, ifs, 0⟩] scope pos) 0 it acc env).onRaise (fun x => do noteFrame x env; theTreesLotGoes x)) _ _ s
  refine wpAny_noted ?_
  rw [compTurn_list]
  refine wpAny_bind (wpAny_standAt (wpAny_bind (wpAny_mono (turn n s hI) (fun r s₁ h₁ => ?_) fun _ _ h' => h')))
  cases r with
  | none => exact wpAny_pure h₁
  | some v =>
    refine wpAny_bind (wpAny_mono h₁ (fun _ s₁' h₁ => ?_) fun _ _ h' => h')
    refine wpAny_bind (wpAny_mono h₁ (fun _ s₂ h₂ => wpAny_bind (wpAny_mono h₂ (fun ok s₃ h₃ => ?_) fun _ _ h' => h')) fun _ _ h' => h')
    cases ok with
    | false => exact wpAny_pure ⟨rfl, h₃⟩
    | true =>
      exact wpAny_bind (wpAny_bind (wpAny_mono h₃ (fun x s₄ h₄ => wpAny_bind (wpAny_mono h₄ (fun _ s₅ h₅ => wpAny_pure (wpAny_pure ⟨rfl, h₅⟩)) fun _ _ h' => h')) fun _ _ h' => h'))
theorem St.weakNs {C : Addr} {m m' : List (Str × Option MV)} (S : St B (τ ++ (C, .ns m) :: σ) s) (hk : m'.map (·.1) = m.map (·.1)) (hn : ∀ p ∈ m', p.2 = none) : St B (τ ++ (C, .ns m') :: σ) s := by
  refine x1a3 (S.at (o := .ns m) (by simp) : NsIs s.heap C m) fun f n nd _ => ?_
  exact S.upd (o' := .ns m') .mid rfl (fun _ _ _ e => e) s.toks ⟨f, n, by rw [hk]; exact nd, fun p hp mv e => by rw [hn p hp] at e; cases e⟩
theorem AllMV.snoc {h : Heap} {x : MV} {v : Value} : ∀ {xs vs}, AllMV h xs vs → x.Is h v → AllMV h (xs ++ [x]) (vs ++ [v])
  | _, _, .nil, hx => .cons hx .nil
  | _, _, .cons h r, hx => .cons h (r.snoc hx)
theorem r_append_mid {D : Addr} {xs : List MV} {x : MV} {v : Value} {Q : Value → Shared → Prop} (S : St B (τ ++ (D, .list xs) :: σ) s) (hx : x.Is s.heap v) (hsz : xs.length ≤ sizeLine) (h : ∀ s', St B (τ ++ (D, .list (xs ++ [x])) :: σ) s' → Q .none s') :
    wpAny (model prog B.w) A (call (.builtin "list.append") [.ref D, v]) Q E s := by
  refine x2a2 (S.listIs (l := D) (xs := xs) (by simp)) fun vs n hv ha => ?_
  have nt : ∀ cs, ¬ TupAt s.heap D cs := VO.notTup (o := .list xs) ⟨vs, n, hv, ha⟩ rfl
  refine wpAny_list_append_plain (items := vs.toArray) ⟨n, hv⟩ (fun h' hl hs => ?_) (by simpa [ha.length] using hsz)
  refine x1a1 hl fun n' hl => ?_
  exact h _ (S.upd (o' := .list (xs ++ [x])) .mid rfl hs.extBut s.toks ⟨vs ++ [v], n', by simpa using hl, (ha.snoc hx).extBut hs.extBut nt⟩)
noncomputable def noneNs (ln : List Str) : List (Str × Option MV) := ln.map fun x => (x, none)
theorem noneNs_keys (ln : List Str) : (noneNs ln).map (·.1) = ln := by unfold noneNs; rw [List.map_map]; simp [Function.comp_def]
theorem noneNs_none (ln : List Str) : ∀ p ∈ noneNs ln, p.2 = none := by intro p hp; refine x1a2 (List.mem_map.mp hp) fun x _ qz1812 => ?_; subst qz1812; rfl
theorem r_compLoop {R : Result → Shared → Prop} {elt target iter : Expr} {ifs : List Expr} {scope : Scope} {pos : Pos} {cenv : Env} {I C D : Addr} {items : List MV} {It : Nat → Led} {Cnd : Led → Prop} {ln : List Str}
    (W : Src B prog target I items It Cnd) (P : Nat → List MV → Led → Prop) (hA : A.handled = none) (hsz : items.length ≤ sizeLine)
    (hC : ∀ i acc σ, P i acc σ → Cnd ([(C, .ns (noneNs ln)), (D, .list acc)] ++ σ))
    (turn : ∀ i mv acc σ s v, items[i]? = some mv → P i acc σ → St B ((C, .ns (noneNs ln)) :: (D, .list acc) :: (It (i + 1) ++ σ)) s → mv.Is s.heap v → ∀ N : Value → Shared → Prop,
      wpAny (model prog B.w) A (assign target cenv v) (fun _ s₂ => wpAny (model prog B.w) A (forIn ifs true fun c r => if r = true then do let ok ← isTrue c cenv (eval c cenv); pure (ForInStep.yield ok) else pure (ForInStep.yield r)) (fun ok s₃ =>
        if ok = true then wpAny (model prog B.w) A (eval elt cenv) (fun y s₄ => ∃ mvy m' σ', P (i + 1) (acc ++ [mvy]) σ' ∧ mvy.Is s₄.heap y ∧ m'.map (·.1) = ln ∧ St B ((C, .ns m') :: (D, .list acc) :: (It (i + 1) ++ σ')) s₄) N s₃
        else ∃ m' σ', P (i + 1) acc σ' ∧ m'.map (·.1) = ln ∧ St B ((C, .ns m') :: (D, .list acc) :: (It (i + 1) ++ σ')) s₃) N s₂) N s)
    (done : ∀ acc σ s, P items.length acc σ → St B ((C, .ns (noneNs ln)) :: (D, .list acc) :: σ) s → R (.ok .next) s)
    {σ : Led} {s : Shared} (hP : P 0 [] σ) (S : St B ((C, .ns (noneNs ln)) :: (D, .list []) :: (It 0 ++ σ)) s) :
    codeAny (model prog B.w) A (.compLoop (.ListComp elt [⟨target, iter, ifs, 0⟩] scope pos) 0 (.ref I) (.ref D) cenv) R s := by
  refine compLoop_any (fun n s => ∃ i acc σ, n = items.length - i ∧ i ≤ items.length ∧ acc.length ≤ i ∧ P i acc σ ∧ St B ((C, .ns (noneNs ln)) :: (D, .list acc) :: (It i ++ σ)) s) (fun n s hI => ?_) (items.length - 0) ⟨0, [], σ, rfl, Nat.zero_le _, Nat.zero_le _, hP, S⟩
  refine x3a5 hI fun i acc σ qz1913 hi hac hP S => ?_; clear hI; subst qz1913
  by_cases hlt : i < items.length
  · refine x1a1 (⟨_, List.getElem?_eq_getElem hlt⟩ : ∃ mv, items[i]? = some mv) fun mv hmv => ?_
    refine wpAny_mono (W.item (τ := [(C, .ns (noneNs ln)), (D, .list acc)]) (K := fun v s' => wpAny (model prog B.w) A (assign target cenv v) (fun _ s₂ => wpAny (model prog B.w) A (forIn ifs true fun c r => if r = true then do let ok ← isTrue c cenv (eval c cenv); pure (ForInStep.yield ok) else pure (ForInStep.yield r)) (fun ok s₃ =>
        if ok = true then wpAny (model prog B.w) A (eval elt cenv) (fun x s₄ =>
              wpAny (model prog B.w) A (call (.builtin "list.append") [.ref D, x]) (fun _ s₅ => ∃ m, m < items.length - i ∧ ∃ i acc σ, m = items.length - i ∧ i ≤ items.length ∧ acc.length ≤ i ∧ P i acc σ ∧ St B ((C, .ns (noneNs ln)) :: (D, .list acc) :: (It i ++ σ)) s₅) (notedBy (model prog B.w) A cenv fun e s' => R (.error e) s') s₄) (notedBy (model prog B.w) A cenv fun e s' => R (.error e) s') s₃
        else ∃ m, m < items.length - i ∧ ∃ i acc σ, m = items.length - i ∧ i ≤ items.length ∧ acc.length ≤ i ∧ P i acc σ ∧ St B ((C, .ns (noneNs ln)) :: (D, .list acc) :: (It i ++ σ)) s₃) (notedBy (model prog B.w) A cenv fun e s' => R (.error e) s') s₂) (notedBy (model prog B.w) A cenv fun e s' => R (.error e) s') s') hA hmv (hC i acc σ hP) S fun v s' hv S' => ?_) (fun r s1 h1 => ?_) fun _ _ x => x
    · refine wpAny_mono (turn i mv acc σ s' v hmv hP S' hv _) (fun _ s₂ h₂ => wpAny_mono h₂ (fun ok s₃ h₃ => ?_) fun _ _ x => x) fun _ _ x => x
      cases ok with
      | false =>
        rw [if_neg (by decide)] at h₃ ⊢
        refine x2a3 h₃ fun m' σ' p hk S₃ => ?_; clear h₃
        exact k1a2 _ (by grind) (k3a5 (i + 1) acc σ' rfl hlt (by lia) p (St.weakNs (τ := []) S₃ (by rw [noneNs_keys, hk]) (noneNs_none ln)))
      | true =>
        rw [if_pos rfl] at h₃ ⊢
        refine wpAny_mono h₃ (fun y s₄ h₄ => ?_) fun _ _ x => x
        refine x3a4 h₄ fun mvy m' σ' p hy hk S₄ => ?_; clear h₄
        refine r_append_mid (τ := [(C, .ns m')]) S₄ hy (by lia) fun s₅ S₅ => ?_
        exact k1a2 _ (by grind) (k3a5 (i + 1) (acc ++ [mvy]) σ' rfl hlt (by simp; omega) p (St.weakNs (τ := []) S₅ (by rw [noneNs_keys, hk]) (noneNs_none ln)))
    · obtain ⟨v, rfl, h1⟩ := h1
      exact h1
  · have hi' : i = items.length := by lia
    subst hi'
    exact wpAny_mono (W.done (Q := fun r s' => r = none ∧ R (.ok .next) s') (τ := [(C, .ns (noneNs ln)), (D, .list acc)]) hA (hC _ _ σ hP) S fun s' S' => ⟨rfl, done acc σ s' hP S'⟩) (fun r s1 h1 => by obtain ⟨rfl, h1⟩ := h1; exact h1) fun _ _ x => x
end
end
section
theorem lookup_relabel_ne {env : Env} {k : NameKind} (hk : k ≠ .free) : ∀ {names : List (Str × NameKind)} {x : Str}, names.lookup x = some k →
    (names.map fun (n, k) => if (k == NameKind.free && env.scope.kind == .function && env.kindOf n == some .cell) then (n, NameKind.cell) else (n, k)).lookup x = some k
  | [], x, h => by simp at h
  | (n, k') :: r, x, h => by
    have ih := @lookup_relabel_ne env k hk r x
    show List.lookup x ((if (k' == NameKind.free && env.scope.kind == .function && env.kindOf n == some .cell) = true then (n, NameKind.cell) else (n, k')) :: _) = _
    cases hx : x == n with
    | true =>
      simp only [List.lookup_cons, hx] at h
      cases h
      rw [if_neg (by simp [hk])]
      simp [List.lookup_cons, hx]
    | false =>
      simp only [List.lookup_cons, hx] at h
      split <;> (simp only [List.lookup_cons, hx]; exact ih h)
theorem lookup_relabel_free {env : Env} : ∀ {names : List (Str × NameKind)} {x : Str}, names.lookup x = some .free →
    let r := (names.map fun (n, k) => if (k == NameKind.free && env.scope.kind == .function && env.kindOf n == some .cell) then (n, NameKind.cell) else (n, k)).lookup x
    r = some .cell ∨ r = some .free
  | [], x, h => by simp at h
  | (n, k') :: r, x, h => by
    have ih := @lookup_relabel_free env r x
    show List.lookup x ((if (k' == NameKind.free && env.scope.kind == .function && env.kindOf n == some .cell) = true then (n, NameKind.cell) else (n, k')) :: _) = _ ∨ List.lookup x ((if (k' == NameKind.free && env.scope.kind == .function && env.kindOf n == some .cell) = true then (n, NameKind.cell) else (n, k')) :: _) = _
    cases hx : x == n with
    | true =>
      simp only [List.lookup_cons, hx] at h
      cases h
      split <;> simp [List.lookup_cons, hx]
    | false =>
      simp only [List.lookup_cons, hx] at h
      split <;> (simp only [List.lookup_cons, hx]; exact ih h)
/-- what is asked of a comprehension's scope -/
structure ScopeOk (scope : Scope) (ln fv gn : List Str) : Prop where
  kind : scope.kind = .function
  nocell : ∀ x ∈ scope.names, x.2 ≠ .cell
  names : ∀ x ∈ scope.names, x.2 = .local → scope.names.lookup x.1 = some .local
  loc : ∀ x ∈ ln, scope.names.lookup x = some .local
  free : ∀ x ∈ fv, scope.names.lookup x = some .free
  glob : ∀ x ∈ gn, scope.names.lookup x = some .globalImplicit
  nodebug : ∀ x ∈ ln ++ fv ++ gn, (x == ("__debug__" : Str)) = false
  nocd : ∀ x ∈ fv, (x == ("__classdict__" : Str)) = false
  nd : ln.Nodup
section
variable {B : Base} {σ σ' τ : Led} {s : Shared} {prog : Program} {A : Around} {E : Value → Shared → Prop} {env : Env} {ln ln' gn gn' : List Str} {cs cs' : List (Str × Addr)}
theorem ScopeOk.envOk {scope : Scope} {cl : List (Str × Addr)} {C : Addr} (h : ScopeOk scope ln' (cs'.map (·.1)) gn') (hE : EnvOk env ln cs gn) (hcl : ∀ p ∈ cs', cl.lookup p.1 = some p.2) : EnvOk (compEnvC scope cl C env) ln' cs' gn' where
  kind := h.kind
  globals := hE.globals
  builtins := hE.builtins
  loc := fun x hx => lookup_relabel_ne (by decide) (h.loc x hx)
  cell := fun p hp => ⟨lookup_relabel_free (h.free p.1 (List.mem_map_of_mem (f := (·.1)) hp)), hcl p hp⟩
  glob := fun x hx => lookup_relabel_ne (by decide) (h.glob x hx)
  nodebug := h.nodebug
  nocd := fun p hp => h.nocd p.1 (List.mem_map_of_mem (f := (·.1)) hp)
/-- what is to be shown once the iterator of a comprehension is made -/
noncomputable def CompPack (B : Base) (prog : Program) (A : Around) (E : Value → Shared → Prop) (target : Expr) (ifs : List Expr) (elt : Expr) (ln' : List Str) (cs' : List (Str × Addr)) (gn' : List Str) (env : Env) (scope : Scope) (cl : List (Str × Addr))
    (fin : Addr → Addr → List MV → Led → Shared → Prop) (it : Value) (s : Shared) : Prop :=
  ∃ (I : Addr) (items : List MV) (It : Nat → Led) (Cnd : Led → Prop) (P : Nat → List MV → Led → Prop) (σ : Led), it = .ref I ∧ Src B prog target I items It Cnd ∧ items.length ≤ sizeLine ∧ A.handled = none ∧
    (∀ C D i acc σ, P i acc σ → Cnd ([(C, .ns (noneNs ln')), (D, .list acc)] ++ σ)) ∧ St B (It 0 ++ σ) s ∧ P 0 [] σ ∧
    (∀ C D cenv, EnvOk cenv ln' cs' gn' → cenv = compEnvC scope cl C env → ∀ i mv acc σ s v, items[i]? = some mv → P i acc σ → St B ((cenv.locals, .ns (noneNs ln')) :: (D, .list acc) :: (It (i + 1) ++ σ)) s → mv.Is s.heap v → ∀ N : Value → Shared → Prop,
      wpAny (model prog B.w) A (assign target cenv v) (fun _ s₂ => wpAny (model prog B.w) A (forIn ifs true fun c r => if r = true then do let ok ← isTrue c cenv (eval c cenv); pure (ForInStep.yield ok) else pure (ForInStep.yield r)) (fun ok s₃ =>
        if ok = true then wpAny (model prog B.w) A (eval elt cenv) (fun y s₄ => ∃ mvy m' σ', P (i + 1) (acc ++ [mvy]) σ' ∧ mvy.Is s₄.heap y ∧ m'.map (·.1) = ln' ∧ St B ((cenv.locals, .ns m') :: (D, .list acc) :: (It (i + 1) ++ σ')) s₄) N s₃
        else ∃ m' σ', P (i + 1) acc σ' ∧ m'.map (·.1) = ln' ∧ St B ((cenv.locals, .ns m') :: (D, .list acc) :: (It (i + 1) ++ σ')) s₃) N s₂) N s) ∧
    (∀ C D acc σ s, P items.length acc σ → St B ((C, .ns (noneNs ln')) :: (D, .list acc) :: σ) s → fin C D acc σ s)
theorem r_comp_core {elt target iter : Expr} {ifs : List Expr} {scope : Scope} {pos pos' : Pos} {first : Sem Value} {use : Option (Value → Sem Unit)} {cl : List (Str × Addr)} {Q : Value → Shared → Prop}
    (hE : EnvOk env ln cs gn) (hsc : ScopeOk scope ln' (cs'.map (·.1)) gn') (hclos : closureFor scope env = pure cl) (hcl : ∀ p ∈ cs', cl.lookup p.1 = some p.2)
    (hs : ∀ x, foldedSetIterable iter env x = pure x)
    (h : wpAny (model prog B.w) A first (fun x s₁ => wpAny (model prog B.w) A (pyIter x) (CompPack B prog A E target ifs elt ln' cs' gn' env scope cl (fun C D acc σ s => match use with
      | none => ∀ s', St B ((D, .list acc) :: σ) s' → Q (.ref D) s'
      | some u => wpAny (model prog B.w) A (u (.ref D)) (fun _ s'' => ∃ m' σ'', St B ((C, .ns m') :: σ'') s'' ∧ ∀ s''', St B σ'' s''' → Q .none s''') E s)) E s₁) E s) :
    wpAny (model prog B.w) A (comprehension (.ListComp elt [⟨target, iter, ifs, 0⟩] scope pos) scope env pos' (newList []) false first use) Q E s := by
  refine wpAny_comprehension_free rfl hs hclos hsc.kind hsc.names (wpAny_mono h (fun x s₁ h₁ => wpAny_mono h₁ (fun it s₂ h₂ => ?_) fun _ _ x => x) fun _ _ x => x)
  refine x6a9 h₂ fun I items It Cnd P σ qz016 W hsz hA hC S hP turn fin => ?_; clear h₂; subst qz016
  refine wpAny_newObj_type (wpAny_newFunctionEnv hsc.nocell (by intro y hy; simp at hy) (fun h₁ hns₁ hsb₁ => ?_) hsc.kind)
  have S1 : St B ((s₂.heap.objs.size, .list []) :: (It 0 ++ σ)) { s₂ with heap := s₂.heap.push { cls := .type "list", dict := none, data := .seq ([] : List Value).toArray } } := S.push (o := .list []) s₂.toks ⟨[], 0, Heap.get?_push_size _ rfl, .nil⟩
  dsimp only at hns₁ hsb₁ ⊢
  generalize hD : s₂.heap.objs.size = D at S1 ⊢
  generalize hH : s₂.heap.push { cls := .type "list", dict := none, data := .seq ([] : List Value).toArray } = H at hns₁ hsb₁ S1 ⊢
  have G : ∀ b o, H.get? b = some o → h₁.get? b = some o := fun b o e => hsb₁.extBut b o (Nat.ne_of_lt (Heap.lt_size e)) (Heap.get?_push_of_some _ e)
  have hCn : H.get? H.objs.size = none := by
    cases q : H.get? H.objs.size with
    | none => rfl
    | some o => exact absurd (Heap.lt_size q) (Nat.lt_irrefl _)
  have S2 : St B ((H.objs.size, .ns (noneNs ln')) :: (s₂.heap.objs.size, .list []) :: (It 0 ++ σ)) { s₂ with heap := h₁, toks := s₂.toks + ([] : List (Str × Value)).length } :=
    hD ▸ S1.new (a := H.objs.size) (o := .ns (noneNs ln')) G _ hCn S1.newAddr ⟨_, hns₁, by rw [noneNs_keys]; exact hsc.nd, fun p hp mv e => by rw [noneNs_none ln' p hp] at e; cases e⟩ (Nat.le_add_right _ _)
  rw [hD] at S2
  have loop : codeAny (model prog B.w) A (.compLoop (.ListComp elt [⟨target, iter, ifs, 0⟩] scope pos) 0 (.ref I) (.ref D) (compEnvC scope cl H.objs.size env)) (compPost (model prog B.w) A E use Q (.ref D) H.objs.size)
      { s₂ with heap := h₁, toks := s₂.toks + ([] : List (Str × Value)).length } := by
    refine r_compLoop (C := H.objs.size) (ln := ln') W P hA hsz (hC _ _) (turn _ D _ (hsc.envOk hE hcl) rfl) (fun acc σ s hP S => ?_) hP S2
    have key := fin _ D acc σ s hP S
    cases use with
    | none =>
      refine x1a3 (S.at (o := .ns _) (.head _) : NsIs s.heap H.objs.size (noneNs ln')) fun f n _ _ => ?_
      exact k1a2 f n (fun h' hs => key _ (St.forget (τ := []) S rfl hs.extBut s.toks))
    | some u =>
      refine wpAny_mono (h := key) (fun _ s'' hq => ?_) fun _ _ x => x
      refine x2a2 hq fun m' σ'' S' hq => ?_
      refine x1a3 (S'.at (o := .ns _) (.head _) : NsIs s''.heap H.objs.size m') fun f n _ _ => ?_
      exact k1a2 f n (fun h' hs => hq _ (St.forget (τ := []) S' rfl hs.extBut s''.toks))
  exact codeAny_compStart_list loop (W.self (τ := [(H.objs.size, .ns (noneNs ln')), (D, .list [])]) S2 loop)
theorem r_comp {elt target iter : Expr} {ifs : List Expr} {scope : Scope} {pos : Pos} {cl : List (Str × Addr)} {Q : Value → Shared → Prop}
    (hE : EnvOk env ln cs gn) (hsc : ScopeOk scope ln' (cs'.map (·.1)) gn') (hclos : closureFor scope env = pure cl) (hcl : ∀ p ∈ cs', cl.lookup p.1 = some p.2)
    (hs : ∀ x, foldedSetIterable iter env x = pure x)
    (h : wpAny (model prog B.w) A (eval iter env) (fun x s₁ => wpAny (model prog B.w) A (pyIter x) (CompPack B prog A E target ifs elt ln' cs' gn' env scope cl (fun _ D acc σ _ => ∀ s', St B ((D, .list acc) :: σ) s' → Q (.ref D) s')) E s₁) E s) :
    wpAny (model prog B.w) A (eval (.ListComp elt [⟨target, iter, ifs, 0⟩] scope pos) env) Q E s := by
  rw [eval_ListComp]
  exact r_comp_core (use := none) hE hsc hclos hcl hs h
theorem r_comp_assign {elt target iter : Expr} {ifs : List Expr} {scope : Scope} {pos spos py : Pos} {y : Str} {cl : List (Str × Addr)} {Q : Flow → Shared → Prop}
    (hsw : swapsWith (.ListComp elt [⟨target, iter, ifs, 0⟩] scope pos) (some (.Name y py)) spos.line env = pure true)
    (hE : EnvOk env ln cs gn) (hsc : ScopeOk scope ln' (cs'.map (·.1)) gn') (hclos : closureFor scope env = pure cl) (hcl : ∀ p ∈ cs', cl.lookup p.1 = some p.2)
    (hs : ∀ x, foldedSetIterable iter env x = pure x)
    (h : wpAny (model prog B.w) A (eval iter env) (fun x s₁ => wpAny (model prog B.w) A (pyIter x) (CompPack B prog A E target ifs elt ln' cs' gn' env scope cl (fun C D _ _ s => 
        wpAny (model prog B.w) A (storeName env y (.ref D)) (fun _ s'' => ∃ m' σ'', St B ((C, .ns m') :: σ'') s'' ∧ ∀ s''', St B σ'' s''' → Q .next s''') E s)) E s₁) E s) :
    wpAny (model prog B.w) A (exec (.Assign [.Name y py] (.ListComp elt [⟨target, iter, ifs, 0⟩] scope pos) spos) env) Q E s := by
  rw [exec_Assign_Name_used _ _ _ _ hsw]
  refine wpAny_bind (wpAny_standAt (wpAny_bind ?_))
  show wpAny _ A (do let _ ← comprehension (.ListComp elt [⟨target, iter, ifs, 0⟩] scope pos) scope env _ (newList []) false (eval iter env) (some (assign (.Name y py) env))) _ _ s
  refine wpAny_bind (wpAny_mono (r_comp_core (use := some (assign (.Name y py) env)) (Q := fun _ s' => Q .next s') hE hsc hclos hcl hs
    (wpAny_mono h (fun xv s₁ h₁ => wpAny_mono h₁ (fun it s₂ h₂ => ?_) fun _ _ e => e) fun _ _ e => e)) (fun _ s' hq => wpAny_pure (wpAny_pure hq)) fun _ _ e => e)
  refine x6a9 h₂ fun I items It Cnd P σ h1 h2 h3 h4 h5 h6 h7 h8 h9 => ?_; clear h₂
  exact k6a9 I items It Cnd P σ h1 h2 h3 h4 h5 h6 h7 h8 (fun C D acc σ s hP S => wpAny_assign_Name (h9 C D acc σ s hP S))
theorem take_filterMap {α β : Type} (g : α → Option β) {xs : List α} {i : Nat} {x : α} (h : xs[i]? = some x) : (xs.take (i + 1)).filterMap g = (xs.take i).filterMap g ++ (g x).toList := by
  rw [List.take_add_one, h, List.filterMap_append]
  cases q : g x <;> simp [q]
/-- a comprehension whose turns change nothing -/
theorem CompPack.plain {target elt : Expr} {ifs : List Expr} {scope : Scope} {cl : List (Str × Addr)} {fin : Addr → Addr → List MV → Led → Shared → Prop} {I : Addr} {It : Nat → Led} {Cnd : Led → Prop} {α : Type} (xs : List α) (emb : α → MV) (g : α → Option MV)
    (W : Src B prog target I (xs.map emb) It Cnd) (hC : ∀ τ, Cnd (τ ++ σ)) (hA : A.handled = none) (hsz : xs.length ≤ sizeLine) (S : St B (It 0 ++ σ) s)
    (turn : ∀ C D cenv, EnvOk cenv ln' cs' gn' → cenv = compEnvC scope cl C env → ∀ (i : Nat) (x : α) (acc : List MV) (s : Shared) (v : Value), xs[i]? = some x → St B ((cenv.locals, .ns (noneNs ln')) :: (D, .list acc) :: (It (i + 1) ++ σ)) s → (emb x).Is s.heap v → ∀ N : Value → Shared → Prop,
      wpAny (model prog B.w) A (assign target cenv v) (fun _ s₂ => wpAny (model prog B.w) A (forIn ifs true fun c r => if r = true then do let ok ← isTrue c cenv (eval c cenv); pure (ForInStep.yield ok) else pure (ForInStep.yield r)) (fun ok s₃ =>
        if ok = true then wpAny (model prog B.w) A (eval elt cenv) (fun y s₄ => ∃ mvy m', g x = some mvy ∧ mvy.Is s₄.heap y ∧ m'.map (·.1) = ln' ∧ St B ((cenv.locals, .ns m') :: (D, .list acc) :: (It (i + 1) ++ σ)) s₄) N s₃
        else g x = none ∧ ∃ m', m'.map (·.1) = ln' ∧ St B ((cenv.locals, .ns m') :: (D, .list acc) :: (It (i + 1) ++ σ)) s₃) N s₂) N s)
    (done : ∀ C D s, St B ((C, .ns (noneNs ln')) :: (D, .list (xs.filterMap g)) :: σ) s → fin C D (xs.filterMap g) σ s) :
    CompPack B prog A E target ifs elt ln' cs' gn' env scope cl fin (.ref I) s := by
  refine ⟨I, xs.map emb, It, Cnd, fun i acc σ' => σ' = σ ∧ acc = (xs.take i).filterMap g, σ, rfl, W, by simpa using hsz, hA, ?_, S, ⟨rfl, rfl⟩, ?_, ?_⟩
  · rintro C D i acc σ' ⟨rfl, _⟩; exact hC _
  · rintro C D cenv hE' hc i mv acc σ' s v hi or1
    refine x0a2 or1 fun qz510 qz511 => ?_; clear or1; subst qz510; subst qz511
    rintro S hv N
    refine x1a2 (by simpa using hi : ∃ x, xs[i]? = some x ∧ emb x = mv) fun x hx qz612 => ?_; subst qz612
    refine wpAny_mono (turn C D cenv hE' hc i x _ s v hx S hv N) (fun _ s₂ h₂ => wpAny_mono h₂ (fun ok s₃ h₃ => ?_) fun _ _ x => x) fun _ _ x => x
    cases ok with
    | false =>
      rw [if_neg (by decide)] at h₃ ⊢
      refine x0a2 h₃ fun hg oz71 => ?_; clear h₃; refine x1a2 oz71 fun m' hk S' => ?_; clear oz71
      exact k2a3 m' _ ⟨rfl, by rw [take_filterMap g hx, hg]; simp⟩ hk S'
    | true =>
      rw [if_pos rfl] at h₃ ⊢
      refine wpAny_mono h₃ (fun y s₄ h₄ => ?_) fun _ _ x => x
      refine x2a4 h₄ fun mvy m' hg hy hk S' => ?_; clear h₄
      exact k3a4 mvy m' _ ⟨rfl, by rw [take_filterMap g hx, hg]; simp⟩ hy hk S'
  · rintro C D acc σ' s or2
    refine x0a2 or2 fun qz910 qz911 => ?_; clear or2; subst qz910; subst qz911
    rintro S
    simp only [List.length_map, List.take_length] at S ⊢
    exact done C D s S
theorem CompPack.of_list {target elt : Expr} {ifs : List Expr} {scope : Scope} {cl : List (Str × Addr)} {fin : Addr → Addr → List MV → Led → Shared → Prop} {I : Addr} {l : Addr} {items : List MV} {α : Type} (xs : List α) (emb : α → MV) (g : α → Option MV)
    (S : St B ((I, .listIter l 0) :: σ) s) (hl : (l, VO.list items) ∈ σ) (hit : items = xs.map emb) (hA : A.handled = none) (hsz : xs.length ≤ sizeLine)
    (turn : ∀ C D cenv, EnvOk cenv ln' cs' gn' → cenv = compEnvC scope cl C env → ∀ (i : Nat) (x : α) (acc : List MV) (s : Shared) (v : Value), xs[i]? = some x → St B ((cenv.locals, .ns (noneNs ln')) :: (D, .list acc) :: (I, .listIter l (i + 1)) :: σ) s → (emb x).Is s.heap v → ∀ N : Value → Shared → Prop,
      wpAny (model prog B.w) A (assign target cenv v) (fun _ s₂ => wpAny (model prog B.w) A (forIn ifs true fun c r => if r = true then do let ok ← isTrue c cenv (eval c cenv); pure (ForInStep.yield ok) else pure (ForInStep.yield r)) (fun ok s₃ =>
        if ok = true then wpAny (model prog B.w) A (eval elt cenv) (fun y s₄ => ∃ mvy m', g x = some mvy ∧ mvy.Is s₄.heap y ∧ m'.map (·.1) = ln' ∧ St B ((cenv.locals, .ns m') :: (D, .list acc) :: (I, .listIter l (i + 1)) :: σ) s₄) N s₃
        else g x = none ∧ ∃ m', m'.map (·.1) = ln' ∧ St B ((cenv.locals, .ns m') :: (D, .list acc) :: (I, .listIter l (i + 1)) :: σ) s₃) N s₂) N s)
    (done : ∀ C D s, St B ((C, .ns (noneNs ln')) :: (D, .list (xs.filterMap g)) :: σ) s → fin C D (xs.filterMap g) σ s) :
    CompPack B prog A E target ifs elt ln' cs' gn' env scope cl fin (.ref I) s :=
  CompPack.plain xs (emb) g Src.list (fun τ => by subst hit; exact List.mem_append_right _ hl) hA hsz S turn done
theorem CompPack.of_range {target elt : Expr} {ifs : List Expr} {scope : Scope} {cl : List (Str × Addr)} {fin : Addr → Addr → List MV → Led → Shared → Prop} {I : Addr} {a : Int} {n : Nat} (g : Nat → Option MV)
    (S : St B ((I, .rangeIter (a + (0 : Nat)) ((n : Int) - (0 : Nat)) 1) :: σ) s)  (hA : A.handled = none) (hsz : n ≤ sizeLine)
    (turn : ∀ C D cenv, EnvOk cenv ln' cs' gn' → cenv = compEnvC scope cl C env → ∀ (i x : Nat) (acc : List MV) (s : Shared) (v : Value), x = i → i < n → St B ((cenv.locals, .ns (noneNs ln')) :: (D, .list acc) :: (I, .rangeIter (a + ((i + 1 : Nat) : Int)) ((n : Int) - ((i + 1 : Nat) : Int)) 1) :: σ) s → (MV.int (a + (x : Nat))).Is s.heap v → ∀ N : Value → Shared → Prop,
      wpAny (model prog B.w) A (assign target cenv v) (fun _ s₂ => wpAny (model prog B.w) A (forIn ifs true fun c r => if r = true then do let ok ← isTrue c cenv (eval c cenv); pure (ForInStep.yield ok) else pure (ForInStep.yield r)) (fun ok s₃ =>
        if ok = true then wpAny (model prog B.w) A (eval elt cenv) (fun y s₄ => ∃ mvy m', g x = some mvy ∧ mvy.Is s₄.heap y ∧ m'.map (·.1) = ln' ∧ St B ((cenv.locals, .ns m') :: (D, .list acc) :: (I, .rangeIter (a + ((i + 1 : Nat) : Int)) ((n : Int) - ((i + 1 : Nat) : Int)) 1) :: σ) s₄) N s₃
        else g x = none ∧ ∃ m', m'.map (·.1) = ln' ∧ St B ((cenv.locals, .ns m') :: (D, .list acc) :: (I, .rangeIter (a + ((i + 1 : Nat) : Int)) ((n : Int) - ((i + 1 : Nat) : Int)) 1) :: σ) s₃) N s₂) N s)
    (done : ∀ C D s, St B ((C, .ns (noneNs ln')) :: (D, .list ((List.range n).filterMap g)) :: σ) s → fin C D ((List.range n).filterMap g) σ s) :
    CompPack B prog A E target ifs elt ln' cs' gn' env scope cl fin (.ref I) s :=
  CompPack.plain (List.range n) (fun k : Nat => MV.int (a + k)) g Src.range (fun _ => trivial) hA (by simpa using hsz) S (fun C D cenv h1 h2 i x acc s v hx => by
    have hi : i < n := by simpa using (List.getElem?_eq_some_iff.mp hx).1
    obtain rfl : x = i := by simpa [hi] using hx.symm
    exact turn C D cenv h1 h2 x x acc s v rfl hi) done
theorem CompPack.of_str {target elt : Expr} {ifs : List Expr} {scope : Scope} {cl : List (Str × Addr)} {fin : Addr → Addr → List MV → Led → Shared → Prop} {I : Addr} {cls : String} {z : Str} (g : Nat → Option MV)
    (S : St B ((I, .strIter cls z 0) :: σ) s)  (hA : A.handled = none) (hsz : z.length ≤ sizeLine)
    (turn : ∀ C D cenv, EnvOk cenv ln' cs' gn' → cenv = compEnvC scope cl C env → ∀ (i x : Nat) (acc : List MV) (s : Shared) (v : Value), z.cps[i]? = some x → St B ((cenv.locals, .ns (noneNs ln')) :: (D, .list acc) :: (I, .strIter cls z (i + 1)) :: σ) s → (MV.str ⟨#[x]⟩).Is s.heap v → ∀ N : Value → Shared → Prop,
      wpAny (model prog B.w) A (assign target cenv v) (fun _ s₂ => wpAny (model prog B.w) A (forIn ifs true fun c r => if r = true then do let ok ← isTrue c cenv (eval c cenv); pure (ForInStep.yield ok) else pure (ForInStep.yield r)) (fun ok s₃ =>
        if ok = true then wpAny (model prog B.w) A (eval elt cenv) (fun y s₄ => ∃ mvy m', g x = some mvy ∧ mvy.Is s₄.heap y ∧ m'.map (·.1) = ln' ∧ St B ((cenv.locals, .ns m') :: (D, .list acc) :: (I, .strIter cls z (i + 1)) :: σ) s₄) N s₃
        else g x = none ∧ ∃ m', m'.map (·.1) = ln' ∧ St B ((cenv.locals, .ns m') :: (D, .list acc) :: (I, .strIter cls z (i + 1)) :: σ) s₃) N s₂) N s)
    (done : ∀ C D s, St B ((C, .ns (noneNs ln')) :: (D, .list (z.cps.toList.filterMap g)) :: σ) s → fin C D (z.cps.toList.filterMap g) σ s) :
    CompPack B prog A E target ifs elt ln' cs' gn' env scope cl fin (.ref I) s :=
  CompPack.plain z.cps.toList (fun c => MV.str ⟨#[c]⟩) g Src.str (fun _ => trivial) hA (by simpa [Str.length] using hsz) S (fun C D cenv h1 h2 i x acc s v hx => turn C D cenv h1 h2 i x acc s v (by simpa using hx)) done
end
end
section
theorem log2_le {a n : Nat} (h : a < 2 ^ (n + 1)) : a.log2 ≤ n := by
  rcases Nat.eq_zero_or_pos a with rfl | h0
  · simp
  · have := (Nat.log2_lt (Nat.pos_iff_ne_zero.mp h0)).mpr h; lia
theorem intBits_le {a : Int} {n : Nat} (h : a.natAbs < 2 ^ (n + 1)) : Builtin.Int.intBits a ≤ n + 1 := by
  unfold Builtin.Int.intBits
  split
  · lia
  · have := log2_le h; lia
theorem byPylong {a b : Int} (h : b.natAbs < 2 ^ 64) : Builtin.divisionGoesByPylong a b = false := by
  have hl := log2_le (n := 63) h
  unfold Builtin.divisionGoesByPylong
  rw [Bool.and_eq_false_iff]
  left
  refine decide_eq_false ?_
  dsimp only
  split <;> lia
section
variable {B : Base} {σ σ' : Led} {s : Shared} {prog : Program} {A : Around} {E : Value → Shared → Prop} {env : Env} {ln gn : List Str} {cs : List (Str × Addr)} {k : Nat}
variable {Q : Value → Shared → Prop}
/-- a rule of the library that tells no more of the counter than that it is one -/
theorem St.via {c : Sem Value} {x : Str} (S : St B σ s) (h : ∀ t s', St B σ s' → Q (.str x t) s')
    (hc : ∀ Q : Value → Shared → Prop, (∀ t k, Q (.str x t) { s with toks := k }) → wpAny (model prog B.w) A c Q E s) : wpAny (model prog B.w) A c Q E s :=
  wpAny_mono (wpAny_toks_of (n := s.toks) (Nat.le_refl _) (hc (fun v s' => ∃ t k, v = .str x t ∧ s' = { s with toks := k }) fun t k => ⟨t, k, rfl, rfl⟩))
    (fun v s' h' => by refine x0a2 h' fun hk oz01 => ?_; clear h'; refine x2a2 oz01 fun t k qz022 qz023 => ?_; clear oz01; subst qz022; subst qz023; exact h t _ (S.tok k hk)) fun _ _ x => x.2
/- ints -/
theorem r_mod {a b : Int} {t u : Tok} (S : St B σ s) (hb : 0 < b) (h : ∀ t s', St B σ s' → Q (.int (a % b) t) s') : wpAny (model prog B.w) A (binaryOp .Mod (.int a t) (.int b u)) Q E s := by
  refine PyProof.Rows.mod_int' (by lia) ?_
  rw [Int.fmod_eq_emod_of_nonneg _ (by lia)]; exact h _ _ (S.tok _)
theorem r_fdiv {a b : Int} {t u : Tok} (S : St B σ s) (hb : 0 < b) (hs : b.natAbs < 2 ^ 64) (h : ∀ t s', St B σ s' → Q (.int (a / b) t) s') : wpAny (model prog B.w) A (binaryOp .FloorDiv (.int a t) (.int b u)) Q E s := by
  refine floordiv_int (by lia) ?_ (.inl (byPylong hs))
  rw [Int.fdiv_eq_ediv_of_nonneg _ (by lia)]; exact h _ _ (S.tok _)
theorem r_mul {a b : Int} {t u : Tok} (S : St B σ s) (hs : a.natAbs < 2 ^ 64) (h : ∀ t s', St B σ s' → Q (.int (a * b) t) s') : wpAny (model prog B.w) A (binaryOp .Mult (.int a t) (.int b u)) Q E s := mul_int (h _ _ (S.tok _)) (IntMulOk.of_left (intBits_le (n := 63) hs))
theorem r_pow {a b : Int} {n : Nat} {t u : Tok} (S : St B σ s) (hn : b = n) (hs : a.natAbs < 2 ^ 64) (hn' : n < 2 ^ 10) (h : ∀ t s', St B σ s' → Q (.int (a ^ n) t) s') : wpAny (model prog B.w) A (binaryOp .Pow (.int a t) (.int b u)) Q E s := by
  subst hn
  by_cases h0 : n = 0
  · subst h0; refine AutoIntOps.pow_0 (by simp) (by simp) ?_; have := h s.toks _ (S.tok (s.toks + 1)); rw [Int.pow_zero] at this; exact this
  have hb : ¬ (((n : Nat) : Int) == 0) = true := by simpa using h0
  by_cases h1 : (a == 0 || a == 1) = true
  · refine AutoIntOps.pow_1 (by lia) hb h1 ?_
    have e : a ^ n = a := by
      simp only [Bool.or_eq_true, beq_iff_eq] at h1
      rcases h1 with rfl | rfl
      · exact Int.zero_pow h0
      · exact Int.one_pow
    have := h s.toks _ (S.tok (s.toks + 1))
    rw [e] at this; exact this
  by_cases h2 : (a == -1) = true
  · refine AutoIntOps.pow_2 (by lia) hb h1 h2 ?_
    have e : (if ((n : Int) % 2 == 0) = true then (1 : Int) else -1) = a ^ n := by
      rw [beq_iff_eq.mp h2]
      by_cases hp : n % 2 = 0
      · have hz : ((n : Int) % 2 == 0) = true := by simp; lia
        rw [if_pos hz]
        refine x1a1 (⟨n / 2, by lia⟩ : ∃ m, n = 2 * m) fun m qz111 => ?_; subst qz111
        rw [Int.pow_mul]; exact Int.one_pow.symm
      · have hz : ¬ ((n : Int) % 2 == 0) = true := by simp; lia
        rw [if_neg hz]
        refine x1a1 (⟨n / 2, by lia⟩ : ∃ m, n = 2 * m + 1) fun m qz211 => ?_; subst qz211
        rw [Int.pow_succ, Int.pow_mul]
        have : ((-1 : Int) ^ 2) ^ m = 1 := Int.one_pow
        rw [this]; rfl
    rw [e]
    exact h s.toks _ (S.tok (s.toks + 1))
  · refine AutoIntOps.pow_4 (by lia) hb h1 h2 ?_ (h _ _ (S.tok _))
    have hbits := intBits_le (n := 63) hs
    unfold Builtin.Int.intTooBig
    have : ((Builtin.Int.intBits a : Nat) : Int) * (n : Int) ≤ 64 * 1024 := by
      have h1 : Builtin.Int.intBits a * n ≤ 64 * 1024 := Nat.mul_le_mul hbits (by lia)
      exact_mod_cast h1
    simp only [decide_eq_true_eq]
    have hbl : (65536 : Int) ≤ bitsLine := by decide +kernel
    lia
theorem r_lshift {a b : Int} {n : Nat} {t u : Tok} (S : St B σ s) (hn : b = n) (hs : a.natAbs < 2 ^ 64) (hn' : n < 2 ^ 10) (h : ∀ t s', St B σ s' → Q (.int (a * 2 ^ n) t) s') : wpAny (model prog B.w) A (binaryOp .LShift (.int a t) (.int b u)) Q E s := by
  subst hn
  exact lshift_int_small (by lia) (by lia) hs (h _ _ (S.tok _))
theorem r_ilshift {a b : Int} {n : Nat} {t u : Tok} (S : St B σ s) (hn : b = n) (hs : a.natAbs < 2 ^ 64) (hn' : n < 2 ^ 10) (h : ∀ t s', St B σ s' → Q (.int (a * 2 ^ n) t) s') : wpAny (model prog B.w) A (inplaceOp .LShift (.int a t) (.int b u)) Q E s := by
  subst hn
  exact ilshift_int_small (by lia) (by lia) hs (h _ _ (S.tok _))
theorem r_and {a b : Int} {t u : Tok} (S : St B σ s) (h : ∀ t s', St B σ s' → Q (.int (Builtin.bitAnd a b) t) s') : wpAny (model prog B.w) A (binaryOp .BitAnd (.int a t) (.int b u)) Q E s := PyProof.Rows.and_int (h _ _ (S.tok _))
theorem r_ixor {a b : Int} {t u : Tok} (S : St B σ s) (h : ∀ t s', St B σ s' → Q (.int (Builtin.bitXor a b) t) s') : wpAny (model prog B.w) A (inplaceOp .BitXor (.int a t) (.int b u)) Q E s := PyProof.Rows.ixor_int (h _ _ (S.tok _))
theorem r_ior {a b : Int} {t u : Tok} (S : St B σ s) (h : ∀ t s', St B σ s' → Q (.int (Builtin.bitOr a b) t) s') : wpAny (model prog B.w) A (inplaceOp .BitOr (.int a t) (.int b u)) Q E s := PyProof.Rows.ior_int (h _ _ (S.tok _))
theorem bitAnd_nat (a b : Nat) : Builtin.bitAnd (a : Int) (b : Int) = ((a &&& b : Nat) : Int) := by
  unfold Builtin.bitAnd
  have h1 : decide (0 ≤ (a : Int)) = true := by simp
  have h2 : decide (0 ≤ (b : Int)) = true := by simp
  rw [h1, h2]; rfl
/- strs -/
theorem r_sadd {x y : Str} {t u : Tok} (S : St B σ s) (hz : x.length + y.length ≤ sizeLine) (h : ∀ t s', St B σ s' → Q (.str (x ++ y) t) s') : wpAny (model prog B.w) A (binaryOp .Add (.str x t) (.str y u)) Q E s := by
  refine PySem.P.add_str ?_
  by_cases h1 : (x.length == 0) = true
  · rw [if_pos h1]; have := h u s S; rw [Str.append_left_empty h1] at this; exact this
  rw [if_neg h1]
  by_cases h2 : (y.length == 0) = true
  · rw [if_pos h2]; have := h t s S; rw [Str.append_right_empty h2] at this; exact this
  rw [if_neg h2]
  refine ⟨?_, h _ _ (S.tok _)⟩
  show (x.cps ++ y.cps).size ≤ sizeLine
  rw [Array.size_append]; exact hz
theorem r_siadd {x y : Str} {t u : Tok} (S : St B σ s) (hz : x.length + y.length ≤ sizeLine) (h : ∀ t s', St B σ s' → Q (.str (x ++ y) t) s') : wpAny (model prog B.w) A (inplaceOp .Add (.str x t) (.str y u)) Q E s := by
  refine PySem.P.iadd_str ?_
  by_cases h1 : (x.length == 0) = true
  · rw [if_pos h1]; have := h u s S; rw [Str.append_left_empty h1] at this; exact this
  rw [if_neg h1]
  by_cases h2 : (y.length == 0) = true
  · rw [if_pos h2]; have := h t s S; rw [Str.append_right_empty h2] at this; exact this
  rw [if_neg h2]
  refine ⟨?_, h _ _ (S.tok _)⟩
  show (x.cps ++ y.cps).size ≤ sizeLine
  rw [Array.size_append]; exact hz
theorem r_chr {i : Int} {t : Tok} (S : St B σ s) (hi : 0 ≤ i ∧ i ≤ 1114111) (h : ∀ t s', St B σ s' → Q (.str ⟨#[i.toNat]⟩ t) s') : wpAny (model prog B.w) A (call (.builtin "chr") [.int i t]) Q E s :=
  PySem.P.chr_of_int (by simp; omega) (h _ _ (S.tok _))
theorem r_ord {c : Nat} {t : Tok} (S : St B σ s) (h : ∀ t s', St B σ s' → Q (.int c t) s') : wpAny (model prog B.w) A (call (.builtin "ord") [.str ⟨#[c]⟩ t]) Q E s :=
  PySem.P.ord_of_char (h _ _ (S.tok _))
theorem r_hex {i : Int} {t : Tok} (S : St B σ s) (hz : (baseText "0x" 16 i).length ≤ sizeLine) (h : ∀ t s', St B σ s' → Q (.str (baseText "0x" 16 i) t) s') : wpAny (model prog B.w) A (call (.builtin "hex") [.int i t]) Q E s :=
  PySem.P.hex_of_int (h _ _ (S.tok _)) hz
theorem r_scount {x y : Str} {t u : Tok} (S : St B σ s) (h : ∀ t s', St B σ s' → Q (.int ((Builtin.Str.occurrences x y 0 x.length (x.length + 1)).length : Nat) t) s') : wpAny (model prog B.w) A (call (.builtin "str.count") [.str x t, .str y u]) Q E s :=
  call_gives F.slot_str_count (typeIs_str _ _ _) F.entry_str_count (F.args_str_count_2 _ _) (gives_str_count x y t u) (h _ _ (S.tok _))
theorem r_rindex {x y : Str} {t u : Tok} {i : Nat} (S : St B σ s) (hi : Builtin.Str.lastOccurrence x y 0 x.length = some i) (h : ∀ t s', St B σ s' → Q (.int (i : Nat) t) s') : wpAny (model prog B.w) A (call (.builtin "str.rindex") [.str x t, .str y u]) Q E s :=
  call_gives F.slot_str_rindex (typeIs_str _ _ _) F.entry_str_rindex (F.args_str_rindex_2 _ _) (gives_str_rindex x y t u i hi) (h _ _ (S.tok _))
/-- x.replace(y, z), y and z written out -/
theorem r_replace {o : Expr} {apos pos py pz : Pos} {y z : Str} {ky kz : Nat} 
    (hbase : attributeBase o "replace" env (eval o env) = eval o env)
    (hline : (apos.endLine == pos.line) = true) (hyz : (y == z) = false)
    (h : wpAny (model prog B.w) A (eval o env) (fun ov s₁ => ∃ x t σ', ov = .str x t ∧ St B σ' s₁ ∧ x.length + (x.length + 1) * z.length ≤ 16777216 ∧ ∀ t s', St B σ' s' → Q (.str (Txt.replace x y z) t) s') E s) :
    wpAny (model prog B.w) A (eval (.Call (.Attribute o "replace" apos) [.Constant (.str y) ky py, .Constant (.str z) kz pz] [] pos) env) Q E s := by
  refine r_method hbase rfl rfl hline (wpAny_mono h (fun ov s₁ h₁ => ?_) fun _ _ x => x)
  refine x3a4 h₁ fun x t σ' qz313 S hsz hq => ?_; clear h₁; subst qz313
  refine mStr F.slot_str_replace F.type_str_replace ?_
  refine Calls.spliced_cons (wpAny_Constant_str (k := ky) (pos := py) ?_)
  refine Calls.spliced_cons (wpAny_Constant_str (k := kz) (pos := pz) ?_)
  refine Calls.spliced_nil ?_
  have hp := S.pos
  refine St.via (S.tok (s₁.toks + 1 + 1) (by show s₁.toks ≤ s₁.toks + 1 + 1; lia)) hq fun Q' hQ' => ?_
  exact SC.replace (Nat.pos_iff_ne_zero.mp hp) (Nat.succ_ne_zero _) (Nat.ne_of_lt (Nat.lt_succ_self _)) hyz hsz hQ'
theorem r_getc {x : Str} {t u : Tok} {i : Int} {c : Nat} (S : St B σ s) (hi : i.natAbs < 2 ^ 62) (hx : ((seqIndex? i x.length).bind fun j => x.cps[j]?) = some c) (h : ∀ t s', St B σ s' → Q (.str ⟨#[c]⟩ t) s') :
    wpAny (model prog B.w) A (getItem (.str x t) (.int i u)) Q E s :=
  PySem.P.getItem_str (by simp; omega) hx (h _ _ (S.tok _))
end
end
section
theorem AllMV.append {h : Heap} {xs ys : List MV} {vs ws : List Value} (a : AllMV h xs vs) (b : AllMV h ys ws) : AllMV h (xs ++ ys) (vs ++ ws) := by
  induction a with
  | nil => exact b
  | cons h1 _ ih => exact .cons h1 ih
theorem AllMV.strs {h : Heap} : ∀ {xs : List Str} {vs : List Value}, AllMV h (xs.map MV.str) vs → ∃ l : List (Str × Tok), l.map (·.1) = xs ∧ vs = strValues l
  | [], _, .nil => ⟨[], rfl, rfl⟩
  | x :: xs, _, .cons (v := v) hc hr => by
    refine x1a1 hc fun t qz011 => ?_; clear hc; subst qz011
    refine x1a2 (AllMV.strs hr) fun l h1 h2 => ?_
    exact k1a2 ((x, t) :: l) (by simp [h1]) (by rw [h2]; rfl)
theorem AllMV.ints {h : Heap} : ∀ {xs : List Int} {vs : List Value}, AllMV h (xs.map MV.int) vs → IntsAre vs xs
  | [], _, .nil => .nil
  | x :: xs, _, .cons (v := v) hc hr => by
    refine x1a1 hc fun t qz111 => ?_; clear hc; subst qz111
    exact .cons x t (AllMV.ints hr)
theorem AllMV.strsAre {h : Heap} : ∀ {xs : List Str} {vs : List Value}, AllMV h (xs.map MV.str) vs → StrsAre vs xs
  | [], _, .nil => .nil
  | x :: xs, _, .cons (v := v) hc hr => by
    refine x1a1 hc fun t qz211 => ?_; clear hc; subst qz211
    exact .cons x t (AllMV.strsAre hr)
theorem AllMV.take {h : Heap} : ∀ {xs : List MV} {vs : List Value} (n : Nat), AllMV h xs vs → AllMV h (xs.take n) (vs.take n)
  | _, _, _, .nil => by simpa using AllMV.nil
  | _, _, 0, .cons _ _ => by simpa using AllMV.nil
  | _, _, n + 1, .cons hc hr => by simpa using AllMV.cons hc (AllMV.take n hr)
theorem AllMV.drop {h : Heap} : ∀ {xs : List MV} {vs : List Value} (n : Nat), AllMV h xs vs → AllMV h (xs.drop n) (vs.drop n)
  | _, _, _, .nil => by simpa using AllMV.nil
  | _, _, 0, .cons hc hr => by simpa using AllMV.cons hc hr
  | _, _, n + 1, .cons hc hr => by simpa using AllMV.drop n hr
/-- what a slice of a list picks -/
noncomputable def PickIs (xs : List MV) (lo hi : Option Int) (ys : List MV) : Prop := ∀ h vs, AllMV h xs vs → ∃ ws, slicePick vs.toArray lo hi none = ws.toArray ∧ AllMV h ys ws
theorem PickIs.from {xs : List MV} (a : Nat) : PickIs xs (some (a : Int)) none (xs.drop a) := fun _ vs h => ⟨vs.drop a, by rw [slicePick_from'], h.drop a⟩
theorem PickIs.upto {xs : List MV} (b : Nat) : PickIs xs none (some (b : Int)) (xs.take b) := fun _ vs h => ⟨vs.take b, by rw [slicePick_upto'], h.take b⟩
theorem PickIs.run {xs : List MV} {a b : Nat} (hab : a ≤ b) (hb : b ≤ xs.length) : PickIs xs (some (a : Int)) (some (b : Int)) ((xs.drop a).take (b - a)) := fun _ vs h =>
  ⟨(vs.drop a).take (b - a), by rw [slicePick_run vs.toArray a b (by simpa [h.length] using hb) hab], (h.drop a).take _⟩
section
variable {B : Base} {σ σ' : Led} {s : Shared} {prog : Program} {A : Around} {E : Value → Shared → Prop} {env : Env} {ln gn : List Str} {cs : List (Str × Addr)} {k : Nat}
variable {Q : Value → Shared → Prop}
/-- a rule of the library that keeps the heap's objects and tells no more of the counter -/
theorem St.viaH {α : Type} {P : α → Prop} {Q : α → Shared → Prop} {c : Sem α} (S : St B σ s) (h : ∀ v s', P v → St B σ s' → Q v s')
    (hc : ∀ Q : α → Shared → Prop, (∀ v h' k, P v → (∀ b o, s.heap.get? b = some o → h'.get? b = some o) → Q v { s with heap := h', toks := k }) → wpAny (model prog B.w) A c Q E s) : wpAny (model prog B.w) A c Q E s :=
  wpAny_mono (wpAny_toks_of (n := s.toks) (Nat.le_refl _) (hc (fun v s' => ∃ h' k, P v ∧ (∀ b o, s.heap.get? b = some o → h'.get? b = some o) ∧ s' = { s with heap := h', toks := k }) fun v h' k p g => ⟨h', k, p, g, rfl⟩))
    (fun v s' h' => by refine x0a2 h' fun hk oz41 => ?_; clear h'; refine x2a3 oz41 fun h' k p g qz424 => ?_; clear oz41; subst qz424; exact h v _ p (S.grow g k hk)) fun _ _ x => x.2
theorem r_slice_list {value : Expr} {lower upper : Option Expr} {p pos : Pos}
    (h : wpAny (model prog B.w) A (eval value env) (fun o s₁ => wpAny (model prog B.w) A (evalPart lower env) (fun vl s₂ => wpAny (model prog B.w) A (evalPart upper env) (fun vu s₃ =>
      ∃ l σ xs lo hi ys, o = .ref l ∧ St B σ s₃ ∧ (l, VO.list xs) ∈ σ ∧ xs.length ≤ sizeLine ∧ IsPart vl lo ∧ IsPart vu hi ∧ PickIs xs lo hi ys ∧ ∀ D s', St B ((D, .list ys) :: σ) s' → Q (.ref D) s') E s₂) E s₁) E s)
    (ht : ∀ o r, letTemporaryGo value o r = pure ()) :
    wpAny (model prog B.w) A (eval (.Subscript value (.Slice lower upper none p) pos) env) Q E s := by
  refine wpAny_Subscript_list_slice (wpAny_mono h (fun o s₁ h₁ => wpAny_mono h₁ (fun vl s₂ h₂ => wpAny_mono h₂ (fun vu s₃ h₃ => ?_) fun _ _ x => x) fun _ _ x => x) fun _ _ x => x) ht
  refine x6a8 h₃ fun l σ xs lo hi ys qz516 S hl hsz pl pu pk hq => ?_; clear h₃; subst qz516
  refine x2a2 (S.listIs hl) fun vs n hv ha => ?_
  refine x1a2 (pk _ _ ha) fun ws e hw => ?_
  refine k4a6 l vs.toArray lo hi rfl hv.isList (by simpa [ha.length] using hsz) pl pu ?_
  have S1 := S.grow (h' := s₃.heap.push { cls := .type "slice", data := .fields #[vl, vu, .none] }) (fun b o e => Heap.get?_push_of_some _ e) s₃.toks
  have hsz1 : (s₃.heap.push { cls := .type "slice", data := .fields #[vl, vu, .none] }).objs.size = s₃.heap.objs.size + 1 := Heap.size_push ..
  rw [e]
  have h2 : AllMV ((s₃.heap.push { cls := .type "slice", data := .fields #[vl, vu, .none] }).push { cls := .type "list", data := .seq ws.toArray }) ys ws := by
    have e : Heap.ExtBut s₃.heap.objs.size s₃.heap ((s₃.heap.push { cls := .type "slice", data := .fields #[vl, vu, .none] }).push { cls := .type "list", data := .seq ws.toArray }) := fun b o _ e => Heap.get?_push_of_some _ (Heap.get?_push_of_some _ e)
    exact hw.extBut e fun cs ⟨_, _, ho, _⟩ => absurd (Heap.lt_size ho) (Nat.lt_irrefl _)
  have key := S1.push (ob := { cls := .type "list", data := .seq ws.toArray }) (o := .list ys) s₃.toks ⟨ws, 0, Heap.get?_push_size _ rfl, h2⟩ (Nat.le_refl _)
  have fin := hq _ _ key
  rw [show ({ s₃ with heap := s₃.heap.push { cls := .type "slice", data := .fields #[vl, vu, .none] }, toks := s₃.toks } : Shared).heap.objs.size = s₃.heap.objs.size + 1 from hsz1] at fin
  exact fin
theorem slice_intro {l : Addr} {σ : Led} {s : Shared} {xs ys : List MV} {lo hi : Option Int} {vl vu : Value} {K : Addr → Shared → Prop} (q_S : St B σ s) (q_m : (l, VO.list xs) ∈ σ) (q_z : xs.length ≤ sizeLine) (q_l : IsPart vl lo) (q_u : IsPart vu hi) (q_p : PickIs xs lo hi ys)
    (h : ∀ D s', St B ((D, .list ys) :: σ) s' → K D s') : ∃ l' σ xs lo hi ys, Value.ref l = .ref l' ∧ St B σ s ∧ (l', VO.list xs) ∈ σ ∧ xs.length ≤ sizeLine ∧ IsPart vl lo ∧ IsPart vu hi ∧ PickIs xs lo hi ys ∧ ∀ D s', St B ((D, .list ys) :: σ) s' → K D s' :=
  ⟨l, σ, xs, lo, hi, ys, rfl, q_S, q_m, q_z, q_l, q_u, q_p, h⟩
/- lists -/
theorem r_lappend {l : Addr} {xs : List MV} {x : MV} {v : Value} (S : St B σ s) (hx : x.Is s.heap v) (u : Upd l (.list xs) (.list (xs ++ [x])) σ σ') (hsz : xs.length ≤ sizeLine) (h : ∀ s', St B σ' s' → Q .none s') :
    wpAny (model prog B.w) A (call (.builtin "list.append") [.ref l, v]) Q E s := by
  refine x2a2 (S.listIs u.mem) fun vs n hv ha => ?_
  have nt : ∀ cs, ¬ TupAt s.heap l cs := VO.notTup (o := .list xs) ⟨vs, n, hv, ha⟩ rfl
  refine wpAny_list_append_plain (items := vs.toArray) ⟨n, hv⟩ (fun h' hl hs => ?_) (by simpa [ha.length] using hsz)
  refine x1a1 hl fun n' hl => ?_
  exact h _ (S.upd u rfl hs.extBut s.toks ⟨vs ++ [v], n', by simpa using hl, (ha.snoc hx).extBut hs.extBut nt⟩)
theorem r_lappend_int {l : Addr} {xs : List MV} {i : Int} {t : Tok} (S : St B σ s) (u : Upd l (.list xs) (.list (xs ++ [MV.int i])) σ σ') (hsz : xs.length ≤ sizeLine) (h : ∀ s', St B σ' s' → Q .none s') :
    wpAny (model prog B.w) A (call (.builtin "list.append") [.ref l, .int i t]) Q E s := r_lappend (x := MV.int i) S ⟨t, rfl⟩ u hsz h
theorem r_lappend_str {l : Addr} {xs : List MV} {i : Str} {t : Tok} (S : St B σ s) (u : Upd l (.list xs) (.list (xs ++ [MV.str i])) σ σ') (hsz : xs.length ≤ sizeLine) (h : ∀ s', St B σ' s' → Q .none s') :
    wpAny (model prog B.w) A (call (.builtin "list.append") [.ref l, .str i t]) Q E s := r_lappend (x := MV.str i) S ⟨t, rfl⟩ u hsz h
theorem r_lappend_tup {l a : Addr} {xs : List MV} {c : List Sc} (S : St B σ s) (ha : (a, .tuple c) ∈ σ) (u : Upd l (.list xs) (.list (xs ++ [MV.tup c])) σ σ') (hsz : xs.length ≤ sizeLine) (h : ∀ s', St B σ' s' → Q .none s') :
    wpAny (model prog B.w) A (call (.builtin "list.append") [.ref l, .ref a]) Q E s := r_lappend (x := MV.tup c) S ⟨a, rfl, S.at ha⟩ u hsz h
theorem r_pop0 {l : Addr} {x : MV} {xs : List MV} {t : Tok} (S : St B σ s) (u : Upd l (.list (x :: xs)) (.list xs) σ σ') (hsz : xs.length < sizeLine) (h : ∀ v s', x.Is s'.heap v → St B σ' s' → Q v s') :
    wpAny (model prog B.w) A (call (.builtin "list.pop") [.ref l, .int 0 t]) Q E s := by
  refine x2a2 (S.listIs u.mem) fun vs n hv ha => ?_
  have nt : ∀ cs, ¬ TupAt s.heap l cs := VO.notTup (o := .list (x :: xs)) ⟨vs, n, hv, ha⟩ rfl
  cases ha with
  | cons hc hr =>
    rename_i v ws
    have hl := hr.length
    refine call_meets F.slot_list_pop ⟨_, hv, rfl⟩ F.entry_list_pop (F.args_list_pop_2 _ _) (MeetsSeq.list_pop_at l (v :: ws).toArray n 0 t 0 v (by decide +kernel) (seqIndex_of (k := 0) (Int.le_refl _) (by simp)) (by simp) (by simp; lia)) ?_
    refine ⟨hv, ?_⟩
    have hs : Heap.SameBut l s.heap (s.heap.update l (Obj.mapSeq fun xs => xs.eraseIdxIfInBounds 0)) := Heap.SameBut.update ..
    have S' := S.upd (h' := s.heap.update l (Obj.mapSeq fun xs => xs.eraseIdxIfInBounds 0)) u rfl hs.extBut s.toks
      ⟨ws, _, by simpa [Array.eraseIdxIfInBounds] using IsL.update hv (fun xs => xs.eraseIdxIfInBounds 0), hr.extBut hs.extBut nt⟩
    exact h v _ (hc.extBut hs.extBut nt) S'
theorem countP_ints (k : Int) : ∀ {vs : List Value} {ns : List Int}, IntsAre vs ns → vs.countP (isInt k) = ns.count k
  | _, _, .nil => rfl
  | _, _, .cons n t h => by simp only [List.countP_cons, List.count_cons, isInt, countP_ints k h]; rfl
theorem r_lcount {l : Addr} {xs : List Int} {i : Int} {t : Tok} (S : St B σ s) (hl : (l, VO.list (xs.map MV.int)) ∈ σ) (h : ∀ t s', St B σ s' → Q (.int (xs.count i : Nat) t) s') :
    wpAny (model prog B.w) A (call (.builtin "list.count") [.ref l, .int i t]) Q E s := by
  refine x2a2 (S.listIs hl) fun vs n hv ha => ?_
  refine call_meets F.slot_list_count ⟨_, hv, rfl⟩ F.entry_list_count (F.args_list_count_2 _ _) (MeetsSeq.list_count l vs.toArray n (.int i t) (isInt i) (fun y hy => eq_isInt i t ha.ints y (by simpa using hy))) ⟨hv, ?_⟩
  have := h s.toks _ (S.tok (s.toks + 1))
  rw [← countP_ints i ha.ints] at this
  exact this
theorem r_ladd {l b : Addr} {xs ys : List MV} (S : St B σ s) (hl : (l, VO.list xs) ∈ σ) (hb : (b, VO.list ys) ∈ σ) (hsz : xs.length + ys.length ≤ sizeLine) (h : ∀ D s', St B ((D, .list (xs ++ ys)) :: σ) s' → Q (.ref D) s') :
    wpAny (model prog B.w) A (binaryOp .Add (.ref l) (.ref b)) Q E s := by
  refine x2a2 (S.listIs hl) fun vs n hv ha => ?_
  refine x2a2 (S.listIs hb) fun ws m hw hb => ?_
  refine PySem.P.add_list hv hw (h _ _ (S.push (o := .list _) s.toks ⟨vs ++ ws, 0, by rw [← List.append_toArray]; exact Heap.get?_push_size _ rfl, ?_⟩)) (by simpa [ha.length, hb.length] using hsz)
  have e : Heap.ExtBut s.heap.objs.size s.heap (s.heap.push { cls := .type "list", data := .seq (vs.toArray ++ ws.toArray) }) := fun b o _ e => Heap.get?_push_of_some _ e
  exact (ha.append hb).extBut e fun cs ⟨_, _, ho, _⟩ => absurd (Heap.lt_size ho) (Nat.lt_irrefl _)
theorem r_list_lit {elts : List Expr} {pos : Pos}
    (h : wpAny (model prog B.w) A (spliced (backTo pos (starEach elts env))) (fun vs s₁ => ∃ mvs σ, vs.length ≤ sizeLine ∧ St B σ s₁ ∧ AllMV s₁.heap mvs vs ∧ ∀ D s', St B ((D, .list mvs) :: σ) s' → Q (.ref D) s') E s) :
    wpAny (model prog B.w) A (eval (.List elts pos) env) Q E s := by
  refine wpAny_List (wpAny_mono h (fun vs s₁ h₁ => ?_) fun _ _ x => x)
  refine x2a4 h₁ fun mvs σ hsz S ha hq => ?_; clear h₁
  refine ⟨hsz, hq _ _ (S.push (o := .list _) s₁.toks ⟨vs, 0, Heap.get?_push_size _ rfl, ?_⟩)⟩
  have e : Heap.ExtBut s₁.heap.objs.size s₁.heap (s₁.heap.push { cls := .type "list", data := .seq vs.toArray }) := fun b o _ e => Heap.get?_push_of_some _ e
  exact ha.extBut e fun cs ⟨_, _, ho, _⟩ => absurd (Heap.lt_size ho) (Nat.lt_irrefl _)
theorem r_tuple_lit {elts : List Expr} {pos : Pos} {n : Nat}
    (h : wpAny (model prog B.w) A (spliced (backTo pos (starEach elts env))) (fun vs s₁ => ∃ c σ, vs.length ≤ sizeLine ∧ St B σ s₁ ∧ AllSc c vs ∧ ∀ a s', St B ((a, .tuple c) :: σ) s' → Q (.ref a) s') E s) :
    wpAny (model prog B.w) A (eval (.Tuple elts n pos) env) Q E s := by
  refine wpAny_Tuple (wpAny_mono h (fun vs s₁ h₁ => ?_) fun _ _ x => x)
  refine x2a4 h₁ fun c σ hsz S ha hq => ?_; clear h₁
  exact ⟨hsz, hq _ _ (S.push (o := .tuple _) s₁.toks ⟨vs, 0, Heap.get?_push_size _ rfl, ha⟩)⟩
theorem AllSc.get : ∀ {cs : List Sc} {vs : List Value} {i : Nat} {c : Sc}, AllSc cs vs → cs[i]? = some c → ∃ v, vs[i]? = some v ∧ c.Is v
  | _, _, _, _, .nil, e => by simp at e
  | _, _, 0, _, .cons hc _, e => by simp at e; subst e; exact k1a2 _ rfl hc
  | _, _, i + 1, _, .cons _ hr, e => by simpa using AllSc.get hr (by simpa using e)
theorem r_item_tup {a : Addr} {c : List Sc} {i : Int} {j : Nat} {t : Tok} {x : Sc} (ht : TupAt s.heap a c) (hi : i = (j : Int)) (hx : c[j]? = some x) (hj : j < 2 ^ 20) (h : ∀ v, x.Is v → Q v s) :
    wpAny (model prog B.w) A (getItem (.ref a) (.int i t)) Q E s := by
  subst hi
  refine x2a2 ht fun vs n hv ha => ?_; clear ht
  refine x1a2 (ha.get hx) fun v h1 h2 => ?_
  have hlt := (List.getElem?_eq_some_iff.mp h1).1
  exact PyProof.Rows.getItem_tuple ⟨_, hv, rfl, _, rfl⟩ (by lia) (by lia) (seqIndex_of (k := j) (by lia) (by simpa using hlt)) (by simpa using h1) (h v h2)
end
end
section
theorem AllSc.str {x : Str} {t : Tok} {cs vs} (h : AllSc cs vs) : AllSc (.str x :: cs) (.str x t :: vs) := .cons ⟨t, rfl⟩ h
theorem AllSc.int {x : Int} {t : Tok} {cs vs} (h : AllSc cs vs) : AllSc (.int x :: cs) (.int x t :: vs) := .cons ⟨t, rfl⟩ h
theorem AllSc.float {x : UInt64} {t : Tok} {cs vs} (h : AllSc cs vs) : AllSc (.float x :: cs) (.float x t :: vs) := .cons ⟨t, rfl⟩ h
theorem AllSc.bool {x : Bool} {cs vs} (h : AllSc cs vs) : AllSc (.bool x :: cs) (.bool x :: vs) := .cons rfl h
theorem AllMV.aint {h : Heap} {x : Int} {t : Tok} {cs vs} (r : AllMV h cs vs) : AllMV h (MV.int x :: cs) (.int x t :: vs) := .cons (c := MV.int x) ⟨t, rfl⟩ r
theorem AllMV.atup {B : Base} {σ : Led} {s : Shared} {a : Addr} {c : List Sc} {cs vs} (S : St B σ s) (q_tm : (a, VO.tuple c) ∈ σ) (q_tr : AllMV s.heap cs vs) : AllMV s.heap (.tup c :: cs) (.ref a :: vs) := .cons (c := MV.tup c) ⟨a, rfl, S.at q_tm⟩ q_tr
theorem lit_intro {α : Type} {σ : Led} {c : α} {P1 : Prop} {P2 : Led → Prop} {P3 : α → Prop} {P4 : α → Led → Prop} (h1 : P1) (h2 : P2 σ) (h3 : P3 c) (h4 : P4 c σ) : ∃ c σ, P1 ∧ P2 σ ∧ P3 c ∧ P4 c σ := ⟨c, σ, h1, h2, h3, h4⟩
theorem intItems_of {vs : List Value} {ns : List Int} (h : IntsAre vs ns) : ∃ xs : Array (Int × Tok), vs.toArray = intItems xs ∧ xs.size = ns.length ∧ ∀ j, numAt xs j = (ns[j]?).getD 0 := by
  have : ∃ l : List (Int × Tok), l.map (·.1) = ns ∧ vs = l.map fun p => .int p.1 p.2 := by
    induction h with
    | nil => exact k1a2 ([]) rfl rfl
    | cons n t _ ih => refine x1a2 ih fun l h1 h2 => ?_; clear ih; exact k1a2 ((n, t) :: l) (by simp [h1]) (by simp [h2])
  refine x1a2 this fun l qz111 qz112 => ?_; clear this; subst qz111; subst qz112
  exact k1a3 l.toArray (by simp [intItems]) (by simp) (fun j => by simp [numAt, List.getElem?_map])
theorem sum_take_le (xs : List Int) (M : Nat) (hb : ∀ x ∈ xs, x.natAbs ≤ M) : ∀ j, (xs.take j).sum.natAbs ≤ j * M
  | 0 => by simp
  | j + 1 => by
    have ih := sum_take_le xs M hb j
    rw [List.take_add_one, List.sum_append, Nat.succ_mul]
    cases q : xs[j]? with
    | none => simp only [Option.toList_none, List.sum_nil, Int.add_zero]; lia
    | some x =>
      have := hb x (List.mem_of_getElem? q)
      simp only [Option.toList_some, List.sum_cons, List.sum_nil, Int.add_zero]
      omega
theorem preSum_eq (ns : List Int) (xs : Array (Int × Tok)) (h : ∀ j, numAt xs j = (ns[j]?).getD 0) : ∀ n, preSum (numAt xs) n = (ns.take n).sum
  | 0 => by simp [preSum]
  | n + 1 => by
    rw [preSum, preSum_eq ns xs h n, h n]
    cases q : ns[n]? with
    | none =>
      have := List.getElem?_eq_none_iff.mp q
      simp [List.take_of_length_le this, List.take_of_length_le (Nat.le_succ_of_le this)]
    | some x => rw [List.take_add_one, q]; simp
section
variable {B : Base} {σ σ' : Led} {s : Shared} {prog : Program} {A : Around} {E : Value → Shared → Prop} {env : Env} {ln gn : List Str} {cs : List (Str × Addr)} {k : Nat}
variable {Q : Value → Shared → Prop}
/- comparisons of lists -/
theorem r_eq_nil {l b : Addr} {xs : List MV} (S : St B σ s) (hA : Ok A k) (hl : (l, VO.list xs) ∈ σ) (hb : (b, VO.list []) ∈ σ) (h : Q (.bool xs.isEmpty) s) : wpAny (model prog B.w) A (compareOp .Eq (.ref l) (.ref b)) Q E s := by
  refine x2a2 (S.listIs hl) fun vs n hv ha => ?_
  refine x2a2 (S.listIs hb) fun ws m hw hb => ?_
  cases hb
  cases ha with
  | nil => exact SeqAt.eq_listAt hv.isList hw.isList rfl hA.line (fun j h1 _ => absurd h1 (Nat.not_lt_zero _)) (e := fun _ => true) h
  | cons _ _ => exact SeqAt.eq_list_lengthsAt hv.isList hw.isList rfl hA.line h
theorem r_ne_nil {l b : Addr} {xs : List MV} (S : St B σ s) (hA : Ok A k) (hl : (l, VO.list xs) ∈ σ) (hb : (b, VO.list []) ∈ σ) (h : Q (.bool (!xs.isEmpty)) s) : wpAny (model prog B.w) A (compareOp .NotEq (.ref l) (.ref b)) Q E s := by
  refine x2a2 (S.listIs hl) fun vs n hv ha => ?_
  refine x2a2 (S.listIs hb) fun ws m hw hb => ?_
  cases hb
  cases ha with
  | nil => exact SeqAt.RcNeAt.lists hv.isList hw.isList rfl hA.line (fun j h1 _ => absurd h1 (Nat.not_lt_zero _)) (e := fun _ => true) prog B.w E Q h
  | cons _ _ => exact SeqAt.RcNeAt.lists_lengths hv.isList hw.isList rfl hA.line prog B.w E Q h
theorem all_eq_strs : ∀ (l m : List (Str × Tok)), l.length = m.length → ((List.range l.length).all fun j => ((l.map (·.1))[j]?).getD Str.empty == ((m.map (·.1))[j]?).getD Str.empty) = (l.map (·.1) == m.map (·.1))
  | [], [], _ => rfl
  | p :: l, q :: m, h => by
    have ih := all_eq_strs l m (by simpa using h)
    rw [List.length_cons, List.range_succ_eq_map, List.all_cons, List.all_map]
    simp only [Function.comp_def, List.map_cons, List.getElem?_cons_zero, List.getElem?_cons_succ, Option.getD_some, List.cons_beq_cons]
    rw [← ih]
theorem r_ne_strs {l b : Addr} {xs ys : List Str} (S : St B σ s) (hA : Ok A k) (hl : (l, VO.list (xs.map MV.str)) ∈ σ) (hb : (b, VO.list (ys.map MV.str)) ∈ σ) (h : Q (.bool (xs != ys)) s) : wpAny (model prog B.w) A (compareOp .NotEq (.ref l) (.ref b)) Q E s := by
  refine x2a2 (S.listIs hl) fun vs n hv ha => ?_
  refine x2a2 (S.listIs hb) fun ws m hw hb => ?_
  refine x1a2 ha.strs fun l1 qz811 qz812 => ?_; subst qz811; subst qz812
  refine x1a2 hb.strs fun l2 qz911 qz912 => ?_; subst qz911; subst qz912
  by_cases hlen : l1.length = l2.length
  · refine SeqAt.RcNeAt.lists (e := fun j => ((l1.map (·.1))[j]?).getD Str.empty == ((l2.map (·.1))[j]?).getD Str.empty) hv.isList hw.isList (by simpa [strValues] using hlen) hA.line (fun j h1 h2 => ?_) prog B.w E Q ?_
    · have h1' : j < l1.length := by simpa [strValues] using h1
      have h2' : j < l2.length := by simpa [strValues] using h2
      have e1 : (strValues l1).toArray[j] = .str (l1[j]).1 (l1[j]).2 := by simp [strValues]
      have e2 : (strValues l2).toArray[j] = .str (l2[j]).1 (l2[j]).2 := by simp [strValues]
      rw [e1, e2]
      have := (eqGives_str (l1[j]).1 (l2[j]).1 (l1[j]).2 (l2[j]).2).at A.in1 s
      simpa [h1', h2'] using this
    · have e : (strValues l1).toArray.size = l1.length := by simp [strValues]
      rw [e, all_eq_strs l1 l2 hlen]; exact h
  · refine SeqAt.RcNeAt.lists_lengths hv.isList hw.isList (by simpa [strValues] using hlen) hA.line prog B.w E Q ?_
    have : (l1.map (·.1) != l2.map (·.1)) = true := by
      rw [bne_iff_ne]; intro e; have := congrArg List.length e; simp at this; exact hlen this
    rw [← this]; exact h
theorem r_notin_ints {l : Addr} {xs : List Int} {i : Int} {t : Tok} (S : St B σ s) (hl : (l, VO.list (xs.map MV.int)) ∈ σ) (h : Q (.bool (!xs.contains i)) s) : wpAny (model prog B.w) A (compareOp .NotIn (.int i t) (.ref l)) Q E s := by
  refine x2a2 (S.listIs hl) fun vs n hv ha => ?_
  refine notin_list_ints hv.isList ha.ints ?_
  have : (xs.any fun x => x == i) = xs.contains i := by
    rw [List.contains_eq_any_beq]; congr 1; funext x; exact BEq.comm
  rw [this]; exact h
/- sum, min, max -/
theorem r_sum {l : Addr} {xs : List Int} (S : St B σ s) (hA : A.handled = none) (hl : (l, VO.list (xs.map MV.int)) ∈ σ) (hsz : xs.length ≤ 1024) (hb : ∀ x ∈ xs, x.natAbs ≤ 1099511627776) (h : ∀ t s', St B σ s' → Q (.int xs.sum t) s') :
    wpAny (model prog B.w) A (call (.builtin "sum") [.ref l]) Q E s := by
  refine x2a2 (S.listIs hl) fun vs n hv ha => ?_
  refine x1a3 (intItems_of ha.ints) fun ps e1 e2 e3 => ?_
  have hbd := sum_take_le xs 1099511627776 hb
  refine St.viaH (P := fun v => ∃ t, v = .int xs.sum t) S (fun v s' ⟨t, e⟩ S' => e ▸ h t s' S') fun Q' hq => ?_
  rw [e1] at hv
  refine sum_intList hA hv.isList (fun j hj => ?_) fun h' tk t' hk => ?_
  · rw [preSum_eq xs ps e3, e3]
    have h1 := hbd (j + 1)
    have h2 : ((xs[j]?).getD 0).natAbs ≤ 1099511627776 := by
      cases q : xs[j]? with
      | none => exact Nat.zero_le _
      | some x => exact hb x (List.mem_of_getElem? q)
    have h3 : (j + 1) * 1099511627776 ≤ 1024 * 1099511627776 := Nat.mul_le_mul_right _ (by lia)
    unfold InLong
    constructor <;> constructor <;> grind
  · refine hq _ h' tk ⟨t', ?_⟩ hk
    rw [preSum_eq xs ps e3, e2, List.take_of_length_le (Nat.le_refl _)]
theorem r_max2 {a b : Int} {t u : Tok} (S : St B σ s) (hA : A.handled = none) (h : ∀ t s', St B σ s' → Q (.int (max a b) t) s') : wpAny (model prog B.w) A (call (.builtin "max") [.int a t, .int b u]) Q E s := by
  refine St.viaH (P := fun v => ∃ t, v = .int (max a b) t) S (fun v s' ⟨t, e⟩ S' => e ▸ h t s' S') fun Q' hq => ?_
  refine max_two_ints hA fun h' tk hk => hq _ h' tk ?_ hk
  split
  · exact ⟨u, by rw [show max a b = b by lia]⟩
  · exact ⟨t, by rw [show max a b = a by grind]⟩
theorem r_min2 {a b : Int} {t u : Tok} (S : St B σ s) (hA : A.handled = none) (h : ∀ t s', St B σ s' → Q (.int (min a b) t) s') : wpAny (model prog B.w) A (call (.builtin "min") [.int a t, .int b u]) Q E s := by
  refine St.viaH (P := fun v => ∃ t, v = .int (min a b) t) S (fun v s' ⟨t, e⟩ S' => e ▸ h t s' S') fun Q' hq => ?_
  refine min_two_ints hA fun h' tk hk => hq _ h' tk ?_ hk
  split
  · exact ⟨u, by rw [show min a b = b by grind]⟩
  · exact ⟨t, by rw [show min a b = a by lia]⟩
/- join -/
theorem r_sjoin {l : Addr} {xs : List Str} {x : Str} {t : Tok} (S : St B σ s) (hl : (l, VO.list (xs.map MV.str)) ∈ σ) (hsz : (xs.map (·.length)).sum + xs.length * x.length ≤ sizeLine) (h : ∀ t s', St B σ s' → Q (.str (Txt.join x xs) t) s') :
    wpAny (model prog B.w) A (call (.builtin "str.join") [.str x t, .ref l]) Q E s := by
  refine x2a2 (S.listIs hl) fun vs n hv ha => ?_
  refine x1a2 ha.strs fun l1 qz1411 qz1412 => ?_; subst qz1411; subst qz1412
  have hfit : Builtin.Str.tooLong ((l1.map (·.1)).toArray.foldl (· + ·.length + x.length) 0) = false := by
    rw [StrLaws.joinTotal]
    unfold Builtin.Str.tooLong
    exact decide_eq_false (by grind)
  refine St.via S h fun Q' hq => ?_
  exact call_meets F.slot_str_join (typeIs_str _ _ _) F.entry_str_join (F.args_str_join_2 _ _) (meets_str_join_list x t l l1 hfit)
    ⟨hv.isList, post_join l1 ⟨joinFit_length hfit, hq⟩⟩
/- the stores of an unpacking -/
noncomputable def Sc.val : Sc → Tok → Value
  | .none, _ => .none
  | .bool b, _ => .bool b
  | .int i, t => .int i t
  | .float x, t => .float x t
  | .str x, t => .str x t
theorem Sc.Is.val {c : Sc} {v : Value} (h : c.Is v) : ∃ t, v = c.val t := by
  cases c with
  | none => exact ⟨0, h⟩
  | bool b => exact ⟨0, h⟩
  | int i => exact h
  | float x => exact h
  | str x => exact h
theorem r_unpack2 {x y : Str} {px py pos : Pos} {n : Nat} {a : Addr} {c1 c2 : Sc} {Q : Unit → Shared → Prop} (S : St B σ s) (hA : A.handled = none) (ht : TupAt s.heap a [c1, c2])
    (h : ∀ t1 t2 s', St B σ s' → wpAny (model prog B.w) A (storeName env x (c1.val t1)) (fun _ s1 => wpAny (model prog B.w) A (storeName env y (c2.val t2)) Q E s1) E s') :
    wpAny (model prog B.w) A (assign (.Tuple [.Name x px, .Name y py] n pos) env (.ref a)) Q E s := by
  refine x2a2 ht fun vs n hv ha => ?_; clear ht
  cases ha with | cons h1 r => cases r with | cons h2 r => cases r with | nil =>
  refine x1a1 h1.val fun t1 qz1611 => ?_; subst qz1611
  refine x1a1 h2.val fun t2 qz1711 => ?_; subst qz1711
  refine wpAny_assign_Tuple hA ⟨_, hv, rfl, _, rfl⟩ rfl rfl fun h' he => ?_
  have S' := S.grow (h' := h') (fun b o e => he b o (Nat.ne_of_lt (Heap.lt_size e)) e) s.toks (Nat.le_refl _)
  refine assignInOrder_cons (wpAny_assign_Name (wpAny_mono (h t1 t2 _ S') (fun _ s1 q => ?_) fun _ _ x => x))
  exact assignInOrder_cons (wpAny_assign_Name (wpAny_mono q (fun _ s2 q => assignInOrder_nil q) fun _ _ x => x))
theorem r_unpack3 {x y z : Str} {px py pz pos : Pos} {n : Nat} {a : Addr} {c1 c2 c3 : Sc} {Q : Unit → Shared → Prop} (S : St B σ s) (hA : A.handled = none) (ht : TupAt s.heap a [c1, c2, c3])
    (h : ∀ t1 t2 t3 s', St B σ s' → wpAny (model prog B.w) A (storeName env x (c1.val t1)) (fun _ s1 => wpAny (model prog B.w) A (storeName env y (c2.val t2)) (fun _ s2 => wpAny (model prog B.w) A (storeName env z (c3.val t3)) Q E s2) E s1) E s') :
    wpAny (model prog B.w) A (assign (.Tuple [.Name x px, .Name y py, .Name z pz] n pos) env (.ref a)) Q E s := by
  refine x2a2 ht fun vs n hv ha => ?_; clear ht
  cases ha with | cons h1 r => cases r with | cons h2 r => cases r with | cons h3 r => cases r with | nil =>
  refine x1a1 h1.val fun t1 qz1911 => ?_; subst qz1911
  refine x1a1 h2.val fun t2 qz2011 => ?_; subst qz2011
  refine x1a1 h3.val fun t3 qz2111 => ?_; subst qz2111
  refine wpAny_assign_Tuple hA ⟨_, hv, rfl, _, rfl⟩ rfl rfl fun h' he => ?_
  have S' := S.grow (h' := h') (fun b o e => he b o (Nat.ne_of_lt (Heap.lt_size e)) e) s.toks (Nat.le_refl _)
  refine assignInOrder_cons (wpAny_assign_Name (wpAny_mono (h t1 t2 t3 _ S') (fun _ s1 q => ?_) fun _ _ x => x))
  refine assignInOrder_cons (wpAny_assign_Name (wpAny_mono q (fun _ s2 q => ?_) fun _ _ x => x))
  exact assignInOrder_cons (wpAny_assign_Name (wpAny_mono q (fun _ s2 q => assignInOrder_nil q) fun _ _ x => x))
theorem r_expr {e : Expr} {pos : Pos} {Q : Flow → Shared → Prop} (hE : EnvOk env ln cs gn) (h : wpAny (model prog B.w) A (eval e env) (fun v s' => v = .none ∧ Q .next s') E s)
    (hs : swapsWith e none pos.line env = pure false) : wpAny (model prog B.w) A (exec (.Expr e pos) env) Q E s :=
  wpAny_Expr (wpAny_mono h (fun v s' h' => by obtain ⟨rfl, h'⟩ := h'; exact h') fun _ _ x => x) (by unfold interactive; rw [hE.kind]; rfl) hs
/- a for statement -/
theorem r_for {target iter : Expr} {body orelse : List Stmt} {pos : Pos} {Q : Flow → Shared → Prop}
    (h : wpAny (model prog B.w) A (eval iter env) (fun x s₁ => wpAny (model prog B.w) A (pyIter x) (fun it s₂ => codeAny (model prog B.w) A (.forLoop target it body orelse env) (fun r s' => match r with | .ok f => Q f s' | .error e => cameBackBy (model prog B.w) A env E e s') s₂) E s₁) E s)
    (hs : ∀ x, foldedSetIterable iter env x = pure x) :
    wpAny (model prog B.w) A (exec (.For target iter body orelse pos) env) Q E s := wpAny_For h hs
/-- the loop's own for list, range, str, with the objects of the iterator written out -/
theorem r_loop_range {target : Expr} {body orelse : List Stmt} {I : Addr} {a : Int} {n : Nat} {R : Result → Shared → Prop} (P : Nat → Led → Prop) (hA : Ok A k)
    (turn : ∀ i σ s t, i < n → P i σ → St B ((I, .rangeIter (a + ((i + 1 : Nat) : Int)) ((n : Int) - ((i + 1 : Nat) : Int)) 1) :: σ) s → ∀ N : Value → Shared → Prop,
      wpAny (model prog B.w) A (assign target env (.int (a + i) t)) (fun _ s₂ => wpAny (model prog B.w) A (execs body env) (fun f s₃ => match f with
        | .next | .cont => ∃ σ', P (i + 1) σ' ∧ St B ((I, .rangeIter (a + ((i + 1 : Nat) : Int)) ((n : Int) - ((i + 1 : Nat) : Int)) 1) :: σ') s₃
        | .brk => R (.ok .next) s₃
        | .ret v => R (.ok (.ret v)) s₃) N s₂) N s)
    (done : ∀ σ s, P n σ → St B σ s → ∀ N : Value → Shared → Prop, wpAny (model prog B.w) A (execs orelse env) (fun f s₃ => R (.ok f) s₃) N s)
    {σ : Led} {s : Shared} (hP : P 0 σ) (S : St B ((I, .rangeIter (a + (0 : Nat)) ((n : Int) - (0 : Nat)) 1) :: σ) s) :
    codeAny (model prog B.w) A (.forLoop target (.ref I) body orelse env) R s := by
  refine r_forLoop Src.range P hA.handled (fun _ _ _ => trivial) (fun i σ s mv v hi hP S hv N => ?_) (fun σ s hP S N => done σ s (by simpa using hP) S N) hP S
  have hin : i < n := by simpa using (List.getElem?_eq_some_iff.mp hi).1
  obtain rfl : MV.int (a + i) = mv := by simpa [hin] using hi
  refine x1a1 hv fun t qz311 => ?_; clear hv; subst qz311
  exact turn i σ s t hin hP S N
end
end
section
theorem gv_dots (B : Base) : GlobVal B "ELLIPSIS_MARKER" (.str (Str.ofString "...") 189) := .inl (mg_of B.KX B.g (by kernel_rfl!))
theorem gv_of {B : Base} {x : Str} {v : Value} (h1 : nsIn (KK B.w.params) mainGlobals x = some none) (h2 : bootBuiltins x = some v) (h3 : x ≠ "__name__") : GlobVal B x v := .inr ⟨mg_none_of B.KX B.g h1, (B.blt x h3).trans h2⟩
theorem gv_len (B : Base) : GlobVal B "len" (.builtin "len") := gv_of (by kernel_rfl!) (by decide +kernel) (by decide +kernel)
theorem len_emp : (Str.ofString "").length = 0 := by decide +kernel
theorem len_bs : (Str.ofString "\\").length = 1 := by decide +kernel
theorem len_bsbs : (Str.ofString "\\\\").length = 2 := by decide +kernel
theorem len_q : (Str.ofString "\"").length = 1 := by decide +kernel
theorem len_bsq : (Str.ofString "\\\"").length = 2 := by decide +kernel
theorem len_qs : (Str.ofString "\" ").length = 2 := by decide +kernel
theorem len_nl : (Str.ofString "\n").length = 1 := by decide +kernel
theorem len_d3c : (Str.ofString "...,").length = 4 := by decide +kernel
theorem len_cs : (Str.ofString ", ").length = 2 := by decide +kernel
theorem len_cd3c : (Str.ofString ",...,").length = 5 := by decide +kernel
theorem len_cd3 : (Str.ofString ",...").length = 4 := by decide +kernel
theorem len_d3 : (Str.ofString "...").length = 3 := by decide +kernel
theorem len_c : (Str.ofString ",").length = 1 := by decide +kernel
theorem len_cc : (Str.ofString ",,").length = 2 := by decide +kernel
theorem len_wxyz : (Str.ofString "wxyz").length = 4 := by decide +kernel
theorem len_n012 : (Str.ofString "012").length = 3 := by decide +kernel
theorem len_n0123 : (Str.ofString "0123").length = 4 := by decide +kernel
theorem len_one (c : Nat) : Str.length ⟨#[c]⟩ = 1 := rfl
theorem go_true {P Q : Prop} (h : P) : if true = true then P else Q := h
theorem go_false {P Q : Prop} (h : Q) : if false = true then P else Q := by rw [if_neg (by decide)]; exact h
section
variable (B : Base)
theorem gv_chr : GlobVal B "chr" (.builtin "chr") := gv_of (by kernel_rfl!) (by decide +kernel) (by decide +kernel)
theorem gv_ord : GlobVal B "ord" (.builtin "ord") := gv_of (by kernel_rfl!) (by decide +kernel) (by decide +kernel)
theorem gv_hex : GlobVal B "hex" (.builtin "hex") := gv_of (by kernel_rfl!) (by decide +kernel) (by decide +kernel)
theorem gv_range : GlobVal B "range" (.type "range") := gv_of (by kernel_rfl!) (by decide +kernel) (by decide +kernel)
theorem gv_zip : GlobVal B "zip" (.type "zip") := gv_of (by kernel_rfl!) (by decide +kernel) (by decide +kernel)
theorem gv_int : GlobVal B "int" (.type "int") := gv_of (by kernel_rfl!) (by decide +kernel) (by decide +kernel)
theorem gv_list : GlobVal B "list" (.type "list") := gv_of (by kernel_rfl!) (by decide +kernel) (by decide +kernel)
theorem gv_iter : GlobVal B "iter" (.builtin "iter") := gv_of (by kernel_rfl!) (by decide +kernel) (by decide +kernel)
theorem gv_next : GlobVal B "next" (.builtin "next") := gv_of (by kernel_rfl!) (by decide +kernel) (by decide +kernel)
theorem gv_min : GlobVal B "min" (.builtin "min") := gv_of (by kernel_rfl!) (by decide +kernel) (by decide +kernel)
theorem gv_max : GlobVal B "max" (.builtin "max") := gv_of (by kernel_rfl!) (by decide +kernel) (by decide +kernel)
theorem gv_sum : GlobVal B "sum" (.builtin "sum") := gv_of (by kernel_rfl!) (by decide +kernel) (by decide +kernel)
theorem gv_ell : GlobVal B "_ellipsis_match" (.ref 21) := .inl (mg_of B.KX B.g (by kernel_rfl!))
theorem gv_rgb : GlobVal B "rgb_to_hsv" (.ref 28) := .inl (mg_of B.KX B.g (by kernel_rfl!))
theorem gv_hsv : GlobVal B "hsv_to_rgb" (.ref 35) := .inl (mg_of B.KX B.g (by kernel_rfl!))
theorem gv_flags : GlobVal B "COMPILER_FLAG_NAMES" (.ref 36) := .inl (mg_of B.KX B.g (by kernel_rfl!))
theorem gv_pretty : GlobVal B "pretty_flags" (.ref 43) := .inl (mg_of B.KX B.g (by kernel_rfl!))
theorem gv_varint : GlobVal B "_parse_varint" (.ref 50) := .inl (mg_of B.KX B.g (by kernel_rfl!))
theorem gv_lex : GlobVal B "_netrclex" (.ref 88) := .inl (mg_of B.KX B.g (by kernel_rfl!))
theorem gv_stream : GlobVal B "_law_stream" (.ref 99) := .inl (mg_of B.KX B.g (by kernel_rfl!))
theorem gv_octets : GlobVal B "_law_octets" (.ref 106) := .inl (mg_of B.KX B.g (by kernel_rfl!))
theorem gv_written : GlobVal B "_law_written" (.ref 111) := .inl (mg_of B.KX B.g (by kernel_rfl!))
theorem gv_pattern : GlobVal B "_law_pattern" (.ref 118) := .inl (mg_of B.KX B.g (by kernel_rfl!))
theorem gv_holds : GlobVal B "_law_holds" (.ref 125) := .inl (mg_of B.KX B.g (by kernel_rfl!))
theorem gv_once : GlobVal B "_law_once" (.ref 130) := .inl (mg_of B.KX B.g (by kernel_rfl!))
theorem gv_round : GlobVal B "_law_round" (.ref 137) := .inl (mg_of B.KX B.g (by kernel_rfl!))
end
end
section
noncomputable def flagTab : List (Int × Str) := [(1, "OPTIMIZED"), (2, "NEWLOCALS"), (4, "VARARGS"), (8, "VARKEYWORDS"), (16, "NESTED"), (32, "GENERATOR"), (64, "NOFREE"), (128, "COROUTINE"), (256, "ITERABLE_COROUTINE"), (512, "ASYNC_GENERATOR")]
noncomputable def flagOr (i : Int) (d : Str) : Str := (flagTab.lookup i).getD d
noncomputable def flagEs : Array DictEntry := #[{ hash := 1, key := Value.int 1 239, val := Value.str (Str.ofString "OPTIMIZED") 240 },
              { hash := 2, key := Value.int 2 241, val := Value.str (Str.ofString "NEWLOCALS") 242 },
              { hash := 4, key := Value.int 4 243, val := Value.str (Str.ofString "VARARGS") 244 },
              { hash := 8, key := Value.int 8 245, val := Value.str (Str.ofString "VARKEYWORDS") 246 },
              { hash := 16, key := Value.int 16 247, val := Value.str (Str.ofString "NESTED") 248 },
              { hash := 32, key := Value.int 32 249, val := Value.str (Str.ofString "GENERATOR") 250 },
              { hash := 64, key := Value.int 64 251, val := Value.str (Str.ofString "NOFREE") 252 },
              { hash := 128, key := Value.int 128 253, val := Value.str (Str.ofString "COROUTINE") 254 },
              { hash := 256, key := Value.int 256 255, val := Value.str (Str.ofString "ITERABLE_COROUTINE") 256 },
              { hash := 512, key := Value.int 512 257, val := Value.str (Str.ofString "ASYNC_GENERATOR") 258 }]
theorem flag_find (i : Int) (d : Str) (t0 : Tok) : ∃ t, (findBy Value.isInt flagEs i).getD (.str d t0) = .str (flagOr i d) t := by
  by_cases h0 : i = 1; subst h0; exact ⟨_, rfl⟩
  by_cases h1 : i = 2; subst h1; exact ⟨_, rfl⟩
  by_cases h2 : i = 4; subst h2; exact ⟨_, rfl⟩
  by_cases h3 : i = 8; subst h3; exact ⟨_, rfl⟩
  by_cases h4 : i = 16; subst h4; exact ⟨_, rfl⟩
  by_cases h5 : i = 32; subst h5; exact ⟨_, rfl⟩
  by_cases h6 : i = 64; subst h6; exact ⟨_, rfl⟩
  by_cases h7 : i = 128; subst h7; exact ⟨_, rfl⟩
  by_cases h8 : i = 256; subst h8; exact ⟨_, rfl⟩
  by_cases h9 : i = 512; subst h9; exact ⟨_, rfl⟩
  refine ⟨t0, ?_⟩
  have e : ∀ (j : Int) (t : Tok), i ≠ j → Value.isInt i (.int j t) = false := fun j t h => by
    show (j == i) = false
    exact beq_eq_false_iff_ne.mpr (Ne.symm h)
  have b : ∀ (j : Int), i ≠ j → (i == j) = false := fun j h => beq_eq_false_iff_ne.mpr h
  unfold findBy flagEs flagOr flagTab
  rw [List.find?_toArray]
  simp only [List.find?, List.lookup, e 1 _ h0, e 2 _ h1, e 4 _ h2, e 8 _ h3, e 16 _ h4, e 32 _ h5, e 64 _ h6, e 128 _ h7, e 256 _ h8, e 512 _ h9, b 1 h0, b 2 h1, b 4 h2, b 8 h3, b 16 h4, b 32 h5, b 64 h6, b 128 h7, b 256 h8, b 512 h9, Option.map_none, Option.getD_none]
section
variable {B : Base} {σ : Led} {s : Shared} {prog : Program} {A : Around} {E : Value → Shared → Prop} {Q : Value → Shared → Prop} {k : Nat}
theorem intHash (prog : Program) (w : World) (i : Int) : (intKind prog w).hash i = hashInt i := rfl
theorem St.flags (S : St B σ s) : s.heap.MapOf (intKind prog B.w) 36 (fun i => findBy Value.isInt flagEs i) :=
  ⟨_, flagEs, 10, S.KIn (a := 36) rfl (by decide), ⟨rfl, rfl, rfl⟩, rfl, by
    intro e he
    simp only [flagEs, List.mem_toArray, List.mem_cons, List.not_mem_nil, or_false] at he
    rcases he with rfl | rfl | rfl | rfl | rfl | rfl | rfl | rfl | rfl | rfl <;> exact ⟨_, intKind_is _ _ _ _, by rw [intHash]; decide +kernel⟩, fun _ => rfl⟩
theorem r_flag_get {i : Int} {d : Str} {t u : Tok} (S : St B σ s) (h : ∀ t s', St B σ s' → Q (.str (flagOr i d) t) s') :
    wpAny (model prog B.w) A (call (.builtin "dict.get") [.ref 36, .int i t, .str d u]) Q E s := by
  refine call_meetsIn PySem.F.slot_dict_get (S.flags (prog := prog)).typeIs PySem.F.entry_dict_get (PySem.F.args_dict_get_3 _ _ _) (meets_dict_get_default (intKind prog B.w) 36 (intKind_is prog B.w i t) (by decide) _) ⟨_, S.flags (prog := prog), ?_⟩
  refine x1a1 (flag_find i d u) fun t' e => ?_
  show Q ((findBy Value.isInt flagEs i).getD (.str d u)) _
  rw [e]
  exact h _ _ (S.tok _)
theorem mFlags {P : String → Prop} (S : St B σ s) (h : P "dict.get") :
    ∃ T id, MethodIs T "get" id ∧ s.TypeIs (.ref 36) T ∧ (∀ a, Value.ref 36 = .ref a → ∃ ob, s.heap.get? a = some ob ∧ ob.dict = none) ∧ P id :=
  ⟨"dict", "dict.get", ⟨F.plainAttrs_dict, F.slot_dict_get, F.type_dict_get⟩, ⟨_, S.KIn (a := 36) rfl (by decide), rfl⟩, fun a e => by cases e; exact ⟨_, S.KIn (a := 36) rfl (by decide), rfl⟩, h⟩
end
end
section
theorem entry_iter : entryFor table "iter" = some Builtin.«iter» := entryFor_of_fast (by kernel_rfl)
theorem entry_next : entryFor table "next" = some Builtin.«next» := entryFor_of_fast (by kernel_rfl)
theorem args_iter (a : Value) : argsOk "iter" ⟨[a], []⟩ := by unfold argsOk; kernel_rfl
theorem args_iter2 (a b : Value) : argsOk "iter" ⟨[a, b], []⟩ := by unfold argsOk; kernel_rfl
theorem args_next (a : Value) : argsOk "next" ⟨[a], []⟩ := by unfold argsOk; kernel_rfl
section
variable {B : Base} {σ σ' : Led} {s : Shared} {prog : Program} {A : Around} {E : Value → Shared → Prop} {env : Env} {ln gn : List Str} {cs : List (Str × Addr)} {k : Nat}
variable {Q : Value → Shared → Prop}
theorem r_iter1 {v : Value} (h : wpAny (model prog B.w) A.in1 (pyIter v) Q E s) : wpAny (model prog B.w) A (call (.builtin "iter") [v]) Q E s := by
  refine Calls.call_function_entry (by decide +kernel) (by decide +kernel) entry_iter (args_iter _) ?_
  unfold Builtin.«iter»
  refine wpAny_bind (m := someArgs "iter" 1 2 _) (wpAny_of_eq (a := [v]) (by first | rfl | kernel_rfl!) ?_)
  dsimp only
  exact wpAny_bind (wpAny_mono h (fun it s' h' => wpAny_pure ⟨_, rfl, h'⟩) fun _ _ x => x)
theorem r_next_list {I l : Addr} {i : Nat} {xs : List MV} {mv : MV} (S : St B σ s) (u : Upd I (.listIter l i) (.listIter l (i + 1)) σ σ') (hl : (l, VO.list xs) ∈ σ) (hx : xs[i]? = some mv)
    (h : ∀ v s', mv.Is s'.heap v → St B σ' s' → Q v s') : wpAny (model prog B.w) A (call (.builtin "next") [.ref I]) Q E s := by
  have hit : s.heap.IsListIter I l i := S.at u.mem
  have nt : ∀ cs, ¬ TupAt s.heap I cs := VO.notTup (o := .listIter l i) hit rfl
  refine x2a2 (S.listIs hl) fun vs n hv ha => ?_
  refine x1a2 (ha.get hx) fun v h1 h2 => ?_
  refine Calls.call_function_entry (by decide +kernel) (by decide +kernel) entry_next (args_next _) ?_
  unfold Builtin.«next»
  refine wpAny_bind (m := someArgs "next" 1 2 _) (wpAny_of_eq (a := [Value.ref I]) (by first | rfl | kernel_rfl!) ?_)
  dsimp only
  refine wpAny_bind (wpAny_specialOf (name := Str.ofString "__next__") hit.typeIs slot_listiter_next.lookup ?_)
  refine wpAny_ite_split (fun hab => absurd hab (by decide)) (fun _ => ?_)
  refine x1a3 (id hit) fun o ho hc hd => ?_
  refine wpAny_bind (wpAny_callSpecial?_slot (name := Str.ofString "__next__") hit.typeIs slot_listiter_next
    (wpAny_call_entry slot_listiter_next hit.typeIs entry_listiter_next ?_ (args_listiter_next _)))
  show wpAny _ _ (field (.ref I) 0 >>= _) _ _ s
  refine wpAny_bind (wpAny_field ho hd (x := .ref l) rfl ?_)
  show wpAny _ _ (if (Value.ref l == Value.none) = true then _ else _) _ _ s
  rw [if_neg (show ¬ ((Value.ref l == Value.none) = true) from Bool.false_ne_true)]
  show wpAny _ _ (field (.ref I) 1 >>= _) _ _ s
  refine wpAny_bind (wpAny_field ho hd (x := .int i 0) rfl ?_)
  show wpAny _ _ (seqItems? (.ref l) >>= _) _ _ s
  refine wpAny_bind (wpAny_seqItems hv rfl ?_)
  have h1' : vs.toArray[i]? = some v := by simpa using h1
  simp only [Int.toNat_natCast, h1']
  refine wpAny_bind (wpAny_setField ho hd (by simp) (wpAny_pure ⟨v, rfl, wpAny_pure ⟨_, rfl, ?_⟩⟩))
  have hs : Heap.SameBut I s.heap (s.heap.update I (Obj.mapFields (·.setIfInBounds 1 (rawInt ((i : Int) + 1))))) := Heap.SameBut.update ..
  have hit' : (s.heap.update I (Obj.mapFields (·.setIfInBounds 1 (rawInt ((i : Int) + 1))))).IsListIter I l (i + 1) :=
    ⟨_, Heap.get?_update_self _ ho (Obj.isFreed_of_fields (Obj.data_mapFields hd _)), (Obj.cls_mapFields ..).trans hc, by rw [Obj.data_mapFields hd]; simp [rawInt]⟩
  exact h v _ (h2.extBut hs.extBut nt) (S.upd (o' := .listIter l (i + 1)) u rfl hs.extBut s.toks hit')
end
end
section
open Float64
noncomputable abbrev fl (n d : Nat) : UInt64 := ofFrac false n d
noncomputable def truncF (x : UInt64) : Int := match decode x with | .fin sg m e => truncOf sg m e | _ => 0
noncomputable def eqF (a b : UInt64) : Bool := cmp a b == some Ordering.eq
noncomputable def hsvCase (i : Int) (v p q t : UInt64) : UInt64 × UInt64 × UInt64 :=
  if i = 0 then (v, t, p) else if i = 1 then (q, v, p) else if i = 2 then (p, v, t) else if i = 3 then (p, q, v) else if i = 4 then (t, p, v) else (v, p, q)
noncomputable def hsvFrac (h : UInt64) : UInt64 := sub (mul h 4618441417868443648) (ofInt (truncF (mul h 4618441417868443648)))
noncomputable def hsvRgb (h s v : UInt64) : UInt64 × UInt64 × UInt64 :=
  if eqF s 0 = true then (v, v, v) else
  hsvCase (truncF (mul h 4618441417868443648) % 6) v (mul v (sub 4607182418800017408 s)) (mul v (sub 4607182418800017408 (mul s (hsvFrac h)))) (mul v (sub 4607182418800017408 (mul s (sub 4607182418800017408 (hsvFrac h)))))
theorem hsvRgb_ne {h s v : UInt64} (hs : eqF s 0 = false) : hsvRgb h s v = hsvCase (truncF (mul h 4618441417868443648) % 6) v (mul v (sub 4607182418800017408 s)) (mul v (sub 4607182418800017408 (mul s (hsvFrac h)))) (mul v (sub 4607182418800017408 (mul s (sub 4607182418800017408 (hsvFrac h))))) := by
  unfold hsvRgb; rw [if_neg (by rw [hs]; decide)]
noncomputable def gtF (a b : UInt64) : Bool := cmp a b == some Ordering.gt
noncomputable def ltF (a b : UInt64) : Bool := cmp a b == some Ordering.lt
noncomputable def max3 (r g b : UInt64) : UInt64 := let m := if gtF g r then g else r; if gtF b m then b else m
noncomputable def min3 (r g b : UInt64) : UInt64 := let m := if ltF g r then g else r; if ltF b m then b else m
noncomputable def rgbH (r g b : UInt64) : UInt64 :=
  let maxc := max3 r g b
  let minc := min3 r g b
  let rangec := sub maxc minc
  let rc := div (sub maxc r) rangec
  let gc := div (sub maxc g) rangec
  let bc := div (sub maxc b) rangec
  let h := if eqF r maxc then sub bc gc else if eqF g maxc then sub (add 4611686018427387904 rc) bc else sub (add 4616189618054758400 gc) rc
  (divmod (div h 4618441417868443648) 4607182418800017408).snd
noncomputable def told (n sh va : Nat) : Int :=
  let c := hsvRgb (fl n 16) (fl (1 + sh) 4) (fl (1 + va) 4)
  truncF (mul (ofInt 16) (rgbH c.1 c.2.1 c.2.2))
noncomputable def f3 (a b c : UInt64) (ta tb tc : Tok) : Array Value := #[.float a ta, .float b tb, .float c tc]
theorem F.args_max3 (a b c : Value) : argsOk "max" ⟨[a, b, c], []⟩ := by unfold argsOk; kernel_rfl
theorem F.args_min3 (a b c : Value) : argsOk "min" ⟨[a, b, c], []⟩ := by unfold argsOk; kernel_rfl
noncomputable def at3 (a b c : UInt64) (i : Nat) : UInt64 := if i = 0 then a else if i = 1 then b else c
section
variable {prog : Program} {w : World} {A : Around} {E : Value → Shared → Prop} {s : Shared}
theorem call_max3 {a b c : Value} {Q : Value → Shared → Prop}
    (h : wpAny (model prog w) A.in1 (pyIter (.ref s.heap.objs.size)) (fun it s₂ => ∃ I fp wr n P St bt, it = .ref I ∧ Walks prog w A.in1 I fp wr n P St ∧ St 0 s₂.heap ∧ (∀ b ∈ fp, b < s₂.heap.objs.size) ∧ 0 < n ∧ CmpOf prog w A.in1 .Gt P bt ∧
      ∀ v h' tk, P (argBest bt (n - 1)) v → (∀ b o, b ∉ wr → s₂.heap.get? b = some o → h'.get? b = some o) → Q v { s₂ with heap := h', toks := tk }) E
      { s with heap := s.heap.push { cls := .type "tuple", data := .seq #[a, b, c] } }) :
    wpAny (model prog w) A (call (.builtin "max") [a, b, c]) Q E s := by
  have hname : (toString "max" ++ toString ".loop" : String) = "max.loop" := by decide
  refine call_function_tree PySem.F.kind_max PySem.F.plain_max PySem.F.entry_max (F.args_max3 _ _ _) ?_
  show wpAny _ A.in1 (Builtin.Builtins.bindParams "max" ["key", "default"] 0 ⟨[], []⟩ >>= _) _ _ s
  refine wpAny_bind (wpAny_of_eq (show Builtin.Builtins.bindParams "max" ["key", "default"] 0 ⟨[], []⟩ = pure [none, none] from rfl) ?_)
  show wpAny _ A.in1 (newTuple [a, b, c] >>= _) _ _ s
  refine wpAny_bind (wpAny_newObj_type ?_)
  refine wpAny_bind (wpAny_mono h (fun it s₂ h₂ => ?_) fun _ _ e => e)
  refine x7a7 h₂ fun I fp wr n P St bt qz017 W hst hfp hn hcmp hQ => ?_; clear h₂; subst qz017
  refine wpAny_bind (wpAny_newObj_type ?_)
  have hSf : s₂.heap.objs.size ∉ fp := fun hm => Nat.lt_irrefl _ (hfp _ hm)
  rw [hname]
  refine wpAny_pure ⟨plainId_quiet PySem.F.plain_max_loop _, codeAny_max_loop_first W bt hcmp s₂.heap.objs.size hSf hn (W.frame _ _ _ hst fun b _ o e => Heap.get?_push_of_some _ e) (Heap.get?_push_size _ rfl) fun v h' tk hP hk => ?_⟩
  exact hQ v h' tk hP fun b o hbw e => hk b o hbw (Nat.ne_of_lt (Heap.lt_size e)) (Heap.get?_push_of_some _ e)
theorem call_min3 {a b c : Value} {Q : Value → Shared → Prop}
    (h : wpAny (model prog w) A.in1 (pyIter (.ref s.heap.objs.size)) (fun it s₂ => ∃ I fp wr n P St bt, it = .ref I ∧ Walks prog w A.in1 I fp wr n P St ∧ St 0 s₂.heap ∧ (∀ b ∈ fp, b < s₂.heap.objs.size) ∧ 0 < n ∧ CmpOf prog w A.in1 .Lt P bt ∧
      ∀ v h' tk, P (argBest bt (n - 1)) v → (∀ b o, b ∉ wr → s₂.heap.get? b = some o → h'.get? b = some o) → Q v { s₂ with heap := h', toks := tk }) E
      { s with heap := s.heap.push { cls := .type "tuple", data := .seq #[a, b, c] } }) :
    wpAny (model prog w) A (call (.builtin "min") [a, b, c]) Q E s := by
  have hname : (toString "min" ++ toString ".loop" : String) = "min.loop" := by decide
  refine call_function_tree PySem.F.kind_min PySem.F.plain_min PySem.F.entry_min (F.args_min3 _ _ _) ?_
  show wpAny _ A.in1 (Builtin.Builtins.bindParams "min" ["key", "default"] 0 ⟨[], []⟩ >>= _) _ _ s
  refine wpAny_bind (wpAny_of_eq (show Builtin.Builtins.bindParams "min" ["key", "default"] 0 ⟨[], []⟩ = pure [none, none] from rfl) ?_)
  show wpAny _ A.in1 (newTuple [a, b, c] >>= _) _ _ s
  refine wpAny_bind (wpAny_newObj_type ?_)
  refine wpAny_bind (wpAny_mono h (fun it s₂ h₂ => ?_) fun _ _ e => e)
  refine x7a7 h₂ fun I fp wr n P St bt qz117 W hst hfp hn hcmp hQ => ?_; clear h₂; subst qz117
  refine wpAny_bind (wpAny_newObj_type ?_)
  have hSf : s₂.heap.objs.size ∉ fp := fun hm => Nat.lt_irrefl _ (hfp _ hm)
  rw [hname]
  refine wpAny_pure ⟨plainId_quiet PySem.F.plain_min_loop _, codeAny_min_loop_first W bt hcmp s₂.heap.objs.size hSf hn (W.frame _ _ _ hst fun b _ o e => Heap.get?_push_of_some _ e) (Heap.get?_push_size _ rfl) fun v h' tk hP hk => ?_⟩
  exact hQ v h' tk hP fun b o hbw e => hk b o hbw (Nat.ne_of_lt (Heap.lt_size e)) (Heap.get?_push_of_some _ e)
theorem f3_at {a b c : UInt64} {ta tb tc : Tok} {i : Nat} {v : Value} (h : (f3 a b c ta tb tc)[i]? = some v) : ∃ t, v = .float (at3 a b c i) t := by
  match i, h with
  | 0, h => exact ⟨ta, by simpa [f3, at3] using h.symm⟩
  | 1, h => exact ⟨tb, by simpa [f3, at3] using h.symm⟩
  | 2, h => exact ⟨tc, by simpa [f3, at3] using h.symm⟩
  | n + 3, h => simp [f3] at h
theorem cmp_gtF {P : Nat → Value → Prop} (val : Nat → UInt64) (hval : ∀ i v, P i v → ∃ t, v = .float (val i) t) : CmpOf prog w A .Gt P (fun i j => gtF (val i) (val j)) := fun i j vi vj s Q E hi hj h => by
  refine x1a1 (hval i vi hi) fun t qz211 => ?_; subst qz211
  refine x1a1 (hval j vj hj) fun u qz311 => ?_; subst qz311
  exact richCompare_gives (op := .Gt) (AutoFloatOps.typeIs_float s _ t) (AutoFloatOps.typeIs_float s _ u) PySem.F.slot_float_gt PySem.F.entry_float_gt (PySem.F.args_float_gt_2 _ _) (AutoFloatG4.float___gt___float_float_0 _ t _ u) (fun x => nomatch x) h
theorem cmp_ltF {P : Nat → Value → Prop} (val : Nat → UInt64) (hval : ∀ i v, P i v → ∃ t, v = .float (val i) t) : CmpOf prog w A .Lt P (fun i j => ltF (val i) (val j)) := fun i j vi vj s Q E hi hj h => by
  refine x1a1 (hval i vi hi) fun t qz411 => ?_; subst qz411
  refine x1a1 (hval j vj hj) fun u qz511 => ?_; subst qz511
  exact richCompare_gives (op := .Lt) (AutoFloatOps.typeIs_float s _ t) (AutoFloatOps.typeIs_float s _ u) PySem.F.slot_float_lt PySem.F.entry_float_lt (PySem.F.args_float_lt_2 _ _) (AutoFloatG5.float___lt___float_float_0 _ t _ u) (fun x => nomatch x) h
end
section
variable {B : Base} {σ σ' : Led} {s : Shared} {prog : Program} {A : Around} {E : Value → Shared → Prop} {env : Env} {ln gn : List Str} {cs : List (Str × Addr)} {k : Nat}
variable {Q : Value → Shared → Prop}
theorem three_fp {h : Heap} {a b c : Value} {o : Obj} : ∀ d ∈ [(h.push { cls := .type "tuple", data := .seq #[a, b, c] }).objs.size, h.objs.size], d < ((h.push { cls := .type "tuple", data := .seq #[a, b, c] }).push o).objs.size := by
  intro d hd
  rw [Heap.size_push, Heap.size_push]
  rw [Heap.size_push] at hd
  rcases List.mem_cons.mp hd with rfl | hd
  · omega
  · rcases List.mem_cons.mp hd with rfl | hd
    · omega
    · cases hd
theorem three_old {h h' : Heap} {a b c : Value} {o' : Obj} (hk : ∀ d o, d ∉ [(h.push { cls := .type "tuple", data := .seq #[a, b, c] }).objs.size] → ((h.push { cls := .type "tuple", data := .seq #[a, b, c] }).push o').get? d = some o → h'.get? d = some o) :
    ∀ d o, h.get? d = some o → h'.get? d = some o := fun d o e => by
  refine hk d o (fun hm => ?_) (Heap.get?_push_of_some _ (Heap.get?_push_of_some _ e))
  rw [Heap.size_push] at hm
  rcases List.mem_cons.mp hm with rfl | hm
  · exact absurd (Heap.lt_size e) (Nat.not_lt.mpr (Nat.le_succ _))
  · cases hm
theorem best3_gt (a b c : UInt64) : at3 a b c (argBest (fun i j => gtF (at3 a b c i) (at3 a b c j)) 2) = max3 a b c := by
  unfold max3
  cases h1 : gtF b a
  · have e1 : argBest (fun i j => gtF (at3 a b c i) (at3 a b c j)) 1 = 0 := by simp [argBest, at3, h1]
    cases h2 : gtF c a
    · simp [argBest, at3, h1, h2]
    · simp [argBest, at3, h1, h2]
  · cases h2 : gtF c b
    · simp [argBest, at3, h1, h2]
    · simp [argBest, at3, h1, h2]
theorem best3_lt (a b c : UInt64) : at3 a b c (argBest (fun i j => ltF (at3 a b c i) (at3 a b c j)) 2) = min3 a b c := by
  unfold min3
  cases h1 : ltF b a
  · cases h2 : ltF c a
    · simp [argBest, at3, h1, h2]
    · simp [argBest, at3, h1, h2]
  · cases h2 : ltF c b
    · simp [argBest, at3, h1, h2]
    · simp [argBest, at3, h1, h2]
theorem r_max3 {a b c : UInt64} {ta tb tc : Tok} (S : St B σ s) (hA : A.handled = none) (h : ∀ t s', St B σ s' → Q (.float (max3 a b c) t) s') : wpAny (model prog B.w) A (call (.builtin "max") [.float a ta, .float b tb, .float c tc]) Q E s := by
  refine St.viaH (P := fun v => ∃ t, v = .float (max3 a b c) t) S (fun v s' ⟨t, e⟩ S' => e ▸ h t s' S') fun Q' hq => ?_
  have hT : (s.heap.push { cls := .type "tuple", data := .seq #[.float a ta, .float b tb, .float c tc] }).IsTuple s.heap.objs.size (f3 a b c ta tb tc) := ⟨_, Heap.get?_push_size _ rfl, rfl, 0, rfl⟩
  refine call_max3 (wpAny_pyIter_tuple hT ?_)
  refine ⟨_, [_, s.heap.objs.size], [_], _, _, _, _, rfl, Walks.tuple (A := A.in1) hA _ s.heap.objs.size (by rw [Heap.size_push]; exact Nat.ne_of_lt (Nat.lt_succ_self _)) (f3 a b c ta tb tc),
    ⟨⟨_, Heap.get?_push_size _ rfl, rfl, rfl⟩, hT.push _⟩, three_fp, by simp [f3], cmp_gtF (at3 a b c) (fun _ _ => f3_at), fun v h' tk hP hk => hq v h' tk ?_ (three_old hk)⟩
  refine x1a1 (f3_at hP) fun t qz611 => ?_; subst qz611
  have e : (f3 a b c ta tb tc).size - 1 = 2 := rfl
  rw [e, best3_gt]
  exact ⟨t, rfl⟩
theorem r_min3 {a b c : UInt64} {ta tb tc : Tok} (S : St B σ s) (hA : A.handled = none) (h : ∀ t s', St B σ s' → Q (.float (min3 a b c) t) s') : wpAny (model prog B.w) A (call (.builtin "min") [.float a ta, .float b tb, .float c tc]) Q E s := by
  refine St.viaH (P := fun v => ∃ t, v = .float (min3 a b c) t) S (fun v s' ⟨t, e⟩ S' => e ▸ h t s' S') fun Q' hq => ?_
  have hT : (s.heap.push { cls := .type "tuple", data := .seq #[.float a ta, .float b tb, .float c tc] }).IsTuple s.heap.objs.size (f3 a b c ta tb tc) := ⟨_, Heap.get?_push_size _ rfl, rfl, 0, rfl⟩
  refine call_min3 (wpAny_pyIter_tuple hT ?_)
  refine ⟨_, [_, s.heap.objs.size], [_], _, _, _, _, rfl, Walks.tuple (A := A.in1) hA _ s.heap.objs.size (by rw [Heap.size_push]; exact Nat.ne_of_lt (Nat.lt_succ_self _)) (f3 a b c ta tb tc),
    ⟨⟨_, Heap.get?_push_size _ rfl, rfl, rfl⟩, hT.push _⟩, three_fp, by simp [f3], cmp_ltF (at3 a b c) (fun _ _ => f3_at), fun v h' tk hP hk => hq v h' tk ?_ (three_old hk)⟩
  refine x1a1 (f3_at hP) fun t qz711 => ?_; subst qz711
  have e : (f3 a b c ta tb tc).size - 1 = 2 := rfl
  rw [e, best3_lt]
  exact ⟨t, rfl⟩
theorem r_float {x : UInt64} {k pos} (S : St B σ s) (h : ∀ t s', St B σ s' → Q (.float x t) s') : wpAny (model prog B.w) A (eval (.Constant (.float x) k pos) env) Q E s := AutoFloatOps.wpAny_Constant_float (h _ _ (S.tok _))
theorem r_fmul {a b : UInt64} {t u : Tok} (S : St B σ s) (h : ∀ t s', St B σ s' → Q (.float (mul a b) t) s') : wpAny (model prog B.w) A (binaryOp .Mult (.float a t) (.float b u)) Q E s := AutoFloatOps.mul_0 (h _ _ (S.tok _))
theorem r_fadd {a b : UInt64} {t u : Tok} (S : St B σ s) (h : ∀ t s', St B σ s' → Q (.float (add a b) t) s') : wpAny (model prog B.w) A (binaryOp .Add (.float a t) (.float b u)) Q E s := AutoFloatOps.add_0 (h _ _ (S.tok _))
theorem r_fsub {a b : UInt64} {t u : Tok} (S : St B σ s) (h : ∀ t s', St B σ s' → Q (.float (sub a b) t) s') : wpAny (model prog B.w) A (binaryOp .Sub (.float a t) (.float b u)) Q E s := AutoFloatOps.sub_0 (h _ _ (S.tok _))
theorem r_fsubi {a : UInt64} {b : Int} {t u : Tok} (S : St B σ s) (hb : isInf (ofInt b) = false) (h : ∀ t s', St B σ s' → Q (.float (sub a (ofInt b)) t) s') : wpAny (model prog B.w) A (binaryOp .Sub (.float a t) (.int b u)) Q E s := AutoFloatOps.sub_fi_1 (by rw [hb]; decide) (h _ _ (S.tok _))
theorem r_imulf {a : UInt64} {b : Int} {t u : Tok} (S : St B σ s) (hb : isInf (ofInt b) = false) (h : ∀ t s', St B σ s' → Q (.float (mul (ofInt b) a) t) s') : wpAny (model prog B.w) A (binaryOp .Mult (.int b t) (.float a u)) Q E s := AutoFloatOps.mul_if_1 (by rw [hb]; decide) (h _ _ (S.tok _))
theorem r_fdivf {a b : UInt64} {t u : Tok} (S : St B σ s) (hb : isZero b = false) (h : ∀ t s', St B σ s' → Q (.float (div a b) t) s') : wpAny (model prog B.w) A (binaryOp .Div (.float a t) (.float b u)) Q E s := AutoFloatOps.truediv_1 (by rw [hb]; decide) (h _ _ (S.tok _))
theorem r_fmodf {a b : UInt64} {t u : Tok} (S : St B σ s) (hb : isZero b = false) (h : ∀ t s', St B σ s' → Q (.float (divmod a b).snd t) s') : wpAny (model prog B.w) A (binaryOp .Mod (.float a t) (.float b u)) Q E s := AutoFloatOps.mod_1 (by rw [hb]; decide) (h _ _ (S.tok _))
theorem r_idivi {a b : Int} {m n : Nat} {t u : Tok} (S : St B σ s) (ha : a = m) (hb : b = n) (hn : n ≠ 0) (hf : isInf (fl m n) = false) (h : ∀ t s', St B σ s' → Q (.float (fl m n) t) s') : wpAny (model prog B.w) A (binaryOp .Div (.int a t) (.int b u)) Q E s := by
  subst ha; subst hb
  have e : (decide ((m : Int) < 0) != decide ((n : Int) < 0)) = false := by
    rw [decide_eq_false (by omega), decide_eq_false (by omega)]; rfl
  refine AutoIntOps.truediv_2 (by simpa using hn) (by rw [e]; simpa using hf) ?_
  show Q (.float (ofFrac (decide ((m : Int) < 0) != decide ((n : Int) < 0)) (m : Int).natAbs (n : Int).natAbs) s.toks) { s with toks := s.toks + 1 }
  rw [e, Int.natAbs_natCast, Int.natAbs_natCast]
  exact h _ _ (S.tok _)
theorem r_feq {a b : UInt64} {t u : Tok} (h : Q (.bool (eqF a b)) s) : wpAny (model prog B.w) A (compareOp .Eq (.float a t) (.float b u)) Q E s := AutoFloatOps.eq_0 h
theorem r_intf {a : UInt64} {t : Tok} (S : St B σ s) (hf : isFinite a = true) (h : ∀ t s', St B σ s' → Q (.int (truncF a) t) s') : wpAny (model prog B.w) A (call (.type "int") [.float a t]) Q E s := by
  cases hd : decode a with
  | nan => unfold isFinite at hf; rw [hd] at hf; cases hf
  | inf n => unfold isFinite at hf; rw [hd] at hf; cases hf
  | fin sg m e =>
    refine call_int_float hd ?_
    have := h s.toks _ (S.tok (s.toks + 1))
    unfold truncF at this; rw [hd] at this; exact this
end
end
section
noncomputable def KT (p : Params) : Frag := (KK p).filter fun q => q.1 != 94
theorem lookup_filter {x : Addr} : ∀ {l : List (Addr × Obj)} {a : Addr} {o : Obj}, (l.filter fun q => q.1 != x).lookup a = some o → l.lookup a = some o ∧ a ≠ x
  | [], _, _, h => by simp at h
  | (c, d) :: l, a, o, h => by
    by_cases hc : c = x
    · subst hc
      rw [List.filter_cons_of_neg (by simp)] at h
      refine x0a2 (lookup_filter h) fun h1 h2 => ?_
      refine ⟨?_, h2⟩
      rw [List.lookup_cons, beq_eq_false_iff_ne.mpr h2]; exact h1
    · rw [List.filter_cons_of_pos (by simpa using hc)] at h
      rw [List.lookup_cons] at h ⊢
      cases q : a == c with
      | true => rw [q] at h; exact ⟨h, beq_iff_eq.mp q ▸ hc⟩
      | false => rw [q] at h; exact lookup_filter h
section
variable {B : Base} {σ σ' : Led} {s : Shared} {prog : Program} {A : Around} {E : Value → Shared → Prop} {env : Env} {ln gn : List Str} {cs : List (Str × Addr)} {k : Nat}
theorem St.KTIn (S : St B σ s) : (KT B.w.params).In s.heap := fun _ _ h => let ⟨h1, h2⟩ := lookup_filter h; S.KIn h1 h2
theorem kt_get (p : Params) : findIn (KT p) (.ref 88) "get_token" = some (some (.ref 78)) := by kernel_rfl!
theorem kt_read_char (p : Params) : findIn (KT p) (.ref 88) "_read_char" = some (some (.ref 71)) := by kernel_rfl!
theorem kt_push (p : Params) : findIn (KT p) (.ref 88) "push_token" = some (some (.ref 85)) := by kernel_rfl!
theorem kt_init (p : Params) : findIn (KT p) (.ref 88) "__init__" = some (some (.ref 64)) := by kernel_rfl!
theorem kt_none1 (p : Params) : findIn (KT p) (.ref 88) "lineno" = some none := by kernel_rfl!
theorem kt_none2 (p : Params) : findIn (KT p) (.ref 88) "instream" = some none := by kernel_rfl!
theorem kt_none3 (p : Params) : findIn (KT p) (.ref 88) "whitespace" = some none := by kernel_rfl!
theorem kt_none4 (p : Params) : findIn (KT p) (.ref 88) "pushback" = some none := by kernel_rfl!
theorem kt_none5 (p : Params) : findIn (KT p) (.ref 88) "read" = some none := by kernel_rfl!
theorem kt_ga (p : Params) : findIn (KT p) (.ref 88) "__getattribute__" = some (some (.builtin "object.__getattribute__")) := by kernel_rfl!
theorem kt_gt (p : Params) : findIn (KT p) (.ref 88) "__getattr__" = some none := by kernel_rfl!
theorem kt_sa (p : Params) : findIn (KT p) (.ref 88) "__setattr__" = some (some (.builtin "object.__setattr__")) := by kernel_rfl!
theorem kt_makes (p : Params) : makesIn (KT p) 88 = true := by kernel_rfl!
theorem kt_plain (p : Params) : plainOver (KT p) 88 = true := by kernel_rfl!
theorem kt_hasDict (p : Params) : (clsIn (KT p) 88).any (·.hasDict) = true := by kernel_rfl!
theorem lookIn_ns {o : Obj} {es : Array DictEntry} {ep : Nat} {f : Str → Option Value} (hd : o.data = .dict es ep) (hk : StrKeys es) (hf : ∀ name, nsFind es name = f name) (name : Str) : lookIn name o = some (f name) := by
  unfold lookIn
  rw [hd]
  dsimp only
  rw [← hf name]
  unfold nsFind findBy
  rw [← Array.find?_toList]
  cases q : es.toList.find? fun e => e.key.isStr name with
  | some e => rfl
  | none =>
    have : es.toList.any (·.refKey) = false := by
      rw [List.any_eq_false]
      intro e he
      refine x2a1 (hk e (Array.mem_toList_iff.mp he)) fun n t h => ?_
      simp [DictEntry.refKey, h]
    simp [this]
theorem St.inst {x dx : Addr} {m : List (Str × MV)} (S : St B σ s) (hx : (x, VO.obj (instObj 88 dx)) ∈ σ) (hd : (dx, VO.ins m) ∈ σ) :
    ∃ od, InstAt s.heap x (instObj 88 dx) 88 (some od) ∧ (∀ p ∈ m, ∃ v, lookIn p.1 od = some (some v) ∧ p.2.Is s.heap v) ∧ ∀ y, y ∉ m.map (·.1) → lookIn y od = some none := by
  refine x1a4 (S.at (o := .ins m) hd : InsIs s.heap dx m) fun f oy011 nd h1 h2 => ?_; obtain ⟨o, es, ep, ho, hdat, hk, _, hf⟩ := oy011
  refine ⟨o, ⟨(S.at (o := .obj _) hx).1, rfl, rfl, ho⟩, fun p hp => ?_, fun y hy => ?_⟩
  · refine x1a2 (h1 p hp) fun v h3 h4 => ?_
    exact k1a2 v (by rw [lookIn_ns hdat hk hf, h3]) h4
  · rw [lookIn_ns hdat hk hf, h2 y hy]
theorem findObj_own' {p : Params} {od : Obj} {name : Str} {v : Value} (hc : findIn (KT p) (.ref 88) name = some none) (hl : lookIn name od = some (some v)) : findObj (KT p) 88 (some od) name = some (.value v) := by
  refine x1a2 (any_some (kt_hasDict p)) fun cd hcd hdict => ?_
  unfold findObj W.ownOf
  rw [hcd, Option.bind_some, hc]
  simp [hdict, hl]
theorem r_getattr {x dx : Addr} {m : List (Str × MV)} {name : Str} {mv : MV} {expr : Bool} {Q : Value → Shared → Prop} (S : St B σ s) (hx : (x, VO.obj (instObj 88 dx)) ∈ σ) (hd : (dx, VO.ins m) ∈ σ) (hm : (name, mv) ∈ m)
    (hc : findIn (KT B.w.params) (.ref 88) name = some none) (hh : ∀ h v, mv.Is h v → handedIn v = true) (h : ∀ v s', mv.Is s'.heap v → St B σ s' → Q v s') : wpAny (model prog B.w) A (getAttr (.ref x) name expr) Q E s := by
  refine x1a3 (S.inst hx hd) fun od I h1 h2 => ?_
  refine x1a2 (h1 _ hm) fun v h3 h4 => ?_
  exact get_value S.KTIn I (kt_ga _) (findObj_own' hc h3) (hh _ v h4) (h v _ h4 (S.tok _))
theorem hand_int {i : Int} : ∀ (h : Heap) v, (MV.int i).Is h v → handedIn v = true := by rintro h _ ⟨t, rfl⟩; rfl
theorem hand_str {i : Str} : ∀ (h : Heap) v, (MV.str i).Is h v → handedIn v = true := by rintro h _ ⟨t, rfl⟩; rfl
theorem hand_ref {a : Addr} : ∀ (h : Heap) v, (MV.ref a).Is h v → handedIn v = true := by rintro h _ rfl; rfl
/-- a method of the class -/
theorem r_imeth {o : Expr} {name : Str} {apos pos : Pos} {args : List Expr} {f : Addr} {fo : Obj} {fd : FuncData} {Q : Value → Shared → Prop}
    (hbase : attributeBase o name env (eval o env) = eval o env)
    (hplain : (backTo pos (starEach args env)).any (·.1) = false)
    (hfew : ((backTo pos (starEach args env)).all (fun x => !x.1) && (backToKw pos (keywordEach [] env)).all (fun x => x.1.isSome)
      && decide (args.length + ([] : List Keyword).length + (if ([] : List Keyword).isEmpty then 0 else 1) < 30)) = true)
    (hline : (apos.endLine == pos.line) = true)
    (hf : findIn (KT B.w.params) (.ref 88) name = some (some (.ref f))) (ht : typeIn (KT B.w.params) (.ref f) = some (.type "function")) (hfo : (KK B.w.params).lookup f = some fo) (hfd : fo.data = .func fd) (hfa : f ≠ tabA)
    (h : wpAny (model prog B.w) A (eval o env) (fun ov s₁ => ∃ x dx m σ', ov = .ref x ∧ St B σ' s₁ ∧ (x, VO.obj (instObj 88 dx)) ∈ σ' ∧ (dx, VO.ins m) ∈ σ' ∧ name ∉ m.map (·.1) ∧
      wpAny (model prog B.w) A (spliced (backTo pos (starEach args env))) (fun vs s₂ => (∃ σ'', St B σ'' s₂) ∧ wpAny (model prog B.w) A (call (.ref f) (.ref x :: vs)) Q E s₂) E s₁) E s) :
    wpAny (model prog B.w) A (eval (.Call (.Attribute o name apos) args [] pos) env) Q E s := by
  rw [arm_eval_Call, hbase]
  refine wpAny_bind (wpAny_mono h (fun ov s₁ h₁ => ?_) fun _ _ e => e)
  refine x4a6 h₁ fun x dx m σ' qz714 S hx hd hno hc => ?_; clear h₁; subst qz714
  refine wpAny_bind (wpAny_standAt ?_)
  have hform : methodCallForm (args.length + ([] : List Keyword).length) (backTo pos (starEach args env)) (backToKw pos (keywordEach [] env)) = true := hfew
  have hpos : methodCallPos true o env apos pos = pure pos := by unfold methodCallPos; simp [hline]
  refine x1a3 (S.inst hx hd) fun od I h1 h2 => ?_
  unfold methodCall
  rw [hform]
  refine wpAny_bind (wpAny_holding (method_fn S.KTIn I (kt_ga _) (kt_gt _) hf ht (by show (lookIn name od).map (·.isSome) = some false; rw [h2 name hno]; rfl) ?_))
  refine wpAny_bind (wpAny_of_eq hpos (Calls.callWith_function (o := fo) (fd := fd) (evalArgs_of hplain (wpAny_mono hc (fun vs s₂ h₂ => ?_) fun _ _ e => e))))
  refine x0a2 h₂ fun oy910 h₂ => ?_; refine x1a1 oy910 fun σ'' S' => ?_; clear oy910
  exact ⟨⟨S'.KIn hfo hfa, hfd⟩, h₂⟩
end
end
section
section
open Sem (wp)
theorem wp_nsSetB {M : Model} {Γ : Ctx} {E : Value → Pos → Shared → Prop} {p : Pos} {s : Shared} {a : Addr} {m : Str → Option Value} {N : Nat} (hn : NsB s.heap a m N) (name : Str) (v : Value) (Q : Unit → Pos → Shared → Prop)
    (hQ : ∀ h', NsB h' a (fun x => if x = name then some v else m x) (if (m name).isSome then N else N + 1) → Heap.SameBut a s.heap h' → Q () p { s with heap := h', toks := s.toks + 1 }) : wp M Γ (nsSet a name v) Q E p s := by
  refine x3a5 hn fun o es ep ho hd hk hsz hm => ?_; clear hn
  simp only [nsSet, strHash, Sem.wp_bind', Sem.wp_cmd_ask, Sem.wp_pure', Sem.wp_cmd_mkText]
  rw [Sem.wp_loadPart_of M Γ E p { s with toks := s.toks + 1 } (o := o) _ ho]
  have hany : es.any (·.refKey) = false := by
    rw [Array.any_eq_false']; intro e he; refine x2a1 (hk e he) fun n t h => ?_; simp [DictEntry.refKey, h]
  simp only [hd, aRefKeyMayBeTheName_eq, aRefKeyMayBeTheNameByArray, hany, Bool.and_false, Bool.false_eq_true, if_false, Sem.wp_cmd_updatePart]
  refine ⟨by rw [ho]; rfl, hQ _ ?_ (Heap.SameBut.update ..)⟩
  obtain ⟨c, d, dt, sl⟩ := o
  subst hd
  cases hi : es.findIdx? (·.key.isStr name) with
  | some i =>
    have hsome : (m name).isSome = true := by
      rw [← hm]; unfold nsFind; rw [findBy_of_findIdx?, hi]
      have := (Array.findIdx?_eq_some_iff_getElem.mp hi).1
      simp [this]
    rw [if_pos hsome]
    refine k3a5 _ _ ep (Heap.get?_update_self _ ho (by simp only [Obj.putName_eq, Obj.putNameByArray, hi]; rfl)) (by simp only [Obj.putName_eq, Obj.putNameByArray, hi]; rfl) (hk.modify _ _) (by simpa using hsz) (fun x => ?_)
    show _ = if x = name then some v else m x
    rw [← hm]; exact findBy_modify (fun n v => v.isStr n) Value.isStr_inj es name x v i hi
  | none =>
    have hnone : (m name).isSome = false := by
      rw [← hm]; unfold nsFind; rw [findBy_of_findIdx?, hi]; rfl
    have e1 : (if (m name).isSome = true then N else N + 1) = N + 1 := by rw [hnone]; rfl
    rw [e1]
    refine k3a5 _ _ (ep + 1) (Heap.get?_update_self _ ho (by simp only [Obj.putName_eq, Obj.putNameByArray, hi]; rfl)) (by simp only [Obj.putName_eq, Obj.putNameByArray, hi]; rfl) (hk.push _ _ _ _) (by simpa using hsz) (fun x => ?_)
    show _ = if x = name then some v else m x
    rw [← hm]
    exact findBy_push (fun n v => v.isStr n) es name x _ _ v (fun y => by
      show (name == y) = decide (y = name)
      by_cases h : y = name
      · subst h; simp
      · have : ¬ name = y := fun e => h e.symm
        simp [h, this]) hi
end
theorem wpAny_nsSetB {M : Model} {A : Around} {E : Value → Shared → Prop} {s : Shared} {a : Addr} {m : Str → Option Value} {N : Nat} {name : Str} {v : Value} {Q : Unit → Shared → Prop} (hn : NsB s.heap a m N)
    (h : ∀ h', NsB h' a (fun x => if x = name then some v else m x) (if (m name).isSome then N else N + 1) → Heap.SameBut a s.heap h' → Q () { s with heap := h', toks := s.toks + 1 }) :
    wpAny M A (nsSet a name v) Q E s := fun _ _ _ => wp_nsSetB hn name v _ h
/-- the same dict with one entry put -/
inductive Put (x : Str) (v : MV) : List (Str × MV) → List (Str × MV) → Prop
  | last : Put x v [] [(x, v)]
  | here {o r} : Put x v ((x, o) :: r) ((x, v) :: r)
  | there {p r r'} : p.1 ≠ x → Put x v r r' → Put x v (p :: r) (p :: r')
theorem Put.mem {x v m m'} (u : Put x v m m') : ∀ y, y ∈ m'.map (·.1) ↔ (y = x ∨ y ∈ m.map (·.1)) := by
  induction u with
  | last => intro y; simp
  | here => intro y; simp
  | there hne u ih => intro y; simp only [List.map_cons, List.mem_cons, ih]; constructor <;> (rintro (h | h | h) <;> simp [h])
theorem Put.nd {x v m m'} (u : Put x v m m') (nd : (m.map (·.1)).Nodup) : (m'.map (·.1)).Nodup := by
  induction u with
  | last => simp
  | here => exact nd
  | @there p r r' hne u ih =>
    rw [List.map_cons, List.nodup_cons] at nd ⊢
    refine ⟨fun h => ?_, ih nd.2⟩
    rcases (u.mem p.1).mp h with h | h
    · exact hne h
    · exact nd.1 h
theorem Put.cases {x v m m'} (u : Put x v m m') (nd : (m.map (·.1)).Nodup) : ∀ p ∈ m', p = (x, v) ∨ (p ∈ m ∧ p.1 ≠ x) := by
  induction u with
  | last => intro p hp; left; simpa using hp
  | @here o r =>
    intro p hp
    rcases List.mem_cons.mp hp with rfl | hp
    · exact .inl rfl
    · exact .inr ⟨.tail _ hp, fun q => (List.nodup_cons.mp nd).1 (q ▸ List.mem_map_of_mem (f := (·.1)) hp)⟩
  | @there q r r' hne u ih =>
    intro p hp
    rcases List.mem_cons.mp hp with rfl | hp
    · exact .inr ⟨.head _, hne⟩
    · exact (ih (List.nodup_cons.mp nd).2 p hp).imp id fun ⟨a, b⟩ => ⟨.tail _ a, b⟩
theorem Put.len {x v m m'} (u : Put x v m m') : m'.length = if x ∈ m.map (·.1) then m.length else m.length + 1 := by
  induction u with
  | last => simp
  | here => simp
  | @there p r r' hne u ih =>
    have : (x ∈ (p :: r).map (·.1)) ↔ (x ∈ r.map (·.1)) := by simp [Ne.symm hne]
    rw [List.length_cons, ih]
    by_cases hx : x ∈ r.map (·.1)
    · rw [if_pos hx, if_pos (this.mpr hx)]; rfl
    · rw [if_neg hx, if_neg (fun h => hx (this.mp h))]; rfl
section
variable {B : Base} {σ σ' : Led} {s : Shared} {prog : Program} {A : Around} {E : Value → Shared → Prop}
theorem r_setattr {x dx : Addr} {m m' : List (Str × MV)} {name : Str} {v : Value} {mv : MV} {Q : Unit → Shared → Prop} (S : St B σ s) (hx : (x, VO.obj (instObj 88 dx)) ∈ σ) (u : Upd dx (.ins m) (.ins m') σ σ') (hp : Put name mv m m')
    (ht : takerIn (KT B.w.params) 88 name = some none) (hsz : m.length ≤ 100) (hv : mv.Is s.heap v) (h : ∀ s', St B σ' s' → Q () s') : wpAny (model prog B.w) A (setAttr (.ref x) name v) Q E s := by
  refine x1a3 (S.inst hx u.mem) fun od I _ _ => ?_
  refine x1a4 (S.at (o := .ins m) u.mem : InsIs s.heap dx m) fun f n nd h1 h2 => ?_
  have hxo := I.at_
  have nt : ∀ cs, ¬ TupAt s.heap dx cs := VO.notTup (o := .ins m) ⟨f, n, nd, h1, h2⟩ rfl
  refine set_plain S.KTIn I (kt_sa _) (osa_open (s := { s with toks := s.toks + 1 }) (S.tok (s.toks + 1)).KTIn I (kt_plain _) ht fun b => ?_)
  refine x1a2 (any_some (kt_hasDict B.w.params)) fun cd hc hd' => ?_
  refine wpAny_bind (wpAny_pure (wpAny_bind (wpAny_bind (wpAny_loadPart hxo (wpAny_bind ((looks_clsIn (S.tok (s.toks + 1)).KTIn hc).here ?_))))))
  rw [hd']
  refine wpAny_pure (a := some dx) (wpAny_bind (wpAny_pure (wpAny_bind ?_)))
  refine wpAny_nsSetB (s := { s with toks := s.toks + 1 }) n fun h' hn' hs => ?_
  have hlen : (if (f name).isSome = true then m.length else m.length + 1) = m'.length := by
    rw [hp.len]
    by_cases hx : name ∈ m.map (·.1)
    · rw [if_pos hx]
      refine x1a2 (List.mem_map.mp hx) fun p hp' qz612 => ?_; subst qz612
      refine x1a2 (h1 p hp') fun w hw _ => ?_
      rw [hw]; rfl
    · rw [if_neg hx, h2 name hx]; rfl
  rw [hlen] at hn'
  have S' := S.upd (h' := h') u rfl hs.extBut (s.toks + 1 + 1) ⟨_, hn', hp.nd nd, fun p hp' => ?_, fun y hy => ?_⟩
  · refine x3a5 hn' fun o' es' ep' ho' hdat' hk' hsz' hf' => ?_; clear hn'
    refine wpAny_bind (wpAny_lookBehind ho' (by rw [hdat']; exact pastItsLine_dict (by rw [sizeLine_eq]; have := hp.len; split at this <;> lia)) ?_)
    exact wpAny_pure (h _ S')
  · rcases hp.cases nd p hp' with rfl | ⟨hpm, hne⟩
    · exact k1a2 v (by simp) (hv.extBut hs.extBut nt)
    · refine x1a2 (h1 p hpm) fun w h3 h4 => ?_
      exact k1a2 w (by simp [hne, h3]) (h4.extBut hs.extBut nt)
  · have hy' := mt (hp.mem y).mpr hy
    simp only [not_or] at hy'
    simp [hy'.1, h2 y hy'.2]
end
end
section
section
variable {B : Base} {σ σ' : Led} {s : Shared} {prog : Program} {A : Around} {E : Value → Shared → Prop} {env : Env} {ln gn : List Str} {cs : List (Str × Addr)}
theorem Ok.typeCall {k : Nat} {C : Addr} {vals : List Value} (h : Ok A (k + 1)) : Ok (A.under (.builtin "type.__call__" ⟨.ref C :: vals, []⟩)) k := by
  refine ⟨?_, ?_, h.handled⟩
  · rw [depth_under_kw]; have := h.depth; lia
  · have hu : (Code.builtin "type.__call__" ⟨.ref C :: vals, []⟩).cUnits = 1 := by kernel_rfl!
    have := h.units
    show A.units + (Code.builtin "type.__call__" ⟨.ref C :: vals, []⟩).cUnits + 20 * k ≤ 9000
    rw [hu]; lia
/-- making an object of the class: the object, its empty dict, then its __init__ -/
theorem r_make {v : Value} {Q : Value → Shared → Prop} (S : St B σ s)
    (h : ∀ x dx s', St B ((x, VO.obj (instObj 88 dx)) :: (dx, VO.ins []) :: σ) s' →
      codeAny (model prog B.w) (A.under (.builtin "type.__call__" ⟨[.ref 88, v], []⟩)) (.call (.ref 64) ⟨[.ref x, v], []⟩) (InitBack x fun r s' => match r with | .ok (.ret v) => Q v s' | .ok _ => False | .error e => E e s') s') :
    wpAny (model prog B.w) A (call (.ref 88) [v]) Q E s := by
  refine wpAny_call ?_
  have K := S.KTIn
  obtain ⟨hh, g, d, t, os⟩ := s
  refine make_core (makes_of K (kt_makes _)) (looks_findIn K (kt_init _)) (fun self => bind_fn K self (by kernel_rfl!)) (.inl rfl) ?_
  have S1 := S.push (ob := emptyDict) (o := .ins []) t ⟨fun _ => none, ⟨_, #[], 0, Heap.get?_push_size _ rfl, rfl, fun e he => by simp at he, Nat.le_refl _, fun _ => rfl⟩, List.nodup_nil, (fun _ hp => nomatch hp), fun _ _ => rfl⟩ (Nat.le_refl _)
  have S2 := S1.push (ob := instObj 88 hh.objs.size) (o := .obj (instObj 88 hh.objs.size)) t ⟨Heap.get?_push_size _ rfl, fun e => nomatch e⟩ (Nat.le_refl _)
  have hsz : (hh.push emptyDict).objs.size = hh.objs.size + 1 := Heap.size_push ..
  have := h _ _ _ S2
  dsimp only at this
  rw [hsz] at this
  exact this
end
end
section
theorem St.perm {B : Base} {σ σ' : Led} {s : Shared} (S : St B σ s) (p : σ'.Perm σ) : St B σ' s :=
  ⟨S.old, fun q hq => S.is q (p.subset hq), fun q hq => S.fresh q (p.subset hq), (p.map _).nodup_iff.mpr S.nd, S.gens, S.drawn, S.os, S.pos⟩
/-- the same heap, one entry told otherwise -/
theorem St.repl {B : Base} {σ σ' : Led} {s : Shared} {x : Addr} {o o' : VO} (S : St B σ s) (u : Upd x o o' σ σ') (h : o.Is s.heap x → o'.Is s.heap x) : St B σ' s := by
  refine ⟨S.old, fun p hp => ?_, fun p hp => ?_, by rw [u.keys]; exact S.nd, S.gens, S.drawn, S.os, S.pos⟩
  · rcases u.mem' p hp with rfl | hp
    · exact h (S.is _ u.mem)
    · exact S.is p hp
  · rcases u.mem' p hp with rfl | hp
    · exact S.fresh (x, o) u.mem
    · exact S.fresh p hp
/-- forget what stands under the names of l -/
theorem cellOf_at {env : Env} {x : Str} {c : Addr} (h : env.cells.lookup x = some c) : cellOf env x = pure c := by unfold cellOf; rw [h]
theorem closureFor_go {env : Env} : ∀ (names : List (Str × NameKind)) (cl acc : List (Str × Addr)), ((names.filter fun p => p.2 == NameKind.free).map (·.1)) = (cl.map (·.1)) → (∀ p ∈ cl, env.cells.lookup p.1 = some p.2) →
    (forIn names acc (fun (x : Str × NameKind) (cs : List (Str × Addr)) => match x with | (name, kind) => if (kind == NameKind.free) = true then (do let a ← cellOf env name; pure (ForInStep.yield ((name, a) :: cs)) : Sem (ForInStep (List (Str × Addr)))) else pure (ForInStep.yield cs))) = pure (cl.reverse ++ acc)
  | [], cl, acc, h, _ => by
    have : cl = [] := by simpa using h.symm
    subst this; rfl
  | (n, k) :: r, cl, acc, h, hl => by
    rw [List.forIn_cons]
    by_cases hk : (k == NameKind.free) = true
    · rw [List.filter_cons_of_pos (by exact hk)] at h
      cases cl with
      | nil => simp at h
      | cons q cl =>
        simp only [List.map_cons, List.cons.injEq] at h
        obtain ⟨rfl, h⟩ := h
        have e := cellOf_at (hl q (.head _))
        simp only [hk, if_true, e, pure_bind]
        have ih := closureFor_go r cl ((q.1, q.2) :: acc) h fun p hp => hl p (.tail _ hp)
        simp only [List.reverse_cons, List.append_assoc, List.singleton_append]
        exact ih
    · rw [List.filter_cons_of_neg (by exact hk)] at h
      simp only [hk, if_false, pure_bind]
      exact closureFor_go r cl acc h hl
theorem closureFor_eq {scope : Scope} {env : Env} {cl : List (Str × Addr)} (h1 : ((scope.names.filter fun p => p.2 == NameKind.free).map (·.1)) = (cl.map (·.1))) (h2 : ∀ p ∈ cl, env.cells.lookup p.1 = some p.2) : closureFor scope env = pure cl.reverse := by
  unfold closureFor
  have := closureFor_go scope.names cl [] h1 h2
  rw [List.append_nil] at this
  simp only [bind_pure_comp] at this ⊢
  first | exact this | (erw [this]; rfl)
section
variable {B : Base} {σ σ' : Led} {s : Shared} {prog : Program} {A : Around} {E : Value → Shared → Prop} {env : Env} {ln gn : List Str} {cs : List (Str × Addr)}
theorem closure_of {scope : Scope} {cl : List (Str × Addr)} (hE : EnvOk env ln cs gn) (h1 : ((scope.names.filter fun p => p.2 == NameKind.free).map (·.1)) = (cl.map (·.1))) (h2 : ∀ p ∈ cl, p ∈ cs) : closureFor scope env = pure cl.reverse :=
  closureFor_eq h1 fun p hp => (hE.cell p (h2 p hp)).2
/- cells -/
theorem r_cell {x : Str} {c : Addr} {pos : Pos} {mv : MV} {Q : Value → Shared → Prop} (S : St B σ s) (hE : EnvOk env ln cs gn) (hx : (x, c) ∈ cs) (hm : (c, VO.cell (some mv)) ∈ σ)
    (h : ∀ v, mv.Is s.heap v → Q v s) : wpAny (model prog B.w) A (eval (.Name x pos) env) Q E s := by
  refine x1a2 (S.at (o := .cell (some mv)) hm : ∃ w, s.heap.IsCell c (some w) ∧ mv.Is s.heap w) fun w hc hw => ?_
  refine x0a2 (hE.cell _ hx) fun hk hl => ?_
  have hd := hE.nodebug x (by simp; exact .inr (.inl ⟨c, hx⟩))
  rcases hk with hk | hk
  · exact wpAny_Name (wpAny_loadName_cell hE.kind hk hl hc (h w hw)) hd
  · exact wpAny_Name (wpAny_loadName_free hE.kind hk hl hc (h w hw) (hE.nocd _ hx)) hd
theorem r_cell_int {x : Str} {c : Addr} {pos : Pos} {i : Int} {Q : Value → Shared → Prop} (S : St B σ s) (hE : EnvOk env ln cs gn) (hx : (x, c) ∈ cs) (hm : (c, VO.cell (some (MV.sc (.int i)))) ∈ σ)
    (h : ∀ t, Q (.int i t) s) : wpAny (model prog B.w) A (eval (.Name x pos) env) Q E s := r_cell S hE hx hm fun _ ⟨t, e⟩ => e ▸ h t
theorem r_cell_str {x : Str} {c : Addr} {pos : Pos} {i : Str} {Q : Value → Shared → Prop} (S : St B σ s) (hE : EnvOk env ln cs gn) (hx : (x, c) ∈ cs) (hm : (c, VO.cell (some (MV.sc (.str i)))) ∈ σ)
    (h : ∀ t, Q (.str i t) s) : wpAny (model prog B.w) A (eval (.Name x pos) env) Q E s := r_cell S hE hx hm fun _ ⟨t, e⟩ => e ▸ h t
theorem r_cell_val {x : Str} {c : Addr} {pos : Pos} {u : Value} {Q : Value → Shared → Prop} (S : St B σ s) (hE : EnvOk env ln cs gn) (hx : (x, c) ∈ cs) (hm : (c, VO.cell (some (MV.val u))) ∈ σ)
    (h : Q u s) : wpAny (model prog B.w) A (eval (.Name x pos) env) Q E s := r_cell S hE hx hm fun _ e => e ▸ h
theorem r_storeC {x : Str} {c : Addr} {v : Value} {o : Option MV} {mv : MV} {Q : Unit → Shared → Prop} (S : St B σ s) (hE : EnvOk env ln cs gn) (hx : (x, c) ∈ cs) (hv : mv.Is s.heap v) (u : Upd c (.cell o) (.cell (some mv)) σ σ')
    (h : ∀ s', St B σ' s' → Q () s') : wpAny (model prog B.w) A (storeName env x v) Q E s := by
  refine x0a2 (hE.cell _ hx) fun hk hl => ?_
  have nt : ∀ cs, ¬ TupAt s.heap c cs := VO.notTup (S.at u.mem) rfl
  obtain ⟨v₀, hc⟩ : ∃ v₀, s.heap.IsCell c v₀ := by
    have := S.at u.mem
    cases o with
    | none => exact this
    | some mw => refine x1a2 (this : ∃ w, s.heap.IsCell c (some w) ∧ mw.Is s.heap w) fun w hc _ => ?_; clear this; exact ⟨_, hc⟩
  have fin : ∀ h' : Heap, h'.IsCell c (some v) → Heap.SameBut c s.heap h' → Q () { s with heap := h' } := fun h' hv' hs => h _ (S.upd u rfl hs.extBut s.toks ⟨v, hv', hv.extBut hs.extBut nt⟩)
  rcases hk with hk | hk
  · exact wpAny_storeName_cell hE.kind hk hl hc fin
  · unfold storeName
    simp only [hk, hE.kind]
    exact wpAny_bind (wpAny_cellOf hl (wpAny_cellSet hc fin))
theorem r_storeC_int {x : Str} {c : Addr} {i : Int} {t : Tok} {o : Option MV} {Q : Unit → Shared → Prop} (S : St B σ s) (hE : EnvOk env ln cs gn) (hx : (x, c) ∈ cs) (u : Upd c (.cell o) (.cell (some (.sc (.int i)))) σ σ')
    (h : ∀ s', St B σ' s' → Q () s') : wpAny (model prog B.w) A (storeName env x (.int i t)) Q E s := r_storeC (mv := .sc (.int i)) S hE hx (show MV.Is s.heap (.sc (.int i)) (.int i t) from ⟨t, rfl⟩) u h
theorem r_storeC_str {x : Str} {c : Addr} {i : Str} {t : Tok} {o : Option MV} {Q : Unit → Shared → Prop} (S : St B σ s) (hE : EnvOk env ln cs gn) (hx : (x, c) ∈ cs) (u : Upd c (.cell o) (.cell (some (.sc (.str i)))) σ σ')
    (h : ∀ s', St B σ' s' → Q () s') : wpAny (model prog B.w) A (storeName env x (.str i t)) Q E s := r_storeC (mv := .sc (.str i)) S hE hx (show MV.Is s.heap (.sc (.str i)) (.str i t) from ⟨t, rfl⟩) u h
theorem r_storeC_val {x : Str} {c : Addr} {a : Addr} {o : Option MV} {Q : Unit → Shared → Prop} (S : St B σ s) (hE : EnvOk env ln cs gn) (hx : (x, c) ∈ cs) (u : Upd c (.cell o) (.cell (some (.val (.ref a)))) σ σ')
    (h : ∀ s', St B σ' s' → Q () s') : wpAny (model prog B.w) A (storeName env x (.ref a)) Q E s := r_storeC (mv := .val (.ref a)) S hE hx (show MV.Is s.heap (.val (.ref a)) (.ref a) from rfl) u h
theorem bindL_loc (ko : Str → Option NameKind) : ∀ (binds : List (Str × Value)) (m : Str → Option Value), (∀ x ∈ binds, ko x.1 = some .local) → ∀ y, bindL ko binds m y = (binds.reverse.lookup y).or (m y)
  | [], m, _, y => by simp [bindL]
  | (n, v) :: r, m, h, y => by
    unfold bindL
    rw [bindL_loc ko r _ (fun x hx => h x (.tail _ hx)) y, List.reverse_cons, lookup_snoc, if_pos (h _ (.head _))]
    cases (r.reverse.lookup y) with
    | some w => simp
    | none =>
      by_cases hy : y = n
      · subst hy; simp
      · simp [hy]
theorem bindC_loc (ko : Str → Option NameKind) : ∀ (binds : List (Str × Value)) (m : Str → Option Value), (∀ x ∈ binds, ko x.1 = some .local) → bindC ko binds m = m
  | [], _, _ => rfl
  | (n, v) :: r, m, h => by
    unfold bindC
    rw [if_pos (h _ (.head _))]
    exact bindC_loc ko r m fun x hx => h x (.tail _ hx)
theorem zip_fst_snd : ∀ l : List (Str × Addr), l = (l.map (·.1)).zip (l.map (·.2))
  | [] => rfl
  | (a, b) :: r => by simp only [List.map_cons, List.zip_cons_cons, ← zip_fst_snd r]
noncomputable def envC (name : Str) (scope : Scope) (L a : Addr) (cd : Value) (cells : List (Str × Addr)) : Env :=
  { scope := scope, locals := L, globals := mainGlobals, cells := cells, qual := name ++ ".<locals>.", func := some a, code := cd, frame := some L, builtins := builtinsNs }
noncomputable def cellLed (as : List Addr) : Led := as.map fun c => (c, VO.cell none)
/-- what stands at the top, when no token may have been drawn yet -/
noncomputable def St0 (B : Base) (σ : Led) (s : Shared) : Prop := ∀ k, s.toks < k → St B σ { s with toks := k }
theorem r_callCells0 {name : Str} {params : Arguments} {body : List Stmt} {scope : Scope} {pm cd doc : Value} {a : Addr} {o : Obj} {args : List Value} {mvs : List MV} {R : Result → Shared → Prop} {ns : List (Str × Option MV)} {k : Nat} {cn : List Str}
    (S0 : St0 B σ s) (hA : Ok A (k + 1)) (ho : s.heap.get? a = some o)
    (hdata : o.data = .func (Calls.docDef name params body scope pm cd doc)) (hcd : s.heap.CodeRec cd name)
    (hargs : AllMV s.heap mvs args)
    (hns : ns = initNs ln (params.args.map (·.arg)) mvs)
    (hbind : ∀ args : List Value, args.length = mvs.length → bindArgs (Calls.docDef name params body scope pm cd doc) ⟨args, []⟩ = pure ((params.args.map (·.arg)).zip args))
    (hsc : scope.kind = .function ∧ (∀ x ∈ ln, scope.names.lookup x = some .local) ∧ (∀ x ∈ gn, scope.names.lookup x = some .globalImplicit) ∧ (∀ x ∈ ln ++ cn ++ gn, (x == ("__debug__" : Str)) = false) ∧ ln.Nodup ∧
      (∀ x ∈ params.args.map (·.arg), scope.names.lookup x = some .local) ∧ (params.args.map (·.arg)).Nodup ∧ scope.isCoroutine = false ∧ scope.isGenerator = false)
    (hcells : (cellsFrom 0 scope.names []).map (·.1) = cn ∧ cn.Nodup ∧ (∀ x ∈ cn, scope.names.lookup x = some .cell) ∧ (∀ x ∈ cn, (x == ("__classdict__" : Str)) = false))
    (h : ∀ env as s', as.length = cn.length → EnvOk env ln (cn.zip as) gn → env = envC name scope env.locals a cd (cn.zip as) → St0 B ((env.locals, .ns ns) :: (cellLed as ++ σ)) s' → s.toks ≤ s'.toks → Ok (A.deeper env) k →
      wpAny (model prog B.w) (A.deeper env) (execs body env) (fun f s'' => R (.ok (.ret (match f with | .ret v => v | _ => .none))) s'') (fun _ _ => False) s') :
    codeAny (model prog B.w) A (.call (.ref a) ⟨args, []⟩) R s := by
  have S := S0 (s.toks + 1) (Nat.lt_succ_self _)
  obtain ⟨k1, k2, k3, k4, k5, k6, k6', k8, k9⟩ := hsc
  refine x0a4 hcells fun c1 c2 c3 c4 => ?_; clear hcells
  refine codeAny_call_function hA.room ho hdata k8 k9 rfl hcd ?_
  rw [hbind args hargs.length]
  have hloc : ∀ x ∈ (params.args.map (·.arg)).zip args, scope.names.lookup x.1 = some .local := fun x hx => k6 _ (List.of_mem_zip hx).1
  refine wpAny_pure ?_
  refine wpAny_mono (wpAny_toks_of (n := s.toks) (Nat.le_refl _) (wpAny_newFunctionEnv_cells (Q := fun env s' => env = newEnv scope s.heap.objs.size mainGlobals (cellsFrom (s.heap.objs.size + 1) scope.names []) (name ++ ".<locals>.") (some a) cd none builtinsNs ∧
    InCallC s env.locals (bindL env.kindOf ((params.args.map (·.arg)).zip args) fun _ => none) env.cells (bindC env.kindOf ((params.args.map (·.arg)).zip args) fun _ => none) s') k1 (fun x hx => .inl (hloc x hx)) fun env he s' x => ⟨he, x⟩)) (fun env s' hq => ?_) fun _ _ x => x.2
  refine x0a3 hq fun htk he X => ?_; clear hq
  have hcn : (cellsFrom (s.heap.objs.size + 1) scope.names []).map (·.1) = cn := by rw [← c1]; exact cellsFrom_names scope.names _ _ [] [] rfl
  obtain ⟨as, hal, has⟩ : ∃ as : List Addr, as.length = cn.length ∧ cellsFrom (s.heap.objs.size + 1) scope.names [] = cn.zip as :=
    ⟨(cellsFrom (s.heap.objs.size + 1) scope.names []).map (·.2), by rw [← hcn]; simp, by rw [← hcn]; exact zip_fst_snd _⟩
  rw [has] at he
  have he' : env = envC name scope env.locals a cd (cn.zip as) := by rw [he]; rfl
  have hL : env.locals = s.heap.objs.size := by rw [he]; rfl
  have hcl : env.cells = cn.zip as := by rw [he]; rfl
  have hko : env.kindOf = fun x => scope.names.lookup x := by rw [he]; rfl
  obtain ⟨⟨⟨h₁, tk, rfl⟩, xns, xkeep, _⟩, xcell, xapart, xabove⟩ := X
  have hnd : ((cn.zip as).map (·.1)).Nodup := (map_fst_zip _ _).nodup c2
  have hzip : ∀ c ∈ as, ∃ x, (x, c) ∈ cn.zip as := fun c hc => by
    obtain ⟨i, hi, e⟩ := List.getElem_of_mem hc
    exact ⟨cn[i]'(by omega), List.mem_iff_getElem.mpr ⟨i, by rw [List.length_zip]; omega, by simp [e]⟩⟩
  have hE : EnvOk env ln (cn.zip as) gn := by
    refine ⟨by rw [he]; exact k1, by rw [he]; rfl, by rw [he]; rfl, fun x hx => by rw [hko]; exact k2 x hx, fun p hp => ⟨.inl (by rw [hko]; exact c3 _ (List.of_mem_zip hp).1), by rw [hcl]; exact lookup_of_mem_nodup hnd hp⟩, fun x hx => by rw [hko]; exact k3 x hx, fun x hx => k4 x ?_, fun p hp => c4 _ (List.of_mem_zip hp).1⟩
    rcases List.mem_append.mp hx with hx | hx
    · rcases List.mem_append.mp hx with hx | hx
      · simp [hx]
      · have := (map_fst_zip cn as).subset hx; simp [this]
    · simp [hx]
  refine ⟨S.nolimit.keeps xkeep, codeAny_func ?_⟩
  have sz : ∀ {b : Addr} {oo : Obj}, s.heap.get? b = some oo → b < s.heap.objs.size := fun e => Heap.lt_size e
  have none_of : ∀ b, s.heap.objs.size ≤ b → s.heap.get? b = none := fun b hb => by
    cases q : s.heap.get? b with
    | none => rfl
    | some oo => exact absurd (sz q) (Nat.not_lt_of_le hb)
  have base_none : ∀ b, s.heap.objs.size ≤ b → B.h.get? b = none := fun b hb => by
    cases q : B.h.get? b with
    | none => rfl
    | some oo => exact absurd (sz (S.old b oo q (fun e => by subst e; exact absurd (Nat.lt_of_lt_of_le S.tabSome hb) (by decide)))) (Nat.not_lt_of_le hb)
  have nt : ∀ cs, ¬ TupAt s.heap s.heap.objs.size cs := fun cs ⟨vs, n, ho, _⟩ => absurd (sz ho) (Nat.lt_irrefl _)
  have e' : Heap.ExtBut s.heap.objs.size s.heap h₁ := fun b o _ q => xkeep b o q
  have Sx : St0 B ((env.locals, .ns ns) :: (cellLed as ++ σ)) { s with heap := h₁, toks := tk } := by
    intro k' hk'
    have G := (S0 k' (Nat.lt_of_le_of_lt htk hk')).grow (h' := h₁) xkeep k' (Nat.le_refl _)
    show St B _ { s with heap := h₁, toks := k' }
    have hcm : bindC env.kindOf ((params.args.map (·.arg)).zip args) (fun _ => none) = fun _ => none := bindC_loc _ _ _ (by rw [hko]; exact hloc)
    refine ⟨G.old, fun p hp => ?_, fun p hp => ?_, ?_, S.gens, S.drawn, S.os, G.pos⟩
    · rcases List.mem_cons.mp hp with rfl | hp
      · refine k1a3 _ xns (by rw [hns]; unfold initNs; rw [List.map_map]; simpa [Function.comp_def] using k5) (fun p hp mv hmv => ?_)
        rw [hns] at hp
        refine x1a2 (List.mem_map.mp hp) fun x hx qz1212 => ?_; subst qz1212
        refine x1a2 (lookup_zip hargs hmv) fun v h1 h2 => ?_
        refine k1a2 v ?_ (h2.extBut e' nt)
        rw [bindL_loc _ _ _ (by rw [hko]; exact hloc), lookup_rev ((map_fst_zip _ _).nodup k6'), h1]; rfl
      · rcases List.mem_append.mp hp with hp | hp
        · refine x1a2 (List.mem_map.mp hp) fun c hc qz1412 => ?_; subst qz1412
          refine x1a1 (hzip c hc) fun x hx => ?_
          have := xcell x c (by rw [hcl]; exact lookup_of_mem_nodup hnd hx)
          exact ⟨_, this⟩
        · exact G.is p hp
    · rcases List.mem_cons.mp hp with rfl | hp
      · exact base_none _ (by rw [hL]; exact Nat.le_refl _)
      · rcases List.mem_append.mp hp with hp | hp
        · refine x1a2 (List.mem_map.mp hp) fun c hc qz1612 => ?_; subst qz1612
          refine x1a1 (hzip c hc) fun x hx => ?_
          have := xabove x c (by rw [hcl]; exact hx)
          exact base_none _ (by rw [hL] at this; exact Nat.le_of_lt this)
        · exact S.fresh p hp
    · have hin : ∀ p ∈ σ, p.1 < s.heap.objs.size := fun p hp => by
        have i := S.is p hp
        have S1 := S.new (a := s.heap.objs.size) (o := .obj ⟨.none, none, .fields #[], #[]⟩) (h' := s.heap.push ⟨.none, none, .fields #[], #[]⟩) (fun b o e => Heap.get?_push_of_some _ e) (s.toks + 1) (none_of _ (Nat.le_refl _)) (base_none _ (Nat.le_refl _)) ⟨Heap.get?_push_size _ rfl, fun e => nomatch e⟩ (Nat.le_refl _)
        rcases Nat.lt_trichotomy p.1 s.heap.objs.size with hlt | heq | hgt
        · exact hlt
        · have nd := S1.nd
          rw [List.map_cons, List.nodup_cons] at nd
          exact absurd (heq ▸ List.mem_map_of_mem (f := (·.1)) hp) nd.1
        · have i2 := S1.is p (.tail _ hp)
          exfalso
          have hs0 : s.heap.get? p.1 = none := none_of _ (Nat.le_of_lt hgt)
          have lt : ∀ {o : VO} {a : Addr}, o.Is s.heap a → s.heap.get? a ≠ none := by
            intro o a i hn
            cases o with
            | ns m => refine x1a2 i fun _ oy711 _ => ?_; clear i; obtain ⟨o, _, _, ho, _⟩ := oy711; rw [hn] at ho; cases ho
            | cell v => cases v with
              | none => refine x2a2 i fun _ o ho _ => ?_; clear i; rw [hn] at ho; cases ho
              | some mv => refine x1a2 i fun _ oy911 _ => ?_; clear i; obtain ⟨o, ho, _⟩ := oy911; rw [hn] at ho; cases ho
            | list xs => refine x2a2 i fun _ _ ho _ => ?_; clear i; have := hn.symm.trans ho; cases this
            | tuple cs => refine x2a2 i fun _ _ ho _ => ?_; clear i; have := hn.symm.trans ho; cases this
            | listIter l j => refine x1a2 i fun o ho _ => ?_; clear i; rw [hn] at ho; cases ho
            | rangeIter y l s => have i' : _ = _ := i; rw [hn] at i'; cases i'
            | strIter c y j => refine x0a2 i fun _ oz131 => ?_; clear i; refine x2a2 oz131 fun _ o ho _ => ?_; clear oz131; rw [hn] at ho; cases ho
            | obj o => have i' := i.1; rw [hn] at i'; cases i'
            | ins m => refine x1a2 i fun _ oy1411 _ => ?_; clear i; obtain ⟨o, _, _, ho, _⟩ := oy1411; rw [hn] at ho; cases ho
            | code q => refine x3a2 i fun _ _ _ ho _ => ?_; clear i; rw [hn] at ho; cases ho
            | prefs b c => have i' : _ = _ := i; rw [hn] at i'; cases i'
            | pairAny => refine x2a1 i fun _ _ i' => ?_; clear i; have i' : _ = _ := i'; rw [hn] at i'; cases i'
            | zipo TI TO => have i' : _ = _ := i; rw [hn] at i'; cases i'
          exact lt i hs0
      have hab : ∀ c ∈ as, s.heap.objs.size < c := fun c hc => by
        refine x1a1 (hzip c hc) fun x hx => ?_
        have := xabove x c (by rw [hcl]; exact hx)
        rw [hL] at this; exact this
      have hasnd : as.Nodup := by
        rw [hcl] at xapart
        have : ((cn.zip as).map (·.2)).Nodup := List.pairwise_map.mpr xapart
        rwa [List.map_snd_zip (by omega)] at this
      rw [List.map_cons, List.map_append, List.nodup_cons, List.nodup_append]
      have ecl : (cellLed as).map (·.1) = as := by unfold cellLed; rw [List.map_map]; simp [Function.comp_def]
      rw [ecl]
      refine ⟨fun hm => ?_, hasnd, S.nd, fun x hx y hy q => ?_⟩
      · rcases List.mem_append.mp hm with hm | hm
        · have := hab _ hm; rw [hL] at this; exact Nat.lt_irrefl _ this
        · refine x1a2 (List.mem_map.mp hm) fun p hp q => ?_
          have := hin p hp
          rw [q, hL] at this; exact Nat.lt_irrefl _ this
      · refine x1a2 (List.mem_map.mp hy) fun p hp qz3012 => ?_; subst qz3012
        have h1 := hin p hp
        have h2 := hab _ hx
        rw [q] at h2
        exact Nat.lt_irrefl _ (Nat.lt_trans h1 h2)
  refine wpAny_mono (h env as _ hal hE he' Sx htk hA.deeper) (fun _ _ x => x) fun _ _ x => x.elim
/-- a call of a method: a def whose qualname is not its name -/
theorem St.of0 (S0 : St0 B σ s) (h : 0 < s.toks) : St B σ s :=
  have S := S0 _ (Nat.lt_succ_self _)
  ⟨S.old, S.is, S.fresh, S.nd, S.gens, S.drawn, S.os, h⟩
theorem r_callCells {name : Str} {params : Arguments} {body : List Stmt} {scope : Scope} {pm cd doc : Value} {a : Addr} {o : Obj} {args : List Value} {mvs : List MV} {R : Result → Shared → Prop} {ns : List (Str × Option MV)} {k : Nat} {cn : List Str}
    (S : St B σ s) (hA : Ok A (k + 1)) (ho : s.heap.get? a = some o)
    (hdata : o.data = .func (Calls.docDef name params body scope pm cd doc)) (hcd : s.heap.CodeRec cd name)
    (hargs : AllMV s.heap mvs args)
    (hns : ns = initNs ln (params.args.map (·.arg)) mvs)
    (hbind : ∀ args : List Value, args.length = mvs.length → bindArgs (Calls.docDef name params body scope pm cd doc) ⟨args, []⟩ = pure ((params.args.map (·.arg)).zip args))
    (hsc : scope.kind = .function ∧ (∀ x ∈ ln, scope.names.lookup x = some .local) ∧ (∀ x ∈ gn, scope.names.lookup x = some .globalImplicit) ∧ (∀ x ∈ ln ++ cn ++ gn, (x == ("__debug__" : Str)) = false) ∧ ln.Nodup ∧
      (∀ x ∈ params.args.map (·.arg), scope.names.lookup x = some .local) ∧ (params.args.map (·.arg)).Nodup ∧ scope.isCoroutine = false ∧ scope.isGenerator = false)
    (hcells : (cellsFrom 0 scope.names []).map (·.1) = cn ∧ cn.Nodup ∧ (∀ x ∈ cn, scope.names.lookup x = some .cell) ∧ (∀ x ∈ cn, (x == ("__classdict__" : Str)) = false))
    (h : ∀ env as s', as.length = cn.length → EnvOk env ln (cn.zip as) gn → env = envC name scope env.locals a cd (cn.zip as) → St B ((env.locals, .ns ns) :: (cellLed as ++ σ)) s' → Ok (A.deeper env) k →
      wpAny (model prog B.w) (A.deeper env) (execs body env) (fun f s'' => R (.ok (.ret (match f with | .ret v => v | _ => .none))) s'') (fun _ _ => False) s') :
    codeAny (model prog B.w) A (.call (.ref a) ⟨args, []⟩) R s :=
  r_callCells0 (fun k hk => S.tok k (Nat.le_of_lt hk)) hA ho hdata hcd hargs hns hbind hsc hcells fun env as s' h1 h2 h3 h4 h5 h6 => h env as s' h1 h2 h3 (St.of0 h4 (Nat.lt_of_lt_of_le S.pos h5)) h6
theorem r_callX {fd : FuncData} {body : List Stmt} {a : Addr} {o : Obj} {args : List Value} {mvs : List MV} {R : Result → Shared → Prop} {ns : List (Str × Option MV)} {k : Nat} {ps : List Str}
    (S : St B σ s) (hA : Ok A (k + 1)) (ho : s.heap.get? a = some o)
    (hdata : o.data = .func fd) (hfd : fd.body = .stmts body ∧ fd.closure = [] ∧ fd.globals = mainGlobals ∧ fd.builtins = builtinsNs)
    (hcd : s.heap.CodeRec fd.code fd.qualname)
    (hargs : AllMV s.heap mvs args)
    (hns : ns = initNs ln ps mvs)
    (hbind : ∀ args : List Value, args.length = mvs.length → bindArgs fd ⟨args, []⟩ = pure (ps.zip args))
    (hsc : fd.scope.kind = .function ∧ (∀ x ∈ ln, fd.scope.names.lookup x = some .local) ∧ (∀ x ∈ gn, fd.scope.names.lookup x = some .globalImplicit) ∧ (∀ x ∈ ln ++ gn, (x == ("__debug__" : Str)) = false) ∧ ln.Nodup ∧
      (∀ x ∈ ps, fd.scope.names.lookup x = some .local) ∧ ps.Nodup ∧ (∀ x ∈ fd.scope.names, x.2 ≠ .cell) ∧ fd.scope.isCoroutine = false ∧ fd.scope.isGenerator = false)
    (h : ∀ env s', EnvOk env ln [] gn → St B ((env.locals, .ns ns) :: σ) s' → Ok (A.deeper env) k →
      wpAny (model prog B.w) (A.deeper env) (execs body env) (fun f s'' => R (.ok (.ret (match f with | .ret v => v | _ => .none))) s'') (fun _ _ => False) s') :
    codeAny (model prog B.w) A (.call (.ref a) ⟨args, []⟩) R s := by
  obtain ⟨k1, k2, k3, k4, k5, k6, k6', k7, k8, k9⟩ := hsc
  refine x0a4 hfd fun d1 d2 d3 d4 => ?_; clear hfd
  refine codeAny_call_function hA.room ho hdata k8 k9 d1 hcd ?_
  rw [hbind args hargs.length, d2, d3, d4]
  refine wpAny_pure (wpAny_newFunctionEnv k7 (fun x hx => k6 _ (List.of_mem_zip hx).1) (fun h₁ hns₁ hsb₁ => ⟨S.nolimit.fresh _ hsb₁, codeAny_func ?_⟩) k1)
  have keep : ∀ b o, s.heap.get? b = some o → h₁.get? b = some o := fun b o e => hsb₁.extBut b o (Nat.ne_of_lt (Heap.lt_size e)) (Heap.get?_push_of_some _ e)
  have G := S.new (a := s.heap.objs.size) (o := .ns ns) (h' := h₁) keep (s.toks + (ps.zip args).length) (by
      cases q : s.heap.get? s.heap.objs.size with
      | none => rfl
      | some o => exact absurd (Heap.lt_size q) (Nat.lt_irrefl _)) S.newAddr
    ⟨_, hns₁, by rw [hns]; unfold initNs; rw [List.map_map]; simpa [Function.comp_def] using k5, fun p hp mv hmv => by
      rw [hns] at hp
      refine x1a2 (List.mem_map.mp hp) fun x hx qz3312 => ?_; subst qz3312
      refine x1a2 (lookup_zip hargs hmv) fun v h1 h2 => ?_
      refine k1a2 v ((lookup_rev ?_).trans h1) ?_
      · exact (map_fst_zip _ _).nodup k6'
      have e' : Heap.ExtBut s.heap.objs.size s.heap h₁ := fun b o _ q => keep b o q
      refine h2.extBut e' fun cs ⟨vs, n, ho, _⟩ => absurd (Heap.lt_size ho) (Nat.lt_irrefl _)⟩
  refine wpAny_mono (h (newEnv fd.scope s.heap.objs.size mainGlobals [] (fd.qualname ++ ".<locals>.") (some a) fd.code none builtinsNs) _ ⟨k1, rfl, rfl, k2, fun _ hp => (nomatch hp), k3, fun x hx => k4 x (by simpa using hx), fun _ hp => (nomatch hp)⟩ G hA.deeper) (fun _ _ x => x) fun _ _ x => x.elim
/-- a call of a lambda with free names -/
theorem r_callE {fd : FuncData} {body : Expr} {a : Addr} {o : Obj} {args : List Value} {mvs : List MV} {R : Result → Shared → Prop} {ns : List (Str × Option MV)} {k : Nat} {ps cnm : List Str} {scope : Scope}
    (S : St B σ s) (hA : Ok A (k + 1)) (ho : s.heap.get? a = some o)
    (hdata : o.data = .func fd) (hfd : fd.body = .expr body ∧ fd.closure = cs ∧ fd.globals = mainGlobals ∧ fd.builtins = builtinsNs ∧ fd.scope = scope ∧ cs.map (·.1) = cnm)
    (hcd : s.heap.CodeRec fd.code fd.qualname)
    (hargs : AllMV s.heap mvs args)
    (hns : ns = initNs ln ps mvs)
    (hbind : ∀ args : List Value, args.length = mvs.length → bindArgs fd ⟨args, []⟩ = pure (ps.zip args))
    (hsc : scope.kind = .function ∧ (∀ x ∈ ln, scope.names.lookup x = some .local) ∧ (∀ x ∈ gn, scope.names.lookup x = some .globalImplicit) ∧ (∀ x ∈ ln ++ cnm ++ gn, (x == ("__debug__" : Str)) = false) ∧ ln.Nodup ∧
      (∀ x ∈ ps, scope.names.lookup x = some .local) ∧ ps.Nodup ∧ (∀ x ∈ scope.names, x.2 ≠ .cell) ∧ scope.isCoroutine = false ∧ scope.isGenerator = false)
    (hcs : (∀ x ∈ cnm, scope.names.lookup x = some .free) ∧ cnm.Nodup ∧ (∀ x ∈ cnm, (x == ("__classdict__" : Str)) = false))
    (h : ∀ env s', EnvOk env ln cs gn → St B ((env.locals, .ns ns) :: σ) s' → Ok (A.deeper env) k →
      wpAny (model prog B.w) (A.deeper env) (eval body env) (fun v s'' => R (.ok (.ret v)) s'') (fun _ _ => False) s') :
    codeAny (model prog B.w) A (.call (.ref a) ⟨args, []⟩) R s := by
  refine x0a6 hfd fun d1 d2 d3 d4 qz3514 qz3515 => ?_; clear hfd; subst qz3514; subst qz3515
  obtain ⟨k1, k2, k3, k4, k5, k6, k6', k7, k8, k9⟩ := hsc
  refine kla_callFunE hA.room ho hdata k8 k9 d1 hcd ?_
  rw [hbind args hargs.length, d2, d3, d4]
  refine wpAny_pure (wpAny_newFunctionEnv k7 (fun x hx => k6 _ (List.of_mem_zip hx).1) (fun h₁ hns₁ hsb₁ => ⟨S.nolimit.fresh _ hsb₁, kla_codeExpr ?_⟩) k1)
  have keep : ∀ b o, s.heap.get? b = some o → h₁.get? b = some o := fun b o e => hsb₁.extBut b o (Nat.ne_of_lt (Heap.lt_size e)) (Heap.get?_push_of_some _ e)
  have G := S.new (a := s.heap.objs.size) (o := .ns ns) (h' := h₁) keep (s.toks + (ps.zip args).length) (by
      cases q : s.heap.get? s.heap.objs.size with
      | none => rfl
      | some o => exact absurd (Heap.lt_size q) (Nat.lt_irrefl _)) S.newAddr
    ⟨_, hns₁, by rw [hns]; unfold initNs; rw [List.map_map]; simpa [Function.comp_def] using k5, fun p hp mv hmv => by
      rw [hns] at hp
      refine x1a2 (List.mem_map.mp hp) fun x hx qz3712 => ?_; subst qz3712
      refine x1a2 (lookup_zip hargs hmv) fun v h1 h2 => ?_
      refine k1a2 v ((lookup_rev ?_).trans h1) ?_
      · exact (map_fst_zip _ _).nodup k6'
      have e' : Heap.ExtBut s.heap.objs.size s.heap h₁ := fun b o _ q => keep b o q
      refine h2.extBut e' fun cs ⟨vs, n, ho, _⟩ => absurd (Heap.lt_size ho) (Nat.lt_irrefl _)⟩
  refine wpAny_mono (h (newEnv fd.scope s.heap.objs.size mainGlobals cs (fd.qualname ++ ".<locals>.") (some a) fd.code none builtinsNs) _ ⟨k1, rfl, rfl, k2, fun p hp => ⟨.inr (hcs.1 p.1 (List.mem_map_of_mem (f := (·.1)) hp)), lookup_of_mem_nodup hcs.2.1 hp⟩, k3, k4, fun p hp => hcs.2.2 p.1 (List.mem_map_of_mem (f := (·.1)) hp)⟩ G hA.deeper) (fun _ _ x => x) fun _ _ x => x.elim
end
end
section
/-- whole numbers that an expression tells without a call -/
inductive PEi (env : Env) (ln : List Str) (cs : List (Str × Addr)) (σ : Led) : Expr → Int → Prop
  | con {n k p} : PEi env ln cs σ (.Constant (.int n) k p) n
  | loc {x p m i} (hx : x ∈ ln) (hm : (env.locals, VO.ns m) ∈ σ) (hv : (x, some (MV.sc (.int i))) ∈ m) : PEi env ln cs σ (.Name x p) i
  | cel {x p c i} (hx : (x, c) ∈ cs) (hm : (c, VO.cell (some (MV.sc (.int i)))) ∈ σ) : PEi env ln cs σ (.Name x p) i
  | add {a b x y p} (h1 : PEi env ln cs σ a x) (h2 : PEi env ln cs σ b y) : PEi env ln cs σ (.BinOp a .Add b p) (x + y)
  | sub {a b x y p} (h1 : PEi env ln cs σ a x) (h2 : PEi env ln cs σ b y) : PEi env ln cs σ (.BinOp a .Sub b p) (x - y)
  | mul {a b x y p} (h1 : PEi env ln cs σ a x) (h2 : PEi env ln cs σ b y) (hs : x.natAbs < 2 ^ 64) : PEi env ln cs σ (.BinOp a .Mult b p) (x * y)
  | mod {a b x y p} (h1 : PEi env ln cs σ a x) (h2 : PEi env ln cs σ b y) (hb : 0 < y) : PEi env ln cs σ (.BinOp a .Mod b p) (x % y)
  | fdiv {a b x y p} (h1 : PEi env ln cs σ a x) (h2 : PEi env ln cs σ b y) (hb : 0 < y) (hs : y.natAbs < 2 ^ 64) : PEi env ln cs σ (.BinOp a .FloorDiv b p) (x / y)
inductive PEs (env : Env) (ln : List Str) (cs : List (Str × Addr)) (σ : Led) : Expr → Str → Prop
  | con {n k p} : PEs env ln cs σ (.Constant (.str n) k p) n
  | loc {x p m i} (hx : x ∈ ln) (hm : (env.locals, VO.ns m) ∈ σ) (hv : (x, some (MV.sc (.str i))) ∈ m) : PEs env ln cs σ (.Name x p) i
  | cel {x p c i} (hx : (x, c) ∈ cs) (hm : (c, VO.cell (some (MV.sc (.str i)))) ∈ σ) : PEs env ln cs σ (.Name x p) i
  | add {a b x y p} (h1 : PEs env ln cs σ a x) (h2 : PEs env ln cs σ b y) (hz : x.length + y.length ≤ sizeLine) : PEs env ln cs σ (.BinOp a .Add b p) (x ++ y)
section
variable {B : Base} {σ : Led} {prog : Program} {A : Around} {E : Value → Shared → Prop} {env : Env} {ln gn : List Str} {cs : List (Str × Addr)}
theorem r_pei {e : Expr} {i : Int} (hE : EnvOk env ln cs gn) (d : PEi env ln cs σ e i) : ∀ {s : Shared} {Q : Value → Shared → Prop}, St B σ s → (∀ t s', St B σ s' → Q (.int i t) s') → wpAny (model prog B.w) A (eval e env) Q E s := by
  induction d with
  | con => intro s Q S h; exact r_int S h
  | loc hx hm hv => intro s Q S h; exact r_local_int S hE hx hm hv fun t => h t _ S
  | cel hx hm => intro s Q S h; exact r_cell_int S hE hx hm fun t => h t _ S
  | add _ _ i1 i2 => intro s Q S h; exact wpAny_BinOp (i1 S fun t s1 S1 => i2 S1 fun u s2 S2 => r_add S2 h)
  | sub _ _ i1 i2 => intro s Q S h; exact wpAny_BinOp (i1 S fun t s1 S1 => i2 S1 fun u s2 S2 => r_sub S2 h)
  | mul _ _ hs i1 i2 => intro s Q S h; exact wpAny_BinOp (i1 S fun t s1 S1 => i2 S1 fun u s2 S2 => r_mul S2 hs h)
  | mod _ _ hb i1 i2 => intro s Q S h; exact wpAny_BinOp (i1 S fun t s1 S1 => i2 S1 fun u s2 S2 => r_mod S2 hb h)
  | fdiv _ _ hb hs i1 i2 => intro s Q S h; exact wpAny_BinOp (i1 S fun t s1 S1 => i2 S1 fun u s2 S2 => r_fdiv S2 hb hs h)
theorem r_pes {e : Expr} {x : Str} (hE : EnvOk env ln cs gn) (d : PEs env ln cs σ e x) : ∀ {s : Shared} {Q : Value → Shared → Prop}, St B σ s → (∀ t s', St B σ s' → Q (.str x t) s') → wpAny (model prog B.w) A (eval e env) Q E s := by
  induction d with
  | con => intro s Q S h; exact r_str S h
  | loc hx hm hv => intro s Q S h; exact r_local_str S hE hx hm hv fun t => h t _ S
  | cel hx hm => intro s Q S h; exact r_cell_str S hE hx hm fun t => h t _ S
  | add _ _ hz i1 i2 => intro s Q S h; exact wpAny_BinOp (i1 S fun t s1 S1 => i2 S1 fun u s2 S2 => r_sadd S2 hz h)
theorem r_cmpi {l r : Expr} {whole : Sem Value} {op : CmpOp} {pos : Pos} {x y : Int} {s : Shared} {Q : Bool → Shared → Prop} (hE : EnvOk env ln cs gn) (S : St B σ s) (d1 : PEi env ln cs σ l x) (d2 : PEi env ln cs σ r y)
    (h : ∀ t u s', St B σ s' → wpAny (model prog B.w) A (compareOp op (.int x t) (.int y u)) (fun c s₃ => wpAny (model prog B.w) A (truthy c) Q E s₃) E s')
    (hm : behindInMarks op r = false := by with_unfolding_all rfl) : wpAny (model prog B.w) A (PySem.isTrue (.Compare l [op] [r] pos) env whole) Q E s :=
  wpAny_isTrue_Compare1 (r_pei hE d1 S fun t s1 S1 => r_pei hE d2 S1 fun u s2 S2 => h t u s2 S2) hm
theorem r_cmps {l r : Expr} {whole : Sem Value} {op : CmpOp} {pos : Pos} {x y : Str} {s : Shared} {Q : Bool → Shared → Prop} (hE : EnvOk env ln cs gn) (S : St B σ s) (d1 : PEs env ln cs σ l x) (d2 : PEs env ln cs σ r y)
    (h : ∀ t u s', St B σ s' → wpAny (model prog B.w) A (compareOp op (.str x t) (.str y u)) (fun c s₃ => wpAny (model prog B.w) A (truthy c) Q E s₃) E s')
    (hm : behindInMarks op r = false := by with_unfolding_all rfl) : wpAny (model prog B.w) A (PySem.isTrue (.Compare l [op] [r] pos) env whole) Q E s :=
  wpAny_isTrue_Compare1 (r_pes hE d1 S fun t s1 S1 => r_pes hE d2 S1 fun u s2 S2 => h t u s2 S2) hm
end
section
variable {M : Model} {A : Around} {E : Value → Shared → Prop} {env : Env} {s : Shared}
theorem execs_one {st : Stmt} {Q : Flow → Shared → Prop} (h : wpAny M A (exec st env) Q E s) : wpAny M A (execs [st] env) Q E s :=
  wpAny_execs_cons (wpAny_mono h (fun f s' h' => by cases f <;> first | exact wpAny_execs_nil h' | exact h') fun _ _ x => x)
theorem items_one {pos : Pos} {e : Expr} {Q : List Value → Shared → Prop} (h : wpAny M A (eval e env) (fun v s₁ => Q [v] s₁) E s)
    (he : starEach [e] env = (false, eval e env) :: starEach [] env) : wpAny M A (spliced (backTo pos (starEach [e] env))) Q E s :=
  wpAny_items_cons (wpAny_mono h (fun _ _ h' => wpAny_items_nil h') fun _ _ x => x) he
theorem items_two {pos : Pos} {e f : Expr} {Q : List Value → Shared → Prop} (h : wpAny M A (eval e env) (fun v s₁ => wpAny M A (eval f env) (fun u s₂ => Q [v, u] s₂) E s₁) E s)
    (he : starEach [e, f] env = (false, eval e env) :: starEach [f] env) (hf : starEach [f] env = (false, eval f env) :: starEach [] env) : wpAny M A (spliced (backTo pos (starEach [e, f] env))) Q E s :=
  wpAny_items_cons (wpAny_mono h (fun _ _ h' => items_one h' hf) fun _ _ x => x) he
end
/-- what is asked behind a block, under one name -/
noncomputable def Box : Type := Flow → Shared → Prop
noncomputable def Box.ap (J : Box) : Flow → Shared → Prop := J
noncomputable def Hb (Q : Flow → Shared → Prop) (J : Box) : Prop := ∀ f s, Q f s → J.ap f s
section
variable {M : Model} {A : Around} {E : Value → Shared → Prop} {env : Env} {s : Shared}
theorem Hb.go {Q : Flow → Shared → Prop} {J : Box} (h : Hb Q J) {f : Flow} (q : Q f s) : J.ap f s := h f s q
theorem execs_oneB {st : Stmt} {J : Box} (h : wpAny M A (exec st env) J.ap E s) : wpAny M A (execs [st] env) J.ap E s := execs_one h
theorem execs_consB {st : Stmt} {rest : List Stmt} {J : Box} (h : wpAny M A (exec st env) (fun f s' => match f with | .next => wpAny M A (execs rest env) J.ap E s' | f => J.ap f s') E s) :
    wpAny M A (execs (st :: rest) env) J.ap E s := wpAny_execs_cons h
theorem execs_oneH {st : Stmt} {Q : Flow → Shared → Prop} (h : ∀ J : Box, Hb Q J → wpAny M A (exec st env) J.ap E s) : wpAny M A (execs [st] env) Q E s := execs_one (h Q fun _ _ x => x)
theorem execs_consH {st : Stmt} {rest : List Stmt} {Q : Flow → Shared → Prop} (h : ∀ J : Box, Hb Q J → wpAny M A (exec st env) (fun f s' => match f with | .next => wpAny M A (execs rest env) J.ap E s' | f => J.ap f s') E s) :
    wpAny M A (execs (st :: rest) env) Q E s := wpAny_execs_cons (h Q fun _ _ x => x)
end
theorem me0 {α : Type} {x : α} {l : List α} : x ∈ x :: l := .head _
theorem me1 {α : Type} {e0 x : α} {l : List α} : x ∈ e0 :: x :: l := .tail _ me0
theorem me2 {α : Type} {e0 e1 x : α} {l : List α} : x ∈ e0 :: e1 :: x :: l := .tail _ me1
theorem me3 {α : Type} {e0 e1 e2 x : α} {l : List α} : x ∈ e0 :: e1 :: e2 :: x :: l := .tail _ me2
theorem me4 {α : Type} {e0 e1 e2 e3 x : α} {l : List α} : x ∈ e0 :: e1 :: e2 :: e3 :: x :: l := .tail _ me3
theorem me5 {α : Type} {e0 e1 e2 e3 e4 x : α} {l : List α} : x ∈ e0 :: e1 :: e2 :: e3 :: e4 :: x :: l := .tail _ me4
theorem me6 {α : Type} {e0 e1 e2 e3 e4 e5 x : α} {l : List α} : x ∈ e0 :: e1 :: e2 :: e3 :: e4 :: e5 :: x :: l := .tail _ me5
theorem me7 {α : Type} {e0 e1 e2 e3 e4 e5 e6 x : α} {l : List α} : x ∈ e0 :: e1 :: e2 :: e3 :: e4 :: e5 :: e6 :: x :: l := .tail _ me6
theorem me8 {α : Type} {e0 e1 e2 e3 e4 e5 e6 e7 x : α} {l : List α} : x ∈ e0 :: e1 :: e2 :: e3 :: e4 :: e5 :: e6 :: e7 :: x :: l := .tail _ me7
theorem me9 {α : Type} {e0 e1 e2 e3 e4 e5 e6 e7 e8 x : α} {l : List α} : x ∈ e0 :: e1 :: e2 :: e3 :: e4 :: e5 :: e6 :: e7 :: e8 :: x :: l := .tail _ me8
theorem me10 {α : Type} {e0 e1 e2 e3 e4 e5 e6 e7 e8 e9 x : α} {l : List α} : x ∈ e0 :: e1 :: e2 :: e3 :: e4 :: e5 :: e6 :: e7 :: e8 :: e9 :: x :: l := .tail _ me9
theorem me11 {α : Type} {e0 e1 e2 e3 e4 e5 e6 e7 e8 e9 e10 x : α} {l : List α} : x ∈ e0 :: e1 :: e2 :: e3 :: e4 :: e5 :: e6 :: e7 :: e8 :: e9 :: e10 :: x :: l := .tail _ me10
theorem me12 {α : Type} {e0 e1 e2 e3 e4 e5 e6 e7 e8 e9 e10 e11 x : α} {l : List α} : x ∈ e0 :: e1 :: e2 :: e3 :: e4 :: e5 :: e6 :: e7 :: e8 :: e9 :: e10 :: e11 :: x :: l := .tail _ me11
theorem me13 {α : Type} {e0 e1 e2 e3 e4 e5 e6 e7 e8 e9 e10 e11 e12 x : α} {l : List α} : x ∈ e0 :: e1 :: e2 :: e3 :: e4 :: e5 :: e6 :: e7 :: e8 :: e9 :: e10 :: e11 :: e12 :: x :: l := .tail _ me12
theorem me14 {α : Type} {e0 e1 e2 e3 e4 e5 e6 e7 e8 e9 e10 e11 e12 e13 x : α} {l : List α} : x ∈ e0 :: e1 :: e2 :: e3 :: e4 :: e5 :: e6 :: e7 :: e8 :: e9 :: e10 :: e11 :: e12 :: e13 :: x :: l := .tail _ me13
theorem me15 {α : Type} {e0 e1 e2 e3 e4 e5 e6 e7 e8 e9 e10 e11 e12 e13 e14 x : α} {l : List α} : x ∈ e0 :: e1 :: e2 :: e3 :: e4 :: e5 :: e6 :: e7 :: e8 :: e9 :: e10 :: e11 :: e12 :: e13 :: e14 :: x :: l := .tail _ me14
theorem me16 {α : Type} {e0 e1 e2 e3 e4 e5 e6 e7 e8 e9 e10 e11 e12 e13 e14 e15 x : α} {l : List α} : x ∈ e0 :: e1 :: e2 :: e3 :: e4 :: e5 :: e6 :: e7 :: e8 :: e9 :: e10 :: e11 :: e12 :: e13 :: e14 :: e15 :: x :: l := .tail _ me15
theorem me17 {α : Type} {e0 e1 e2 e3 e4 e5 e6 e7 e8 e9 e10 e11 e12 e13 e14 e15 e16 x : α} {l : List α} : x ∈ e0 :: e1 :: e2 :: e3 :: e4 :: e5 :: e6 :: e7 :: e8 :: e9 :: e10 :: e11 :: e12 :: e13 :: e14 :: e15 :: e16 :: x :: l := .tail _ me16
theorem me18 {α : Type} {e0 e1 e2 e3 e4 e5 e6 e7 e8 e9 e10 e11 e12 e13 e14 e15 e16 e17 x : α} {l : List α} : x ∈ e0 :: e1 :: e2 :: e3 :: e4 :: e5 :: e6 :: e7 :: e8 :: e9 :: e10 :: e11 :: e12 :: e13 :: e14 :: e15 :: e16 :: e17 :: x :: l := .tail _ me17
theorem me19 {α : Type} {e0 e1 e2 e3 e4 e5 e6 e7 e8 e9 e10 e11 e12 e13 e14 e15 e16 e17 e18 x : α} {l : List α} : x ∈ e0 :: e1 :: e2 :: e3 :: e4 :: e5 :: e6 :: e7 :: e8 :: e9 :: e10 :: e11 :: e12 :: e13 :: e14 :: e15 :: e16 :: e17 :: e18 :: x :: l := .tail _ me18
theorem me20 {α : Type} {e0 e1 e2 e3 e4 e5 e6 e7 e8 e9 e10 e11 e12 e13 e14 e15 e16 e17 e18 e19 x : α} {l : List α} : x ∈ e0 :: e1 :: e2 :: e3 :: e4 :: e5 :: e6 :: e7 :: e8 :: e9 :: e10 :: e11 :: e12 :: e13 :: e14 :: e15 :: e16 :: e17 :: e18 :: e19 :: x :: l := .tail _ me19
theorem me21 {α : Type} {e0 e1 e2 e3 e4 e5 e6 e7 e8 e9 e10 e11 e12 e13 e14 e15 e16 e17 e18 e19 e20 x : α} {l : List α} : x ∈ e0 :: e1 :: e2 :: e3 :: e4 :: e5 :: e6 :: e7 :: e8 :: e9 :: e10 :: e11 :: e12 :: e13 :: e14 :: e15 :: e16 :: e17 :: e18 :: e19 :: e20 :: x :: l := .tail _ me20
theorem me22 {α : Type} {e0 e1 e2 e3 e4 e5 e6 e7 e8 e9 e10 e11 e12 e13 e14 e15 e16 e17 e18 e19 e20 e21 x : α} {l : List α} : x ∈ e0 :: e1 :: e2 :: e3 :: e4 :: e5 :: e6 :: e7 :: e8 :: e9 :: e10 :: e11 :: e12 :: e13 :: e14 :: e15 :: e16 :: e17 :: e18 :: e19 :: e20 :: e21 :: x :: l := .tail _ me21
theorem me23 {α : Type} {e0 e1 e2 e3 e4 e5 e6 e7 e8 e9 e10 e11 e12 e13 e14 e15 e16 e17 e18 e19 e20 e21 e22 x : α} {l : List α} : x ∈ e0 :: e1 :: e2 :: e3 :: e4 :: e5 :: e6 :: e7 :: e8 :: e9 :: e10 :: e11 :: e12 :: e13 :: e14 :: e15 :: e16 :: e17 :: e18 :: e19 :: e20 :: e21 :: e22 :: x :: l := .tail _ me22
theorem me24 {α : Type} {e0 e1 e2 e3 e4 e5 e6 e7 e8 e9 e10 e11 e12 e13 e14 e15 e16 e17 e18 e19 e20 e21 e22 e23 x : α} {l : List α} : x ∈ e0 :: e1 :: e2 :: e3 :: e4 :: e5 :: e6 :: e7 :: e8 :: e9 :: e10 :: e11 :: e12 :: e13 :: e14 :: e15 :: e16 :: e17 :: e18 :: e19 :: e20 :: e21 :: e22 :: e23 :: x :: l := .tail _ me23
theorem me25 {α : Type} {e0 e1 e2 e3 e4 e5 e6 e7 e8 e9 e10 e11 e12 e13 e14 e15 e16 e17 e18 e19 e20 e21 e22 e23 e24 x : α} {l : List α} : x ∈ e0 :: e1 :: e2 :: e3 :: e4 :: e5 :: e6 :: e7 :: e8 :: e9 :: e10 :: e11 :: e12 :: e13 :: e14 :: e15 :: e16 :: e17 :: e18 :: e19 :: e20 :: e21 :: e22 :: e23 :: e24 :: x :: l := .tail _ me24
theorem me26 {α : Type} {e0 e1 e2 e3 e4 e5 e6 e7 e8 e9 e10 e11 e12 e13 e14 e15 e16 e17 e18 e19 e20 e21 e22 e23 e24 e25 x : α} {l : List α} : x ∈ e0 :: e1 :: e2 :: e3 :: e4 :: e5 :: e6 :: e7 :: e8 :: e9 :: e10 :: e11 :: e12 :: e13 :: e14 :: e15 :: e16 :: e17 :: e18 :: e19 :: e20 :: e21 :: e22 :: e23 :: e24 :: e25 :: x :: l := .tail _ me25
theorem me27 {α : Type} {e0 e1 e2 e3 e4 e5 e6 e7 e8 e9 e10 e11 e12 e13 e14 e15 e16 e17 e18 e19 e20 e21 e22 e23 e24 e25 e26 x : α} {l : List α} : x ∈ e0 :: e1 :: e2 :: e3 :: e4 :: e5 :: e6 :: e7 :: e8 :: e9 :: e10 :: e11 :: e12 :: e13 :: e14 :: e15 :: e16 :: e17 :: e18 :: e19 :: e20 :: e21 :: e22 :: e23 :: e24 :: e25 :: e26 :: x :: l := .tail _ me26
theorem me28 {α : Type} {e0 e1 e2 e3 e4 e5 e6 e7 e8 e9 e10 e11 e12 e13 e14 e15 e16 e17 e18 e19 e20 e21 e22 e23 e24 e25 e26 e27 x : α} {l : List α} : x ∈ e0 :: e1 :: e2 :: e3 :: e4 :: e5 :: e6 :: e7 :: e8 :: e9 :: e10 :: e11 :: e12 :: e13 :: e14 :: e15 :: e16 :: e17 :: e18 :: e19 :: e20 :: e21 :: e22 :: e23 :: e24 :: e25 :: e26 :: e27 :: x :: l := .tail _ me27
theorem me29 {α : Type} {e0 e1 e2 e3 e4 e5 e6 e7 e8 e9 e10 e11 e12 e13 e14 e15 e16 e17 e18 e19 e20 e21 e22 e23 e24 e25 e26 e27 e28 x : α} {l : List α} : x ∈ e0 :: e1 :: e2 :: e3 :: e4 :: e5 :: e6 :: e7 :: e8 :: e9 :: e10 :: e11 :: e12 :: e13 :: e14 :: e15 :: e16 :: e17 :: e18 :: e19 :: e20 :: e21 :: e22 :: e23 :: e24 :: e25 :: e26 :: e27 :: e28 :: x :: l := .tail _ me28
theorem me30 {α : Type} {e0 e1 e2 e3 e4 e5 e6 e7 e8 e9 e10 e11 e12 e13 e14 e15 e16 e17 e18 e19 e20 e21 e22 e23 e24 e25 e26 e27 e28 e29 x : α} {l : List α} : x ∈ e0 :: e1 :: e2 :: e3 :: e4 :: e5 :: e6 :: e7 :: e8 :: e9 :: e10 :: e11 :: e12 :: e13 :: e14 :: e15 :: e16 :: e17 :: e18 :: e19 :: e20 :: e21 :: e22 :: e23 :: e24 :: e25 :: e26 :: e27 :: e28 :: e29 :: x :: l := .tail _ me29
theorem me31 {α : Type} {e0 e1 e2 e3 e4 e5 e6 e7 e8 e9 e10 e11 e12 e13 e14 e15 e16 e17 e18 e19 e20 e21 e22 e23 e24 e25 e26 e27 e28 e29 e30 x : α} {l : List α} : x ∈ e0 :: e1 :: e2 :: e3 :: e4 :: e5 :: e6 :: e7 :: e8 :: e9 :: e10 :: e11 :: e12 :: e13 :: e14 :: e15 :: e16 :: e17 :: e18 :: e19 :: e20 :: e21 :: e22 :: e23 :: e24 :: e25 :: e26 :: e27 :: e28 :: e29 :: e30 :: x :: l := .tail _ me30
theorem me32 {α : Type} {e0 e1 e2 e3 e4 e5 e6 e7 e8 e9 e10 e11 e12 e13 e14 e15 e16 e17 e18 e19 e20 e21 e22 e23 e24 e25 e26 e27 e28 e29 e30 e31 x : α} {l : List α} : x ∈ e0 :: e1 :: e2 :: e3 :: e4 :: e5 :: e6 :: e7 :: e8 :: e9 :: e10 :: e11 :: e12 :: e13 :: e14 :: e15 :: e16 :: e17 :: e18 :: e19 :: e20 :: e21 :: e22 :: e23 :: e24 :: e25 :: e26 :: e27 :: e28 :: e29 :: e30 :: e31 :: x :: l := .tail _ me31
theorem me33 {α : Type} {e0 e1 e2 e3 e4 e5 e6 e7 e8 e9 e10 e11 e12 e13 e14 e15 e16 e17 e18 e19 e20 e21 e22 e23 e24 e25 e26 e27 e28 e29 e30 e31 e32 x : α} {l : List α} : x ∈ e0 :: e1 :: e2 :: e3 :: e4 :: e5 :: e6 :: e7 :: e8 :: e9 :: e10 :: e11 :: e12 :: e13 :: e14 :: e15 :: e16 :: e17 :: e18 :: e19 :: e20 :: e21 :: e22 :: e23 :: e24 :: e25 :: e26 :: e27 :: e28 :: e29 :: e30 :: e31 :: e32 :: x :: l := .tail _ me32
theorem me34 {α : Type} {e0 e1 e2 e3 e4 e5 e6 e7 e8 e9 e10 e11 e12 e13 e14 e15 e16 e17 e18 e19 e20 e21 e22 e23 e24 e25 e26 e27 e28 e29 e30 e31 e32 e33 x : α} {l : List α} : x ∈ e0 :: e1 :: e2 :: e3 :: e4 :: e5 :: e6 :: e7 :: e8 :: e9 :: e10 :: e11 :: e12 :: e13 :: e14 :: e15 :: e16 :: e17 :: e18 :: e19 :: e20 :: e21 :: e22 :: e23 :: e24 :: e25 :: e26 :: e27 :: e28 :: e29 :: e30 :: e31 :: e32 :: e33 :: x :: l := .tail _ me33
theorem up0 {a : Addr} {o o' : VO} {l : Led} : Upd a o o' ((a, o) :: l) ((a, o') :: l) := .here
theorem up1 {e0 : Addr × VO} {a : Addr} {o o' : VO} {l : Led} : Upd a o o' (e0 :: (a, o) :: l) (e0 :: (a, o') :: l) := .there up0
theorem up2 {e0 e1 : Addr × VO} {a : Addr} {o o' : VO} {l : Led} : Upd a o o' (e0 :: e1 :: (a, o) :: l) (e0 :: e1 :: (a, o') :: l) := .there up1
theorem up3 {e0 e1 e2 : Addr × VO} {a : Addr} {o o' : VO} {l : Led} : Upd a o o' (e0 :: e1 :: e2 :: (a, o) :: l) (e0 :: e1 :: e2 :: (a, o') :: l) := .there up2
theorem up4 {e0 e1 e2 e3 : Addr × VO} {a : Addr} {o o' : VO} {l : Led} : Upd a o o' (e0 :: e1 :: e2 :: e3 :: (a, o) :: l) (e0 :: e1 :: e2 :: e3 :: (a, o') :: l) := .there up3
theorem up5 {e0 e1 e2 e3 e4 : Addr × VO} {a : Addr} {o o' : VO} {l : Led} : Upd a o o' (e0 :: e1 :: e2 :: e3 :: e4 :: (a, o) :: l) (e0 :: e1 :: e2 :: e3 :: e4 :: (a, o') :: l) := .there up4
theorem up6 {e0 e1 e2 e3 e4 e5 : Addr × VO} {a : Addr} {o o' : VO} {l : Led} : Upd a o o' (e0 :: e1 :: e2 :: e3 :: e4 :: e5 :: (a, o) :: l) (e0 :: e1 :: e2 :: e3 :: e4 :: e5 :: (a, o') :: l) := .there up5
theorem up7 {e0 e1 e2 e3 e4 e5 e6 : Addr × VO} {a : Addr} {o o' : VO} {l : Led} : Upd a o o' (e0 :: e1 :: e2 :: e3 :: e4 :: e5 :: e6 :: (a, o) :: l) (e0 :: e1 :: e2 :: e3 :: e4 :: e5 :: e6 :: (a, o') :: l) := .there up6
theorem up8 {e0 e1 e2 e3 e4 e5 e6 e7 : Addr × VO} {a : Addr} {o o' : VO} {l : Led} : Upd a o o' (e0 :: e1 :: e2 :: e3 :: e4 :: e5 :: e6 :: e7 :: (a, o) :: l) (e0 :: e1 :: e2 :: e3 :: e4 :: e5 :: e6 :: e7 :: (a, o') :: l) := .there up7
theorem up9 {e0 e1 e2 e3 e4 e5 e6 e7 e8 : Addr × VO} {a : Addr} {o o' : VO} {l : Led} : Upd a o o' (e0 :: e1 :: e2 :: e3 :: e4 :: e5 :: e6 :: e7 :: e8 :: (a, o) :: l) (e0 :: e1 :: e2 :: e3 :: e4 :: e5 :: e6 :: e7 :: e8 :: (a, o') :: l) := .there up8
theorem up10 {e0 e1 e2 e3 e4 e5 e6 e7 e8 e9 : Addr × VO} {a : Addr} {o o' : VO} {l : Led} : Upd a o o' (e0 :: e1 :: e2 :: e3 :: e4 :: e5 :: e6 :: e7 :: e8 :: e9 :: (a, o) :: l) (e0 :: e1 :: e2 :: e3 :: e4 :: e5 :: e6 :: e7 :: e8 :: e9 :: (a, o') :: l) := .there up9
theorem up11 {e0 e1 e2 e3 e4 e5 e6 e7 e8 e9 e10 : Addr × VO} {a : Addr} {o o' : VO} {l : Led} : Upd a o o' (e0 :: e1 :: e2 :: e3 :: e4 :: e5 :: e6 :: e7 :: e8 :: e9 :: e10 :: (a, o) :: l) (e0 :: e1 :: e2 :: e3 :: e4 :: e5 :: e6 :: e7 :: e8 :: e9 :: e10 :: (a, o') :: l) := .there up10
theorem up12 {e0 e1 e2 e3 e4 e5 e6 e7 e8 e9 e10 e11 : Addr × VO} {a : Addr} {o o' : VO} {l : Led} : Upd a o o' (e0 :: e1 :: e2 :: e3 :: e4 :: e5 :: e6 :: e7 :: e8 :: e9 :: e10 :: e11 :: (a, o) :: l) (e0 :: e1 :: e2 :: e3 :: e4 :: e5 :: e6 :: e7 :: e8 :: e9 :: e10 :: e11 :: (a, o') :: l) := .there up11
theorem up13 {e0 e1 e2 e3 e4 e5 e6 e7 e8 e9 e10 e11 e12 : Addr × VO} {a : Addr} {o o' : VO} {l : Led} : Upd a o o' (e0 :: e1 :: e2 :: e3 :: e4 :: e5 :: e6 :: e7 :: e8 :: e9 :: e10 :: e11 :: e12 :: (a, o) :: l) (e0 :: e1 :: e2 :: e3 :: e4 :: e5 :: e6 :: e7 :: e8 :: e9 :: e10 :: e11 :: e12 :: (a, o') :: l) := .there up12
theorem up14 {e0 e1 e2 e3 e4 e5 e6 e7 e8 e9 e10 e11 e12 e13 : Addr × VO} {a : Addr} {o o' : VO} {l : Led} : Upd a o o' (e0 :: e1 :: e2 :: e3 :: e4 :: e5 :: e6 :: e7 :: e8 :: e9 :: e10 :: e11 :: e12 :: e13 :: (a, o) :: l) (e0 :: e1 :: e2 :: e3 :: e4 :: e5 :: e6 :: e7 :: e8 :: e9 :: e10 :: e11 :: e12 :: e13 :: (a, o') :: l) := .there up13
theorem up15 {e0 e1 e2 e3 e4 e5 e6 e7 e8 e9 e10 e11 e12 e13 e14 : Addr × VO} {a : Addr} {o o' : VO} {l : Led} : Upd a o o' (e0 :: e1 :: e2 :: e3 :: e4 :: e5 :: e6 :: e7 :: e8 :: e9 :: e10 :: e11 :: e12 :: e13 :: e14 :: (a, o) :: l) (e0 :: e1 :: e2 :: e3 :: e4 :: e5 :: e6 :: e7 :: e8 :: e9 :: e10 :: e11 :: e12 :: e13 :: e14 :: (a, o') :: l) := .there up14
theorem up16 {e0 e1 e2 e3 e4 e5 e6 e7 e8 e9 e10 e11 e12 e13 e14 e15 : Addr × VO} {a : Addr} {o o' : VO} {l : Led} : Upd a o o' (e0 :: e1 :: e2 :: e3 :: e4 :: e5 :: e6 :: e7 :: e8 :: e9 :: e10 :: e11 :: e12 :: e13 :: e14 :: e15 :: (a, o) :: l) (e0 :: e1 :: e2 :: e3 :: e4 :: e5 :: e6 :: e7 :: e8 :: e9 :: e10 :: e11 :: e12 :: e13 :: e14 :: e15 :: (a, o') :: l) := .there up15
theorem up17 {e0 e1 e2 e3 e4 e5 e6 e7 e8 e9 e10 e11 e12 e13 e14 e15 e16 : Addr × VO} {a : Addr} {o o' : VO} {l : Led} : Upd a o o' (e0 :: e1 :: e2 :: e3 :: e4 :: e5 :: e6 :: e7 :: e8 :: e9 :: e10 :: e11 :: e12 :: e13 :: e14 :: e15 :: e16 :: (a, o) :: l) (e0 :: e1 :: e2 :: e3 :: e4 :: e5 :: e6 :: e7 :: e8 :: e9 :: e10 :: e11 :: e12 :: e13 :: e14 :: e15 :: e16 :: (a, o') :: l) := .there up16
theorem up18 {e0 e1 e2 e3 e4 e5 e6 e7 e8 e9 e10 e11 e12 e13 e14 e15 e16 e17 : Addr × VO} {a : Addr} {o o' : VO} {l : Led} : Upd a o o' (e0 :: e1 :: e2 :: e3 :: e4 :: e5 :: e6 :: e7 :: e8 :: e9 :: e10 :: e11 :: e12 :: e13 :: e14 :: e15 :: e16 :: e17 :: (a, o) :: l) (e0 :: e1 :: e2 :: e3 :: e4 :: e5 :: e6 :: e7 :: e8 :: e9 :: e10 :: e11 :: e12 :: e13 :: e14 :: e15 :: e16 :: e17 :: (a, o') :: l) := .there up17
theorem up19 {e0 e1 e2 e3 e4 e5 e6 e7 e8 e9 e10 e11 e12 e13 e14 e15 e16 e17 e18 : Addr × VO} {a : Addr} {o o' : VO} {l : Led} : Upd a o o' (e0 :: e1 :: e2 :: e3 :: e4 :: e5 :: e6 :: e7 :: e8 :: e9 :: e10 :: e11 :: e12 :: e13 :: e14 :: e15 :: e16 :: e17 :: e18 :: (a, o) :: l) (e0 :: e1 :: e2 :: e3 :: e4 :: e5 :: e6 :: e7 :: e8 :: e9 :: e10 :: e11 :: e12 :: e13 :: e14 :: e15 :: e16 :: e17 :: e18 :: (a, o') :: l) := .there up18
theorem up20 {e0 e1 e2 e3 e4 e5 e6 e7 e8 e9 e10 e11 e12 e13 e14 e15 e16 e17 e18 e19 : Addr × VO} {a : Addr} {o o' : VO} {l : Led} : Upd a o o' (e0 :: e1 :: e2 :: e3 :: e4 :: e5 :: e6 :: e7 :: e8 :: e9 :: e10 :: e11 :: e12 :: e13 :: e14 :: e15 :: e16 :: e17 :: e18 :: e19 :: (a, o) :: l) (e0 :: e1 :: e2 :: e3 :: e4 :: e5 :: e6 :: e7 :: e8 :: e9 :: e10 :: e11 :: e12 :: e13 :: e14 :: e15 :: e16 :: e17 :: e18 :: e19 :: (a, o') :: l) := .there up19
theorem up21 {e0 e1 e2 e3 e4 e5 e6 e7 e8 e9 e10 e11 e12 e13 e14 e15 e16 e17 e18 e19 e20 : Addr × VO} {a : Addr} {o o' : VO} {l : Led} : Upd a o o' (e0 :: e1 :: e2 :: e3 :: e4 :: e5 :: e6 :: e7 :: e8 :: e9 :: e10 :: e11 :: e12 :: e13 :: e14 :: e15 :: e16 :: e17 :: e18 :: e19 :: e20 :: (a, o) :: l) (e0 :: e1 :: e2 :: e3 :: e4 :: e5 :: e6 :: e7 :: e8 :: e9 :: e10 :: e11 :: e12 :: e13 :: e14 :: e15 :: e16 :: e17 :: e18 :: e19 :: e20 :: (a, o') :: l) := .there up20
theorem up22 {e0 e1 e2 e3 e4 e5 e6 e7 e8 e9 e10 e11 e12 e13 e14 e15 e16 e17 e18 e19 e20 e21 : Addr × VO} {a : Addr} {o o' : VO} {l : Led} : Upd a o o' (e0 :: e1 :: e2 :: e3 :: e4 :: e5 :: e6 :: e7 :: e8 :: e9 :: e10 :: e11 :: e12 :: e13 :: e14 :: e15 :: e16 :: e17 :: e18 :: e19 :: e20 :: e21 :: (a, o) :: l) (e0 :: e1 :: e2 :: e3 :: e4 :: e5 :: e6 :: e7 :: e8 :: e9 :: e10 :: e11 :: e12 :: e13 :: e14 :: e15 :: e16 :: e17 :: e18 :: e19 :: e20 :: e21 :: (a, o') :: l) := .there up21
theorem un0 {x : Str} {v o : Option MV} {l : List (Str × Option MV)} : UpdN x v ((x, o) :: l) ((x, v) :: l) := .here
theorem un1 {e0 : Str × Option MV} {x : Str} {v o : Option MV} {l : List (Str × Option MV)} : UpdN x v (e0 :: (x, o) :: l) (e0 :: (x, v) :: l) := .there un0
theorem un2 {e0 e1 : Str × Option MV} {x : Str} {v o : Option MV} {l : List (Str × Option MV)} : UpdN x v (e0 :: e1 :: (x, o) :: l) (e0 :: e1 :: (x, v) :: l) := .there un1
theorem un3 {e0 e1 e2 : Str × Option MV} {x : Str} {v o : Option MV} {l : List (Str × Option MV)} : UpdN x v (e0 :: e1 :: e2 :: (x, o) :: l) (e0 :: e1 :: e2 :: (x, v) :: l) := .there un2
theorem un4 {e0 e1 e2 e3 : Str × Option MV} {x : Str} {v o : Option MV} {l : List (Str × Option MV)} : UpdN x v (e0 :: e1 :: e2 :: e3 :: (x, o) :: l) (e0 :: e1 :: e2 :: e3 :: (x, v) :: l) := .there un3
theorem un5 {e0 e1 e2 e3 e4 : Str × Option MV} {x : Str} {v o : Option MV} {l : List (Str × Option MV)} : UpdN x v (e0 :: e1 :: e2 :: e3 :: e4 :: (x, o) :: l) (e0 :: e1 :: e2 :: e3 :: e4 :: (x, v) :: l) := .there un4
theorem un6 {e0 e1 e2 e3 e4 e5 : Str × Option MV} {x : Str} {v o : Option MV} {l : List (Str × Option MV)} : UpdN x v (e0 :: e1 :: e2 :: e3 :: e4 :: e5 :: (x, o) :: l) (e0 :: e1 :: e2 :: e3 :: e4 :: e5 :: (x, v) :: l) := .there un5
theorem un7 {e0 e1 e2 e3 e4 e5 e6 : Str × Option MV} {x : Str} {v o : Option MV} {l : List (Str × Option MV)} : UpdN x v (e0 :: e1 :: e2 :: e3 :: e4 :: e5 :: e6 :: (x, o) :: l) (e0 :: e1 :: e2 :: e3 :: e4 :: e5 :: e6 :: (x, v) :: l) := .there un6
theorem un8 {e0 e1 e2 e3 e4 e5 e6 e7 : Str × Option MV} {x : Str} {v o : Option MV} {l : List (Str × Option MV)} : UpdN x v (e0 :: e1 :: e2 :: e3 :: e4 :: e5 :: e6 :: e7 :: (x, o) :: l) (e0 :: e1 :: e2 :: e3 :: e4 :: e5 :: e6 :: e7 :: (x, v) :: l) := .there un7
theorem un9 {e0 e1 e2 e3 e4 e5 e6 e7 e8 : Str × Option MV} {x : Str} {v o : Option MV} {l : List (Str × Option MV)} : UpdN x v (e0 :: e1 :: e2 :: e3 :: e4 :: e5 :: e6 :: e7 :: e8 :: (x, o) :: l) (e0 :: e1 :: e2 :: e3 :: e4 :: e5 :: e6 :: e7 :: e8 :: (x, v) :: l) := .there un8
theorem un10 {e0 e1 e2 e3 e4 e5 e6 e7 e8 e9 : Str × Option MV} {x : Str} {v o : Option MV} {l : List (Str × Option MV)} : UpdN x v (e0 :: e1 :: e2 :: e3 :: e4 :: e5 :: e6 :: e7 :: e8 :: e9 :: (x, o) :: l) (e0 :: e1 :: e2 :: e3 :: e4 :: e5 :: e6 :: e7 :: e8 :: e9 :: (x, v) :: l) := .there un9
theorem un11 {e0 e1 e2 e3 e4 e5 e6 e7 e8 e9 e10 : Str × Option MV} {x : Str} {v o : Option MV} {l : List (Str × Option MV)} : UpdN x v (e0 :: e1 :: e2 :: e3 :: e4 :: e5 :: e6 :: e7 :: e8 :: e9 :: e10 :: (x, o) :: l) (e0 :: e1 :: e2 :: e3 :: e4 :: e5 :: e6 :: e7 :: e8 :: e9 :: e10 :: (x, v) :: l) := .there un10
theorem un12 {e0 e1 e2 e3 e4 e5 e6 e7 e8 e9 e10 e11 : Str × Option MV} {x : Str} {v o : Option MV} {l : List (Str × Option MV)} : UpdN x v (e0 :: e1 :: e2 :: e3 :: e4 :: e5 :: e6 :: e7 :: e8 :: e9 :: e10 :: e11 :: (x, o) :: l) (e0 :: e1 :: e2 :: e3 :: e4 :: e5 :: e6 :: e7 :: e8 :: e9 :: e10 :: e11 :: (x, v) :: l) := .there un11
theorem un13 {e0 e1 e2 e3 e4 e5 e6 e7 e8 e9 e10 e11 e12 : Str × Option MV} {x : Str} {v o : Option MV} {l : List (Str × Option MV)} : UpdN x v (e0 :: e1 :: e2 :: e3 :: e4 :: e5 :: e6 :: e7 :: e8 :: e9 :: e10 :: e11 :: e12 :: (x, o) :: l) (e0 :: e1 :: e2 :: e3 :: e4 :: e5 :: e6 :: e7 :: e8 :: e9 :: e10 :: e11 :: e12 :: (x, v) :: l) := .there un12
theorem un14 {e0 e1 e2 e3 e4 e5 e6 e7 e8 e9 e10 e11 e12 e13 : Str × Option MV} {x : Str} {v o : Option MV} {l : List (Str × Option MV)} : UpdN x v (e0 :: e1 :: e2 :: e3 :: e4 :: e5 :: e6 :: e7 :: e8 :: e9 :: e10 :: e11 :: e12 :: e13 :: (x, o) :: l) (e0 :: e1 :: e2 :: e3 :: e4 :: e5 :: e6 :: e7 :: e8 :: e9 :: e10 :: e11 :: e12 :: e13 :: (x, v) :: l) := .there un13
theorem un15 {e0 e1 e2 e3 e4 e5 e6 e7 e8 e9 e10 e11 e12 e13 e14 : Str × Option MV} {x : Str} {v o : Option MV} {l : List (Str × Option MV)} : UpdN x v (e0 :: e1 :: e2 :: e3 :: e4 :: e5 :: e6 :: e7 :: e8 :: e9 :: e10 :: e11 :: e12 :: e13 :: e14 :: (x, o) :: l) (e0 :: e1 :: e2 :: e3 :: e4 :: e5 :: e6 :: e7 :: e8 :: e9 :: e10 :: e11 :: e12 :: e13 :: e14 :: (x, v) :: l) := .there un14
theorem un16 {e0 e1 e2 e3 e4 e5 e6 e7 e8 e9 e10 e11 e12 e13 e14 e15 : Str × Option MV} {x : Str} {v o : Option MV} {l : List (Str × Option MV)} : UpdN x v (e0 :: e1 :: e2 :: e3 :: e4 :: e5 :: e6 :: e7 :: e8 :: e9 :: e10 :: e11 :: e12 :: e13 :: e14 :: e15 :: (x, o) :: l) (e0 :: e1 :: e2 :: e3 :: e4 :: e5 :: e6 :: e7 :: e8 :: e9 :: e10 :: e11 :: e12 :: e13 :: e14 :: e15 :: (x, v) :: l) := .there un15
theorem un17 {e0 e1 e2 e3 e4 e5 e6 e7 e8 e9 e10 e11 e12 e13 e14 e15 e16 : Str × Option MV} {x : Str} {v o : Option MV} {l : List (Str × Option MV)} : UpdN x v (e0 :: e1 :: e2 :: e3 :: e4 :: e5 :: e6 :: e7 :: e8 :: e9 :: e10 :: e11 :: e12 :: e13 :: e14 :: e15 :: e16 :: (x, o) :: l) (e0 :: e1 :: e2 :: e3 :: e4 :: e5 :: e6 :: e7 :: e8 :: e9 :: e10 :: e11 :: e12 :: e13 :: e14 :: e15 :: e16 :: (x, v) :: l) := .there un16
theorem un18 {e0 e1 e2 e3 e4 e5 e6 e7 e8 e9 e10 e11 e12 e13 e14 e15 e16 e17 : Str × Option MV} {x : Str} {v o : Option MV} {l : List (Str × Option MV)} : UpdN x v (e0 :: e1 :: e2 :: e3 :: e4 :: e5 :: e6 :: e7 :: e8 :: e9 :: e10 :: e11 :: e12 :: e13 :: e14 :: e15 :: e16 :: e17 :: (x, o) :: l) (e0 :: e1 :: e2 :: e3 :: e4 :: e5 :: e6 :: e7 :: e8 :: e9 :: e10 :: e11 :: e12 :: e13 :: e14 :: e15 :: e16 :: e17 :: (x, v) :: l) := .there un17
theorem un19 {e0 e1 e2 e3 e4 e5 e6 e7 e8 e9 e10 e11 e12 e13 e14 e15 e16 e17 e18 : Str × Option MV} {x : Str} {v o : Option MV} {l : List (Str × Option MV)} : UpdN x v (e0 :: e1 :: e2 :: e3 :: e4 :: e5 :: e6 :: e7 :: e8 :: e9 :: e10 :: e11 :: e12 :: e13 :: e14 :: e15 :: e16 :: e17 :: e18 :: (x, o) :: l) (e0 :: e1 :: e2 :: e3 :: e4 :: e5 :: e6 :: e7 :: e8 :: e9 :: e10 :: e11 :: e12 :: e13 :: e14 :: e15 :: e16 :: e17 :: e18 :: (x, v) :: l) := .there un18
theorem un20 {e0 e1 e2 e3 e4 e5 e6 e7 e8 e9 e10 e11 e12 e13 e14 e15 e16 e17 e18 e19 : Str × Option MV} {x : Str} {v o : Option MV} {l : List (Str × Option MV)} : UpdN x v (e0 :: e1 :: e2 :: e3 :: e4 :: e5 :: e6 :: e7 :: e8 :: e9 :: e10 :: e11 :: e12 :: e13 :: e14 :: e15 :: e16 :: e17 :: e18 :: e19 :: (x, o) :: l) (e0 :: e1 :: e2 :: e3 :: e4 :: e5 :: e6 :: e7 :: e8 :: e9 :: e10 :: e11 :: e12 :: e13 :: e14 :: e15 :: e16 :: e17 :: e18 :: e19 :: (x, v) :: l) := .there un19
theorem un21 {e0 e1 e2 e3 e4 e5 e6 e7 e8 e9 e10 e11 e12 e13 e14 e15 e16 e17 e18 e19 e20 : Str × Option MV} {x : Str} {v o : Option MV} {l : List (Str × Option MV)} : UpdN x v (e0 :: e1 :: e2 :: e3 :: e4 :: e5 :: e6 :: e7 :: e8 :: e9 :: e10 :: e11 :: e12 :: e13 :: e14 :: e15 :: e16 :: e17 :: e18 :: e19 :: e20 :: (x, o) :: l) (e0 :: e1 :: e2 :: e3 :: e4 :: e5 :: e6 :: e7 :: e8 :: e9 :: e10 :: e11 :: e12 :: e13 :: e14 :: e15 :: e16 :: e17 :: e18 :: e19 :: e20 :: (x, v) :: l) := .there un20
theorem un22 {e0 e1 e2 e3 e4 e5 e6 e7 e8 e9 e10 e11 e12 e13 e14 e15 e16 e17 e18 e19 e20 e21 : Str × Option MV} {x : Str} {v o : Option MV} {l : List (Str × Option MV)} : UpdN x v (e0 :: e1 :: e2 :: e3 :: e4 :: e5 :: e6 :: e7 :: e8 :: e9 :: e10 :: e11 :: e12 :: e13 :: e14 :: e15 :: e16 :: e17 :: e18 :: e19 :: e20 :: e21 :: (x, o) :: l) (e0 :: e1 :: e2 :: e3 :: e4 :: e5 :: e6 :: e7 :: e8 :: e9 :: e10 :: e11 :: e12 :: e13 :: e14 :: e15 :: e16 :: e17 :: e18 :: e19 :: e20 :: e21 :: (x, v) :: l) := .there un21
theorem un23 {e0 e1 e2 e3 e4 e5 e6 e7 e8 e9 e10 e11 e12 e13 e14 e15 e16 e17 e18 e19 e20 e21 e22 : Str × Option MV} {x : Str} {v o : Option MV} {l : List (Str × Option MV)} : UpdN x v (e0 :: e1 :: e2 :: e3 :: e4 :: e5 :: e6 :: e7 :: e8 :: e9 :: e10 :: e11 :: e12 :: e13 :: e14 :: e15 :: e16 :: e17 :: e18 :: e19 :: e20 :: e21 :: e22 :: (x, o) :: l) (e0 :: e1 :: e2 :: e3 :: e4 :: e5 :: e6 :: e7 :: e8 :: e9 :: e10 :: e11 :: e12 :: e13 :: e14 :: e15 :: e16 :: e17 :: e18 :: e19 :: e20 :: e21 :: e22 :: (x, v) :: l) := .there un22
theorem un24 {e0 e1 e2 e3 e4 e5 e6 e7 e8 e9 e10 e11 e12 e13 e14 e15 e16 e17 e18 e19 e20 e21 e22 e23 : Str × Option MV} {x : Str} {v o : Option MV} {l : List (Str × Option MV)} : UpdN x v (e0 :: e1 :: e2 :: e3 :: e4 :: e5 :: e6 :: e7 :: e8 :: e9 :: e10 :: e11 :: e12 :: e13 :: e14 :: e15 :: e16 :: e17 :: e18 :: e19 :: e20 :: e21 :: e22 :: e23 :: (x, o) :: l) (e0 :: e1 :: e2 :: e3 :: e4 :: e5 :: e6 :: e7 :: e8 :: e9 :: e10 :: e11 :: e12 :: e13 :: e14 :: e15 :: e16 :: e17 :: e18 :: e19 :: e20 :: e21 :: e22 :: e23 :: (x, v) :: l) := .there un23
theorem un25 {e0 e1 e2 e3 e4 e5 e6 e7 e8 e9 e10 e11 e12 e13 e14 e15 e16 e17 e18 e19 e20 e21 e22 e23 e24 : Str × Option MV} {x : Str} {v o : Option MV} {l : List (Str × Option MV)} : UpdN x v (e0 :: e1 :: e2 :: e3 :: e4 :: e5 :: e6 :: e7 :: e8 :: e9 :: e10 :: e11 :: e12 :: e13 :: e14 :: e15 :: e16 :: e17 :: e18 :: e19 :: e20 :: e21 :: e22 :: e23 :: e24 :: (x, o) :: l) (e0 :: e1 :: e2 :: e3 :: e4 :: e5 :: e6 :: e7 :: e8 :: e9 :: e10 :: e11 :: e12 :: e13 :: e14 :: e15 :: e16 :: e17 :: e18 :: e19 :: e20 :: e21 :: e22 :: e23 :: e24 :: (x, v) :: l) := .there un24
theorem un26 {e0 e1 e2 e3 e4 e5 e6 e7 e8 e9 e10 e11 e12 e13 e14 e15 e16 e17 e18 e19 e20 e21 e22 e23 e24 e25 : Str × Option MV} {x : Str} {v o : Option MV} {l : List (Str × Option MV)} : UpdN x v (e0 :: e1 :: e2 :: e3 :: e4 :: e5 :: e6 :: e7 :: e8 :: e9 :: e10 :: e11 :: e12 :: e13 :: e14 :: e15 :: e16 :: e17 :: e18 :: e19 :: e20 :: e21 :: e22 :: e23 :: e24 :: e25 :: (x, o) :: l) (e0 :: e1 :: e2 :: e3 :: e4 :: e5 :: e6 :: e7 :: e8 :: e9 :: e10 :: e11 :: e12 :: e13 :: e14 :: e15 :: e16 :: e17 :: e18 :: e19 :: e20 :: e21 :: e22 :: e23 :: e24 :: e25 :: (x, v) :: l) := .there un25
theorem un27 {e0 e1 e2 e3 e4 e5 e6 e7 e8 e9 e10 e11 e12 e13 e14 e15 e16 e17 e18 e19 e20 e21 e22 e23 e24 e25 e26 : Str × Option MV} {x : Str} {v o : Option MV} {l : List (Str × Option MV)} : UpdN x v (e0 :: e1 :: e2 :: e3 :: e4 :: e5 :: e6 :: e7 :: e8 :: e9 :: e10 :: e11 :: e12 :: e13 :: e14 :: e15 :: e16 :: e17 :: e18 :: e19 :: e20 :: e21 :: e22 :: e23 :: e24 :: e25 :: e26 :: (x, o) :: l) (e0 :: e1 :: e2 :: e3 :: e4 :: e5 :: e6 :: e7 :: e8 :: e9 :: e10 :: e11 :: e12 :: e13 :: e14 :: e15 :: e16 :: e17 :: e18 :: e19 :: e20 :: e21 :: e22 :: e23 :: e24 :: e25 :: e26 :: (x, v) :: l) := .there un26
theorem un28 {e0 e1 e2 e3 e4 e5 e6 e7 e8 e9 e10 e11 e12 e13 e14 e15 e16 e17 e18 e19 e20 e21 e22 e23 e24 e25 e26 e27 : Str × Option MV} {x : Str} {v o : Option MV} {l : List (Str × Option MV)} : UpdN x v (e0 :: e1 :: e2 :: e3 :: e4 :: e5 :: e6 :: e7 :: e8 :: e9 :: e10 :: e11 :: e12 :: e13 :: e14 :: e15 :: e16 :: e17 :: e18 :: e19 :: e20 :: e21 :: e22 :: e23 :: e24 :: e25 :: e26 :: e27 :: (x, o) :: l) (e0 :: e1 :: e2 :: e3 :: e4 :: e5 :: e6 :: e7 :: e8 :: e9 :: e10 :: e11 :: e12 :: e13 :: e14 :: e15 :: e16 :: e17 :: e18 :: e19 :: e20 :: e21 :: e22 :: e23 :: e24 :: e25 :: e26 :: e27 :: (x, v) :: l) := .there un27
theorem un29 {e0 e1 e2 e3 e4 e5 e6 e7 e8 e9 e10 e11 e12 e13 e14 e15 e16 e17 e18 e19 e20 e21 e22 e23 e24 e25 e26 e27 e28 : Str × Option MV} {x : Str} {v o : Option MV} {l : List (Str × Option MV)} : UpdN x v (e0 :: e1 :: e2 :: e3 :: e4 :: e5 :: e6 :: e7 :: e8 :: e9 :: e10 :: e11 :: e12 :: e13 :: e14 :: e15 :: e16 :: e17 :: e18 :: e19 :: e20 :: e21 :: e22 :: e23 :: e24 :: e25 :: e26 :: e27 :: e28 :: (x, o) :: l) (e0 :: e1 :: e2 :: e3 :: e4 :: e5 :: e6 :: e7 :: e8 :: e9 :: e10 :: e11 :: e12 :: e13 :: e14 :: e15 :: e16 :: e17 :: e18 :: e19 :: e20 :: e21 :: e22 :: e23 :: e24 :: e25 :: e26 :: e27 :: e28 :: (x, v) :: l) := .there un28
theorem un30 {e0 e1 e2 e3 e4 e5 e6 e7 e8 e9 e10 e11 e12 e13 e14 e15 e16 e17 e18 e19 e20 e21 e22 e23 e24 e25 e26 e27 e28 e29 : Str × Option MV} {x : Str} {v o : Option MV} {l : List (Str × Option MV)} : UpdN x v (e0 :: e1 :: e2 :: e3 :: e4 :: e5 :: e6 :: e7 :: e8 :: e9 :: e10 :: e11 :: e12 :: e13 :: e14 :: e15 :: e16 :: e17 :: e18 :: e19 :: e20 :: e21 :: e22 :: e23 :: e24 :: e25 :: e26 :: e27 :: e28 :: e29 :: (x, o) :: l) (e0 :: e1 :: e2 :: e3 :: e4 :: e5 :: e6 :: e7 :: e8 :: e9 :: e10 :: e11 :: e12 :: e13 :: e14 :: e15 :: e16 :: e17 :: e18 :: e19 :: e20 :: e21 :: e22 :: e23 :: e24 :: e25 :: e26 :: e27 :: e28 :: e29 :: (x, v) :: l) := .there un29
theorem len0 {α : Type} {P : List α → Prop} {l : List α} (h : l.length = 0) (k : P []) : P l := by rw [List.length_eq_zero_iff.mp h]; exact k
theorem len_succ {α : Type} {n : Nat} {l : List α} (h : l.length = n + 1) : ∃ a r, l = a :: r ∧ r.length = n := by
  cases l with
  | nil => cases h
  | cons a r => exact k2a2 a r rfl (Nat.succ.inj h)
theorem len1 {α : Type} {P : List α → Prop} {l : List α} (h : l.length = 1) (k : ∀ a, P [a]) : P l := by
  refine x2a2 (len_succ h) fun a r qz012 h1 => ?_; subst qz012
  exact len0 (P := fun r => P (a :: r)) h1 (k a)
theorem len2 {α : Type} {P : List α → Prop} {l : List α} (h : l.length = 2) (k : ∀ a b, P [a, b]) : P l := by
  refine x2a2 (len_succ h) fun a r qz112 h1 => ?_; subst qz112
  exact len1 (P := fun r => P (a :: r)) h1 (k a)
theorem len3 {α : Type} {P : List α → Prop} {l : List α} (h : l.length = 3) (k : ∀ a b c, P [a, b, c]) : P l := by
  refine x2a2 (len_succ h) fun a r qz212 h1 => ?_; subst qz212
  exact len2 (P := fun r => P (a :: r)) h1 (k a)
theorem ex_list {α : Type} : ∀ (n : Nat) (l : List α), l.length = n → (l = [] ∧ n = 0) ∨ ∃ f : Nat → α, l = (List.range n).map f
  | 0, l, h => .inl ⟨List.length_eq_zero_iff.mp h, rfl⟩
  | n + 1, l, h => by
    refine x2a2 (len_succ h) fun a r qz312 _ => ?_; subst qz312
    refine .inr ⟨fun i => (a :: r)[i]?.getD a, List.ext_getElem (by simp at h ⊢; exact h) fun i h1 h2 => ?_⟩
    simp [List.getElem?_eq_getElem h1]
theorem all1 {α : Type} {P : List α → Prop} (k : ∀ a, P [a]) : ∀ l : List α, l.length = 1 → P l := fun _ h => len1 h k
theorem all2 {α : Type} {P : List α → Prop} (k : ∀ a b, P [a, b]) : ∀ l : List α, l.length = 2 → P l := fun _ h => len2 h k
theorem all3 {α : Type} {P : List α → Prop} (k : ∀ a b c, P [a, b, c]) : ∀ l : List α, l.length = 3 → P l := fun _ h => len3 h k
theorem ite_t {c : Prop} [Decidable c] {P Q : Prop} (h : c) (p : P) : if c then P else Q := by rw [if_pos h]; exact p
theorem ite_f {c : Prop} [Decidable c] {P Q : Prop} (h : ¬ c) (q : Q) : if c then P else Q := by rw [if_neg h]; exact q
end
section
section
variable {B : Base} {σ σ' : Led} {s : Shared} {prog : Program} {A : Around} {E : Value → Shared → Prop} {env : Env} {k : Nat}
/-- what a turn of a loop is asked -/
noncomputable abbrev LpQ (R : Result → Shared → Prop) (G : Shared → Prop) : Flow → Shared → Prop := fun f s₃ => match f with
  | .next | .cont => G s₃
  | .brk => R (.ok .next) s₃
  | .ret v => R (.ok (.ret v)) s₃
theorem b_forLoop {target : Expr} {body orelse : List Stmt} {I : Addr} {items : List MV} {It : Nat → Led} {Cnd : Led → Prop} {R : Result → Shared → Prop} (W : Src B prog target I items It Cnd) (P : Nat → Led → Prop) (hA : A.handled = none)
    (hC : ∀ i σ, P i σ → Cnd σ)
    (turn : ∀ i σ s mv v, items[i]? = some mv → P i σ → St B (It (i + 1) ++ σ) s → mv.Is s.heap v → ∀ (N : Value → Shared → Prop) (J : Box), Hb (LpQ R fun s₃ => ∃ σ', P (i + 1) σ' ∧ St B (It (i + 1) ++ σ') s₃) J →
      wpAny (model prog B.w) A (assign target env v) (fun _ s₂ => wpAny (model prog B.w) A (execs body env) J.ap N s₂) N s)
    (done : ∀ σ s, P items.length σ → St B σ s → ∀ N : Value → Shared → Prop, wpAny (model prog B.w) A (execs orelse env) (fun f s₃ => R (.ok f) s₃) N s)
    {σ : Led} {s : Shared} (hP : P 0 σ) (S : St B (It 0 ++ σ) s) :
    codeAny (model prog B.w) A (.forLoop target (.ref I) body orelse env) R s :=
  r_forLoop W P hA hC (fun i σ s mv v h1 h2 h3 h4 N => turn i σ s mv v h1 h2 h3 h4 N (LpQ R _) fun _ _ x => x) done hP S
theorem b_list {target : Expr} {body orelse : List Stmt} {I l : Addr} {xs : List MV} {R : Result → Shared → Prop} (P : Nat → Led → Prop) (hA : Ok A k) (hC : ∀ i σ, P i σ → (l, VO.list xs) ∈ σ)
    (turn : ∀ i σ s mv v, xs[i]? = some mv → P i σ → St B ((I, .listIter l (i + 1)) :: σ) s → mv.Is s.heap v → ∀ (N : Value → Shared → Prop) (J : Box), Hb (LpQ R fun s₃ => ∃ σ', P (i + 1) σ' ∧ St B ((I, .listIter l (i + 1)) :: σ') s₃) J →
      wpAny (model prog B.w) A (assign target env v) (fun _ s₂ => wpAny (model prog B.w) A (execs body env) J.ap N s₂) N s)
    (done : ∀ σ s, P xs.length σ → St B σ s → ∀ N : Value → Shared → Prop, wpAny (model prog B.w) A (execs orelse env) (fun f s₃ => R (.ok f) s₃) N s)
    {σ : Led} {s : Shared} (hP : P 0 σ) (S : St B ((I, .listIter l 0) :: σ) s) :
    codeAny (model prog B.w) A (.forLoop target (.ref I) body orelse env) R s :=
  b_forLoop Src.list P hA.handled hC turn done hP S
theorem b_range {target : Expr} {body orelse : List Stmt} {I : Addr} {a : Int} {n : Nat} {R : Result → Shared → Prop} (P : Nat → Led → Prop) (hA : Ok A k)
    (turn : ∀ i σ s t, i < n → P i σ → St B ((I, .rangeIter (a + ((i + 1 : Nat) : Int)) ((n : Int) - ((i + 1 : Nat) : Int)) 1) :: σ) s → ∀ (N : Value → Shared → Prop) (J : Box),
      Hb (LpQ R fun s₃ => ∃ σ', P (i + 1) σ' ∧ St B ((I, .rangeIter (a + ((i + 1 : Nat) : Int)) ((n : Int) - ((i + 1 : Nat) : Int)) 1) :: σ') s₃) J →
      wpAny (model prog B.w) A (assign target env (.int (a + i) t)) (fun _ s₂ => wpAny (model prog B.w) A (execs body env) J.ap N s₂) N s)
    (done : ∀ σ s, P n σ → St B σ s → ∀ N : Value → Shared → Prop, wpAny (model prog B.w) A (execs orelse env) (fun f s₃ => R (.ok f) s₃) N s)
    {σ : Led} {s : Shared} (hP : P 0 σ) (S : St B ((I, .rangeIter (a + (0 : Nat)) ((n : Int) - (0 : Nat)) 1) :: σ) s) :
    codeAny (model prog B.w) A (.forLoop target (.ref I) body orelse env) R s :=
  r_loop_range P hA (fun i σ s t h1 h2 h3 N => turn i σ s t h1 h2 h3 N (LpQ R _) fun _ _ x => x) done hP S
theorem b_join {st : Stmt} {rest : List Stmt} {J : Box} (P : Shared → Prop) (h1 : ∀ K : Box, Hb (fun f s' => match f with | .next => P s' | f => J.ap f s') K → wpAny (model prog B.w) A (exec st env) K.ap E s)
    (h2 : ∀ s', P s' → wpAny (model prog B.w) A (execs rest env) J.ap E s') : wpAny (model prog B.w) A (execs (st :: rest) env) J.ap E s :=
  r_join P (h1 _ fun _ _ x => x) h2
theorem b_loop {R : Result → Shared → Prop} {target it body orelse} (I : Nat → Shared → Prop)
    (turn : ∀ n s, I n s → ∀ (N : Value → Shared → Prop) (J K : Box), Hb (LpQ R fun s₃ => ∃ m, m < n ∧ I m s₃) J → Hb (fun f => R (.ok f)) K → wpAny (model prog B.w) A (pyNext it) (fun r s₁ => match r with
      | none => wpAny (model prog B.w) A (execs orelse env) K.ap N s₁
      | some v => wpAny (model prog B.w) A (assign target env v) (fun _ s₂ => wpAny (model prog B.w) A (execs body env) J.ap N s₂) N s₁) N s)
    (n : Nat) (h : I n s) (ht : ∀ v, letOwnedTupleGo target it v = pure () := by intro _; rfl) : codeAny (model prog B.w) A (.forLoop target it body orelse env) R s :=
  codeAny_forLoop I (fun n s h => turn n s h _ (LpQ R _) (fun f => R (.ok f)) (fun _ _ x => x) fun _ _ x => x) n h ht
end
end
section
theorem leB {a b c : Nat} (h : a ≤ b) (k : Nat.ble b c = true) : a ≤ c := Nat.le_trans h (Nat.le_of_ble_eq_true k)
theorem ltB {a b c : Nat} (h : a ≤ b) (k : Nat.ble (b + 1) c = true) : a < c := Nat.lt_of_le_of_lt h (Nat.le_of_ble_eq_true k)
theorem fn {α : Type} {P : α → Prop} : ∀ x ∈ ([] : List α), P x := List.forall_mem_nil _
theorem fc {α : Type} {P : α → Prop} {a : α} {l : List α} (h : P a) (k : ∀ x ∈ l, P x) : ∀ x ∈ a :: l, P x := List.forall_mem_cons.mpr ⟨h, k⟩
theorem nw {m : List (Str × Option MV)} {x : Str} (h : (m.map (·.1)).elem x = false) : x ∉ m.map (·.1) := by simpa using h
theorem nd {m : List (Str × Option MV)} (h : decide (m.map (·.1)).Nodup = true) : (m.map (·.1)).Nodup := of_decide_eq_true h
theorem scO {scope : Scope} {ln fv gn : List Str} (h0 : scope.kind = .function) (h : (∀ x ∈ scope.names, x.2 ≠ .cell) ∧ (∀ x ∈ scope.names, x.2 = .local → scope.names.lookup x.1 = some .local) ∧ (∀ x ∈ ln, scope.names.lookup x = some .local) ∧
    (∀ x ∈ fv, scope.names.lookup x = some .free) ∧ (∀ x ∈ gn, scope.names.lookup x = some .globalImplicit) ∧ (∀ x ∈ ln ++ fv ++ gn, (x == ("__debug__" : Str)) = false) ∧ (∀ x ∈ fv, (x == ("__classdict__" : Str)) = false) ∧ ln.Nodup) : ScopeOk scope ln fv gn :=
  ⟨h0, h.1, h.2.1, h.2.2.1, h.2.2.2.1, h.2.2.2.2.1, h.2.2.2.2.2.1, h.2.2.2.2.2.2.1, h.2.2.2.2.2.2.2⟩
theorem szA {P : Prop} (h : P := by simp only [List.length_map, List.length_drop, List.length_take, List.length_append, List.length_cons, List.length_nil, len_one, Str.length_append, len_emp, len_bs, len_bsbs, len_q, len_bsq, len_qs, len_nl, len_d3c, len_cs, len_cd3c, len_cd3, len_d3, len_c, len_cc, len_wxyz, len_n012, len_n0123]; first | assumption | (unfold sizeLine; omega)) : P := h
end
section
noncomputable abbrev dots : Str := Str.ofString "..."
noncomputable def ellGo (got : Str) (ep : Nat) : Nat → List Str → Bool
  | _, [] => true
  | sp, w :: ws => if find4 got w sp ep < 0 then false else ellGo got ep ((find4 got w sp ep).toNat + w.length) ws
noncomputable def ellEnd (got : Str) (sp : Nat) (ws : List Str) : Bool :=
  let w := ws.getLast?.getD Str.empty
  if w.length != 0 then (if Txt.endswith got w then (if sp > got.length - w.length then false else ellGo got (got.length - w.length) sp ws.dropLast) else false)
  else (if sp > got.length then false else ellGo got got.length sp ws)
noncomputable def ellM (want got : Str) : Bool :=
  if Txt.contains want dots = false then want == got else
  match Txt.split want dots with
  | [] => true
  | w :: r => if w.length != 0 then (if Txt.startswith got w then ellEnd got w.length r else false) else ellEnd got 0 (w :: r)
theorem ell_spec {B : Base} {σ : Led} {s : Shared} {prog : Program} {A : Around} {E : Value → Shared → Prop} {Q : Value → Shared → Prop} {want got : Str} {t u : Tok} {k : Nat}
    (S : St B σ s) (hA : Ok A (k + 3)) (h1 : want.length ≤ 2 ^ 20) (h2 : got.length ≤ 2 ^ 20) (h : ∀ s', St B σ s' → Q (.bool (ellM want got)) s') :
    wpAny (model prog B.w) A (call (.ref 21) [.str want t, .str got u]) Q E s := by
  refine r_call (ln := ["want", "got", "ws", "startpos", "endpos", "w"]) (gn := ["ELLIPSIS_MARKER", "len"]) (mvs := [.str want, .str got])
    (ns := [("want", some (.str want)), ("got", some (.str got)), ("ws", none), ("startpos", none), ("endpos", none), ("w", none)]) S hA rfl (by decide) rfl ?_ ?_ ?_ ?_ ?_ ?_
  · intro h K; exact k4a4 20 _ _ _ rfl (K 20 _ rfl (by decide)) rfl rfl
  · exact .cons ⟨t, rfl⟩ (.cons ⟨u, rfl⟩ .nil)
  · kernel_rfl!
  · intro args ha
    obtain ⟨a, b, rfl⟩ : ∃ a b, args = [a, b] := by
      match args, ha with
      | [a, b], _ => exact k2a1 a b rfl
    rfl
  · skip
    refine ⟨rfl, by decide +kernel, by decide +kernel, by decide +kernel, by decide +kernel, by decide +kernel, by decide +kernel, by decide +kernel, rfl, rfl⟩
  intro env s1 hE hsc S1 hA1
  with_reducible refine execs_consH fun Jz hJz => ?_
  with_reducible refine wpAny_If ?_
  with_reducible refine wpAny_isTrue_Compare1 ?_
  with_reducible refine r_global ‹_› ‹_› me0 (by exact gv_dots _) ?_
  with_reducible refine r_local_str ‹_› ‹_› me0 me0 me0 fun _ => ?_
  with_reducible refine SB.notContains ?_
  with_reducible refine wpAny_truthy_bool ?_
  by_cases hc : Txt.contains want dots = false
  · rw [hc]
    simp only [Bool.not_false, if_true]
    with_reducible refine execs_oneH fun Jz hJz => ?_
    with_reducible refine wpAny_Return_some ?_
    with_reducible refine wpAny_Compare1 ?_
    with_reducible refine r_local_str ‹_› ‹_› me0 me0 me0 fun _ => ?_
    with_reducible refine r_local_str ‹_› ‹_› me1 me0 me1 fun _ => ?_
    with_reducible refine PyProof.Rows.eq_str ?_
    with_reducible refine Hb.go ‹_› ?_
    with_reducible refine Hb.go ‹_› ?_
    have := h _ (St.drop ‹_› (List.sublist_cons_self _ _))
    unfold ellM at this; rw [if_pos hc] at this; exact this
  have hc' : Txt.contains want dots = true := by simpa using hc
  rw [hc']
  simp only [Bool.not_true, Bool.false_eq_true, if_false]
  with_reducible refine wpAny_execs_nil ?_
  with_reducible refine execs_consB ?_
  with_reducible refine wpAny_Assign_Name ?_ rfl
  with_reducible refine r_method rfl rfl rfl rfl ?_
  with_reducible refine r_local_str ‹_› ‹_› me0 me0 me0 fun _ => ?_
  with_reducible refine mStr PySem.F.slot_str_split PySem.F.type_str_split ?_
  with_reducible refine items_one ?_ rfl
  with_reducible refine r_global ‹_› ‹_› me0 (by exact gv_dots _) ?_
  refine r_split (y := dots) ‹_› (by decide +kernel) h1 ?_
  intro D s2 S2
  have hw2 : 2 ≤ (Txt.split want dots).length := split_two (by decide +kernel) hc'
  have hw3 : (Txt.split want dots).length ≤ want.length + 2 := split_le want dots
  generalize hws : Txt.split want dots = ws at S2 hw2 hw3
  with_reducible refine r_store_val ‹_› ‹_› me2 up1 un2 fun _ _ => ?_
  with_reducible refine execs_consB ?_
  with_reducible refine wpAny_Assert_holds ?_
  with_reducible refine wpAny_isTrue_Compare1 ?_
  with_reducible refine r_callB rfl ?_
  with_reducible refine r_global ‹_› ‹_› me1 (by exact gv_len _) ?_
  with_reducible refine nr_builtin ?_
  with_reducible refine items_one ?_ rfl
  with_reducible refine r_local_val ‹_› ‹_› me2 me1 me2 ?_
  with_reducible refine r_len_list ‹_› me0 szA fun _ _ _ => ?_
  with_reducible refine r_int ‹_› fun _ _ _ => ?_
  with_reducible refine PyProof.Rows.ge_int ?_
  with_reducible refine wpAny_truthy_bool ?_
  refine ⟨by simp; lia, ?_⟩
  with_reducible refine execs_consB ?_
  refine r_assign2 hA1 (by rw [hsc]; rfl) rfl ?_
  with_reducible refine r_int ‹_› fun _ _ _ => ?_
  with_reducible refine r_callB rfl ?_
  with_reducible refine r_global ‹_› ‹_› me1 (by exact gv_len _) ?_
  with_reducible refine nr_builtin ?_
  with_reducible refine items_one ?_ rfl
  with_reducible refine r_local_str ‹_› ‹_› me1 me1 me1 fun _ => ?_
  with_reducible refine r_len_str ‹_› (leB ‹_› rfl) fun _ _ _ => ?_
  refine k1a2 _ ‹_› (fun s3 S3 _ => ?_)
  with_reducible refine r_store_int ‹_› ‹_› me4 up1 un4 fun _ _ => ?_
  with_reducible refine r_store_int ‹_› ‹_› me3 up1 un3 fun _ _ => ?_
  with_reducible refine execs_consB ?_
  with_reducible refine wpAny_Assign_Name ?_ rfl
  with_reducible refine r_subscr ?_
  with_reducible refine r_local_val ‹_› ‹_› me2 me1 me2 ?_
  with_reducible refine r_int ‹_› fun _ _ _ => ?_
  with_reducible refine g_list ‹_› me0 ?_
  obtain ⟨w, r, rfl⟩ : ∃ w r, ws = w :: r := by
    cases ws with
    | nil => simp at hw2
    | cons w r => exact k2a1 w r rfl
  have hwl : ∀ x ∈ w :: r, x.length ≤ 2 ^ 20 := by
    intro x hx
    have := split_weight want dots (by decide +kernel)
    rw [hws] at this
    have h3 : x.length ≤ ((w :: r).map (·.length)).sum := le_sum_of_mem (List.mem_map_of_mem (f := fun x : Str => x.length) hx)
    lia
  have hw0 := hwl w List.mem_cons_self
  have hr : r ≠ [] := by intro e; subst e; simp at hw2
  have hell : ellM want got = if w.length != 0 then (if Txt.startswith got w then ellEnd got w.length r else false) else ellEnd got 0 (w :: r) := by
    unfold ellM; rw [if_neg hc, hws]
  simp only [List.length_cons] at hw2 hw3
  refine r_item_list (i := 0) ‹_› me0 rfl rfl (by simp; (unfold sizeLine; lia)) ?_
  rintro _ or1
  obtain ⟨tw, rfl⟩ := or1
  with_reducible refine r_store_str ‹_› ‹_› me5 up1 un5 fun _ _ => ?_
  refine b_join (fun s' => ∃ sp lst wv, lst ≠ [] ∧ lst.length ≤ want.length + 2 ∧ (∀ x ∈ lst, x.length ≤ 2 ^ 20) ∧ sp ≤ 2 ^ 20 ∧ ellM want got = ellEnd got sp lst ∧ 
    St B ((D, VO.list (lst.map MV.str)) :: (env.locals, VO.ns [("want", some (.str want)), ("got", some (.str got)), ("ws", some (.ref D)), ("startpos", some (.int (sp : Nat))), ("endpos", some (.int got.length)), ("w", some (.str wv))]) :: σ) s') ?_ ?_
  · intro K hK
    with_reducible refine wpAny_If ?_
    with_reducible refine wpAny_isTrue_value ?_ rfl
    with_reducible refine r_local_str ‹_› ‹_› me5 me1 me5 fun _ => ?_
    with_reducible refine r_truthy_str ‹_› (leB ‹_› rfl) fun _ _ => ?_
    by_cases hw0' : (w.length != 0) = true
    · refine ite_t hw0' ?_
      with_reducible refine execs_oneB ?_
      with_reducible refine wpAny_If ?_
      with_reducible refine wpAny_isTrue_value ?_ rfl
      with_reducible refine r_method rfl rfl rfl rfl ?_
      with_reducible refine r_local_str ‹_› ‹_› me1 me1 me1 fun _ => ?_
      with_reducible refine mStr PySem.F.slot_str_startswith PySem.F.type_str_startswith ?_
      with_reducible refine items_one ?_ rfl
      with_reducible refine r_local_str ‹_› ‹_› me5 me1 me5 fun _ => ?_
      with_reducible refine r_startswith ?_
      with_reducible refine wpAny_truthy_bool ?_
      by_cases hst : Txt.startswith got w = true
      · refine ite_t hst ?_
        with_reducible refine execs_consB ?_
        with_reducible refine wpAny_Assign_Name ?_ rfl
        with_reducible refine r_callB rfl ?_
        with_reducible refine r_global ‹_› ‹_› me1 (by exact gv_len _) ?_
        with_reducible refine nr_builtin ?_
        with_reducible refine items_one ?_ rfl
        with_reducible refine r_local_str ‹_› ‹_› me5 me1 me5 fun _ => ?_
        with_reducible refine r_len_str ‹_› (leB ‹_› rfl) fun _ _ _ => ?_
        with_reducible refine r_store_int ‹_› ‹_› me3 up1 un3 fun _ _ => ?_
        with_reducible refine execs_oneB ?_
        with_reducible refine wpAny_Delete ?_
        with_reducible refine wpAny_deleteEach_cons ?_
        with_reducible refine wpAny_delete_Subscript ?_
        with_reducible refine r_local_val ‹_› ‹_› me2 me1 me2 ?_
        with_reducible refine r_int ‹_› fun _ _ _ => ?_
        refine' r_del_first ?S ?hx ?sz ?u ?_
        case S => assumption
        case u => exact up0
        case hx => rfl
        case sz => simp; (unfold sizeLine; lia)
        intro s5 S5
        with_reducible refine wpAny_deleteEach_nil ?_
        with_reducible refine Hb.go ‹_› ?_
        rw [if_pos hw0', if_pos hst] at hell
        exact k3a6 w.length r w hr (by lia) (fun x hx => hwl x (List.mem_cons_of_mem _ hx)) hw0 hell ‹_›
      · refine ite_f hst ?_
        with_reducible refine execs_oneB ?_
        with_reducible refine wpAny_Return_some ?_
        with_reducible refine r_bool ?_
        with_reducible refine Hb.go ‹_› ?_
        with_reducible refine Hb.go ‹_› ?_
        have := h _ (St.drop ‹_› (.cons _ (List.sublist_cons_self _ _)))
        rw [hell, if_pos hw0', if_neg hst] at this
        exact this
    · refine ite_f hw0' ?_
      with_reducible refine wpAny_execs_nil ?_
      refine hK _ _ ?_
      rw [if_neg hw0'] at hell
      exact k3a6 0 (w :: r) w (by simp) hw3 hwl (by lia) hell ‹_›
  rintro s6 or2
  refine x3a6 or2 fun sp lst wv hl0 hl1 hl2 hsp hell' S6 => ?_; clear or2
  refine x2a1 (⟨lst.dropLast, lst.getLast hl0, (List.dropLast_concat_getLast hl0).symm⟩ : ∃ init z, lst = init ++ [z]) fun init z qz212 => ?_; subst qz212
  clear hell hw0 hwl hr hws hc' hw2 hw3 S2 S3
  have hz := hl2 z (by simp)
  have hell : ellM want got = if z.length != 0 then (if Txt.endswith got z then (if sp > got.length - z.length then false else ellGo got (got.length - z.length) sp init) else false)
    else (if sp > got.length then false else ellGo got got.length sp (init ++ [z])) := by
    rw [hell']; unfold ellEnd; simp
  simp only [List.length_append, List.length_singleton] at hl1
  with_reducible refine execs_consB ?_
  with_reducible refine wpAny_Assign_Name ?_ rfl
  with_reducible refine r_subscr ?_
  with_reducible refine r_local_val ‹_› ‹_› me2 me1 me2 ?_
  with_reducible refine wpAny_UnaryOp ?_
  with_reducible refine r_int ‹_› fun _ _ _ => ?_
  with_reducible refine r_neg ‹_› fun _ _ _ => ?_
  with_reducible refine g_list ‹_› me0 ?_
  refine r_item_last ‹_› me0 (mv := .str z) (by simp) (by simp; (unfold sizeLine; lia)) ?_
  rintro _ or3
  obtain ⟨tz, rfl⟩ := or3
  with_reducible refine r_store_str ‹_› ‹_› me5 up1 un5 fun _ _ => ?_
  refine b_join (fun s' => ∃ (ep : Nat) (lst : List Str) (wv : Str), lst.length ≤ want.length + 2 ∧ (∀ x ∈ lst, x.length ≤ 2 ^ 20) ∧ ep ≤ got.length ∧ ellM want got = (if sp > ep then false else ellGo got ep sp lst) ∧ 
    St B ((D, VO.list (lst.map MV.str)) :: (env.locals, VO.ns [("want", some (.str want)), ("got", some (.str got)), ("ws", some (.ref D)), ("startpos", some (.int (sp : Nat))), ("endpos", some (.int (ep : Nat))), ("w", some (.str wv))]) :: σ) s') ?_ ?_
  · intro K hK
    with_reducible refine wpAny_If ?_
    with_reducible refine wpAny_isTrue_value ?_ rfl
    with_reducible refine r_local_str ‹_› ‹_› me5 me1 me5 fun _ => ?_
    with_reducible refine r_truthy_str ‹_› (leB ‹_› rfl) fun _ _ => ?_
    by_cases hz' : (z.length != 0) = true
    · refine ite_t hz' ?_
      with_reducible refine execs_oneB ?_
      with_reducible refine wpAny_If ?_
      with_reducible refine wpAny_isTrue_value ?_ rfl
      with_reducible refine r_method rfl rfl rfl rfl ?_
      with_reducible refine r_local_str ‹_› ‹_› me1 me1 me1 fun _ => ?_
      with_reducible refine mStr PySem.F.slot_str_endswith PySem.F.type_str_endswith ?_
      with_reducible refine items_one ?_ rfl
      with_reducible refine r_local_str ‹_› ‹_› me5 me1 me5 fun _ => ?_
      with_reducible refine r_endswith ?_
      with_reducible refine wpAny_truthy_bool ?_
      by_cases hst : Txt.endswith got z = true
      · refine ite_t hst ?_
        have hzg : z.length ≤ got.length := by
          unfold Txt.endswith at hst
          simp only [Bool.and_eq_true, decide_eq_true_eq] at hst
          lia
        with_reducible refine execs_consB ?_
        with_reducible refine wpAny_AugAssign_Name ?_
        with_reducible refine r_load_int ‹_› ‹_› me4 me1 me4 fun _ => ?_
        with_reducible refine r_callB rfl ?_
        with_reducible refine r_global ‹_› ‹_› me1 (by exact gv_len _) ?_
        with_reducible refine nr_builtin ?_
        with_reducible refine items_one ?_ rfl
        with_reducible refine r_local_str ‹_› ‹_› me5 me1 me5 fun _ => ?_
        with_reducible refine r_len_str ‹_› (by unfold sizeLine; lia) fun _ _ _ => ?_
        with_reducible refine r_isub ‹_› fun _ _ _ => ?_
        with_reducible refine r_store_int ‹_› ‹_› me4 up1 un4 fun _ _ => ?_
        with_reducible refine execs_oneB ?_
        with_reducible refine wpAny_Delete ?_
        with_reducible refine wpAny_deleteEach_cons ?_
        with_reducible refine wpAny_delete_Subscript ?_
        with_reducible refine r_local_val ‹_› ‹_› me2 me1 me2 ?_
        with_reducible refine wpAny_UnaryOp ?_
        with_reducible refine r_int ‹_› fun _ _ _ => ?_
        with_reducible refine r_neg ‹_› fun _ _ _ => ?_
        refine' r_del_last ?S ?hx ?sz ?u ?_
        case S => assumption
        case u => exact up0
        case hx => exact List.map_append
        case sz => simp; (unfold sizeLine; lia)
        intro s5 S5
        with_reducible refine wpAny_deleteEach_nil ?_
        with_reducible refine Hb.go ‹_› ?_
        rw [if_pos hz', if_pos hst] at hell
        refine k3a5 (got.length - z.length) init z (by lia) (fun x hx => hl2 x (by simp [hx])) (by grind) hell ?_
        have e2 : (got.length : Int) - (z.length : Int) = ((got.length - z.length : Nat) : Int) := by grind
        rw [← e2]
        assumption
      · refine ite_f hst ?_
        with_reducible refine execs_oneB ?_
        with_reducible refine wpAny_Return_some ?_
        with_reducible refine r_bool ?_
        with_reducible refine Hb.go ‹_› ?_
        with_reducible refine Hb.go ‹_› ?_
        have := h _ (St.drop ‹_› (.cons _ (List.sublist_cons_self _ _)))
        rw [hell, if_pos hz', if_neg hst] at this
        exact this
    · refine ite_f hz' ?_
      with_reducible refine wpAny_execs_nil ?_
      refine hK _ _ ?_
      rw [if_neg hz'] at hell
      exact k3a5 got.length (init ++ [z]) z (by simp; lia) hl2 (by lia) hell ‹_›
  rintro s7 or4
  refine x3a5 or4 fun ep lst wv2 hl3 hl4 hep hell2 S7 => ?_; clear or4
  clear hell hell' hl0 hl1 hl2 hz S6
  with_reducible refine execs_consB ?_
  with_reducible refine wpAny_If ?_
  with_reducible refine r_cmpi ‹_› ‹_› (.loc me3 me1 me3) (.loc me4 me1 me4) (fun _ _ _ _ => ?_) (by with_unfolding_all rfl)
  with_reducible refine PyProof.Rows.gt_int ?_
  with_reducible refine wpAny_truthy_bool ?_
  by_cases hgt : (sp : Int) > (ep : Int)
  · refine ite_t (by simpa using hgt) ?_
    with_reducible refine execs_oneH fun Jz hJz => ?_
    with_reducible refine wpAny_Return_some ?_
    with_reducible refine r_bool ?_
    with_reducible refine Hb.go ‹_› ?_
    with_reducible refine Hb.go ‹_› ?_
    have := h _ (St.drop ‹_› (.cons _ (List.sublist_cons_self _ _)))
    rw [hell2, if_pos (by lia)] at this
    exact this
  refine ite_f (by simpa using hgt) ?_
  rw [if_neg (by lia)] at hell2
  with_reducible refine wpAny_execs_nil ?_
  with_reducible refine execs_consB ?_
  with_reducible refine r_for ?_ (fun _ => rfl)
  with_reducible refine r_local_val ‹_› ‹_› me2 me1 me2 ?_
  with_reducible refine i_list ‹_› me0 fun _ _ _ => ?_
  refine b_list (k := k + 2) (l := D) (xs := lst.map MV.str) (fun i σ' => ∃ (sp' : Nat) (wv : Str), sp' ≤ 2 ^ 22 ∧ ellM want got = ellGo got ep sp' (lst.drop i) ∧
      σ' = (D, VO.list (lst.map MV.str)) :: (env.locals, VO.ns [("want", some (.str want)), ("got", some (.str got)), ("ws", some (.ref D)), ("startpos", some (.int (sp' : Nat))), ("endpos", some (.int (ep : Nat))), ("w", some (.str wv))]) :: σ) hA1
    ?_ ?_ ?_ ⟨sp, wv2, by exact leB ‹_› rfl, hell2, rfl⟩ ‹_›
  · rintro i σ' ⟨sp', wv, _, _, rfl⟩; exact me0
  · rintro i σ' s mv v hmv or5
    refine x2a3 or5 fun sp' wv hsp' hgo qz514 => ?_; clear or5; subst qz514
    rintro S9 hv N
    refine x1a2 (by simpa using hmv : ∃ x, lst[i]? = some x ∧ MV.str x = mv) fun x hx qz612 => ?_; subst qz612
    obtain ⟨tx, rfl⟩ := hv
    have hxl := hl4 x (List.mem_of_getElem? hx)
    have hd : lst.drop i = x :: lst.drop (i + 1) := List.drop_eq_getElem?_toList_append.trans (by rw [hx]; rfl)
    rw [hd] at hgo
    intro J hJ
    with_reducible refine wpAny_assign_Name ?_
    with_reducible refine r_store_str ‹_› ‹_› me5 up2 un5 fun _ _ => ?_
    with_reducible refine execs_consB ?_
    with_reducible refine wpAny_Assign_Name ?_ rfl
    with_reducible refine r_method rfl rfl rfl rfl ?_
    with_reducible refine r_local_str ‹_› ‹_› me1 me2 me1 fun _ => ?_
    with_reducible refine mStr PySem.F.slot_str_find PySem.F.type_str_find ?_
    with_reducible refine wpAny_items_cons ?_ rfl
    with_reducible refine r_local_str ‹_› ‹_› me5 me2 me5 fun _ => ?_
    with_reducible refine items_two ?_ rfl rfl
    with_reducible refine r_local_int ‹_› ‹_› me3 me2 me3 fun _ => ?_
    with_reducible refine r_local_int ‹_› ‹_› me4 me2 me4 fun _ => ?_
    with_reducible refine r_find4 ‹_› (by lia) (by lia) fun _ _ _ => ?_
    with_reducible refine r_store_int ‹_› ‹_› me3 up2 un3 fun _ _ => ?_
    with_reducible refine execs_consB ?_
    with_reducible refine wpAny_If ?_
    with_reducible refine r_cmpi ‹_› ‹_› (.loc me3 me2 me3) .con (fun _ _ _ _ => ?_) (by with_unfolding_all rfl)
    with_reducible refine PyProof.Rows.lt_int ?_
    with_reducible refine wpAny_truthy_bool ?_
    have hgo' : ellM want got = if find4 got x sp' ep < 0 then false else ellGo got ep ((find4 got x sp' ep).toNat + x.length) (lst.drop (i + 1)) := hgo
    by_cases hneg : find4 got x sp' ep < 0
    · refine ite_t (by simpa using hneg) ?_
      with_reducible refine execs_oneH fun Jz hJz => ?_
      with_reducible refine wpAny_Return_some ?_
      with_reducible refine r_bool ?_
      with_reducible refine Hb.go ‹_› ?_
      with_reducible refine Hb.go ‹_› ?_
      with_reducible refine Hb.go ‹_› ?_
      have := h _ (St.drop ‹_› (.cons _ (.cons _ (.cons _ (.refl _)))))
      rw [hgo', if_pos hneg] at this
      exact this
    · refine ite_f (by simpa using hneg) ?_
      rw [if_neg hneg] at hgo'
      have hb : (find4 got x sp' ep).toNat + x.length ≤ 2 ^ 22 := by
        rcases find4_spec got x sp' ep with ⟨e, _⟩ | ⟨k', e, _, ha, _⟩
        · lia
        · have := ha.1; lia
      with_reducible refine wpAny_execs_nil ?_
      with_reducible refine execs_oneB ?_
      with_reducible refine wpAny_AugAssign_Name ?_
      with_reducible refine r_load_int ‹_› ‹_› me3 me2 me3 fun _ => ?_
      with_reducible refine r_callB rfl ?_
      with_reducible refine r_global ‹_› ‹_› me1 (by exact gv_len _) ?_
      with_reducible refine nr_builtin ?_
      with_reducible refine items_one ?_ rfl
      with_reducible refine r_local_str ‹_› ‹_› me5 me2 me5 fun _ => ?_
      with_reducible refine r_len_str ‹_› (leB ‹_› rfl) fun _ _ _ => ?_
      with_reducible refine r_iadd ‹_› fun _ _ _ => ?_
      with_reducible refine r_store_int ‹_› ‹_› me3 up2 un3 fun _ _ => ?_
      with_reducible refine Hb.go ‹_› ?_
      refine k1a2 _ (k2a3 ((find4 got x sp' ep).toNat + x.length) x hb hgo' rfl) ?_
      have e : (((find4 got x sp' ep).toNat + x.length : Nat) : Int) = find4 got x sp' ep + x.length := by lia
      rw [e]
      assumption
  · rintro σ' s or6
    refine x2a3 or6 fun sp' wv hsp' hgo qz814 => ?_; clear or6; subst qz814
    rintro S9 N
    with_reducible refine wpAny_execs_nil ?_
    with_reducible refine execs_oneB ?_
    with_reducible refine wpAny_Return_some ?_
    with_reducible refine r_bool ?_
    with_reducible refine Hb.go ‹_› ?_
    have := h _ (St.drop ‹_› (.cons _ (.cons _ (.refl _))))
    rw [hgo] at this
    simp only [List.length_map, List.drop_length] at this
    exact this
end
section
noncomputable def octets (n : Nat) : Str := if n < 64 then ⟨#[n]⟩ else ⟨#[64 + n / 64]⟩ ++ ⟨#[n % 64]⟩
section
variable {B : Base} {σ : Led} {s : Shared} {prog : Program} {A : Around} {E : Value → Shared → Prop} {Q : Value → Shared → Prop} {k : Nat}
theorem octets_spec {n : Nat} {t : Tok} (S : St B σ s) (hA : Ok A (k + 1)) (hn : n < 4096) (h : ∀ t s', St B σ s' → Q (.str (octets n) t) s') :
    wpAny (model prog B.w) A (call (.ref 106) [.int (n : Int) t]) Q E s := by
  refine' r_call (ln := ["number"]) (gn := ["chr"]) (mvs := [.int n]) (ns := [("number", some (.int n))]) S hA rfl (by decide) rfl ?f1 (.cons ⟨t, rfl⟩ .nil) ?f2 ?f3 ?f4 ?_
  case f1 => (intro h K; exact k4a4 _ _ _ _ rfl (K _ _ rfl (by decide)) rfl rfl)
  case f2 => kernel_rfl!
  case f3 => exact all1 fun _ => rfl
  case f4 => (refine ⟨rfl, by decide +kernel, by decide +kernel, by decide +kernel, by decide +kernel, by decide +kernel, by decide +kernel, by decide +kernel, rfl, rfl⟩)
  intro env s1 hE hsc S1 hA1
  with_reducible refine execs_consH fun Jz hJz => ?_
  with_reducible refine wpAny_If ?_
  with_reducible refine r_cmpi ‹_› ‹_› (.loc me0 me0 me0) .con (fun _ _ _ _ => ?_) (by with_unfolding_all rfl)
  with_reducible refine PyProof.Rows.lt_int ?_
  with_reducible refine wpAny_truthy_bool ?_
  by_cases hlt : n < 64
  · have h1 : (n : Int) < 64 := by lia
    rw [if_pos (by simpa using h1)]
    with_reducible refine execs_oneH fun Jz hJz => ?_
    with_reducible refine wpAny_Return_some ?_
    with_reducible refine r_callB rfl ?_
    with_reducible refine r_global ‹_› ‹_› me0 (by exact gv_chr _) ?_
    with_reducible refine nr_builtin ?_
    with_reducible refine items_one ?_ rfl
    with_reducible refine r_local_int ‹_› ‹_› me0 me0 me0 fun _ => ?_
    with_reducible refine r_chr ‹_› (by constructor <;> lia) fun _ _ _ => ?_
    with_reducible refine Hb.go ‹_› ?_
    with_reducible refine Hb.go ‹_› ?_
    have := h ‹_› _ (St.drop ‹_› (.cons _ (.refl _)))
    unfold octets at this; rw [if_pos hlt] at this; simpa using this
  · have h1 : ¬ (n : Int) < 64 := by lia
    rw [if_neg (by simpa using h1)]
    with_reducible refine wpAny_execs_nil ?_
    with_reducible refine execs_oneB ?_
    with_reducible refine wpAny_Return_some ?_
    with_reducible refine wpAny_BinOp ?_
    with_reducible refine r_callB rfl ?_
    with_reducible refine r_global ‹_› ‹_› me0 (by exact gv_chr _) ?_
    with_reducible refine nr_builtin ?_
    with_reducible refine items_one ?_ rfl
    with_reducible refine wpAny_BinOp ?_
    with_reducible refine r_int ‹_› fun _ _ _ => ?_
    with_reducible refine wpAny_BinOp ?_
    with_reducible refine r_local_int ‹_› ‹_› me0 me0 me0 fun _ => ?_
    with_reducible refine r_int ‹_› fun _ _ _ => ?_
    with_reducible refine r_fdiv ‹_› (by decide) (by decide) fun _ _ _ => ?_
    with_reducible refine r_add ‹_› fun _ _ _ => ?_
    with_reducible refine r_chr ‹_› (by constructor <;> lia) fun _ _ _ => ?_
    with_reducible refine r_callB rfl ?_
    with_reducible refine r_global ‹_› ‹_› me0 (by exact gv_chr _) ?_
    with_reducible refine nr_builtin ?_
    with_reducible refine items_one ?_ rfl
    with_reducible refine wpAny_BinOp ?_
    with_reducible refine r_local_int ‹_› ‹_› me0 me0 me0 fun _ => ?_
    with_reducible refine r_int ‹_› fun _ _ _ => ?_
    with_reducible refine r_mod ‹_› (by decide) fun _ _ _ => ?_
    with_reducible refine r_chr ‹_› (by constructor <;> grind) fun _ _ _ => ?_
    with_reducible refine r_sadd ‹_› szA fun _ _ _ => ?_
    with_reducible refine Hb.go ‹_› ?_
    have := h ‹_› _ (St.drop ‹_› (.cons _ (.refl _)))
    unfold octets at this; rw [if_neg hlt] at this
    have e1 : (64 + (n : Int) / 64).toNat = 64 + n / 64 := by lia
    have e2 : ((n : Int) % 64).toNat = n % 64 := by lia
    rw [← e1, ← e2] at this
    exact this
theorem replace_length (x y z : Str) : (Txt.replace x y z).length ≤ x.length + (x.length + 1) * z.length := by
  unfold Txt.replace
  split
  · lia
  · have h1 := StrLaws.occ_length_le x y 0 x.length (x.length + 1)
    have hy : (Builtin.Str.glued y (Builtin.Str.partsBetween x (Builtin.Str.occurrences x y 0 x.length (x.length + 1)) y.length)).length = x.length := by rw [StrLaws.glued_between_self]
    rw [size_glued, length_partsBetween, Nat.add_sub_cancel] at hy
    rw [size_glued, length_partsBetween, Nat.add_sub_cancel]
    have h2 : (Builtin.Str.occurrences x y 0 x.length (x.length + 1)).length * z.length ≤ (x.length + 1) * z.length := Nat.mul_le_mul_right _ h1
    lia
noncomputable def pattern (flags : Str) : Str := Str.ofString "...," ++ Txt.replace flags (Str.ofString ", ") (Str.ofString ",...,") ++ Str.ofString ",..."
theorem pattern_spec {x : Str} {t : Tok} (S : St B σ s) (hA : Ok A (k + 1)) (hn : x.length ≤ 1000) (h : ∀ t s', St B σ s' → Q (.str (pattern x) t) s') :
    wpAny (model prog B.w) A (call (.ref 118) [.str x t]) Q E s := by
  refine' r_call (ln := ["flags"]) (gn := []) (mvs := [.str x]) (ns := [("flags", some (.str x))]) S hA rfl (by decide) rfl ?f1 (.cons ⟨t, rfl⟩ .nil) ?f2 ?f3 ?f4 ?_
  case f1 => (intro h K; exact k4a4 _ _ _ _ rfl (K _ _ rfl (by decide)) rfl rfl)
  case f2 => kernel_rfl!
  case f3 => exact all1 fun _ => rfl
  case f4 => (refine ⟨rfl, by decide +kernel, by decide +kernel, by decide +kernel, by decide +kernel, by decide +kernel, by decide +kernel, by decide +kernel, rfl, rfl⟩)
  intro env s1 hE hsc S1 hA1
  have hr := replace_length x (Str.ofString ", ") (Str.ofString ",...,")
  rw [len_cd3c] at hr
  with_reducible refine execs_oneH fun Jz hJz => ?_
  with_reducible refine wpAny_Return_some ?_
  with_reducible refine wpAny_BinOp ?_
  with_reducible refine wpAny_BinOp ?_
  with_reducible refine r_str ‹_› fun _ _ _ => ?_
  with_reducible refine r_replace rfl rfl (by decide +kernel) ?_
  with_reducible refine r_local_str ‹_› ‹_› me0 me0 me0 fun _ => ?_
  refine k3a4 _ _ _ rfl ‹_› (by rw [len_cd3c]; lia) ?_
  intro t2 s2 S2
  with_reducible refine r_sadd ‹_› szA fun _ _ _ => ?_
  with_reducible refine r_str ‹_› fun _ _ _ => ?_
  with_reducible refine r_sadd ‹_› szA fun _ _ _ => ?_
  with_reducible refine Hb.go ‹_› ?_
  exact h _ _ (St.drop ‹_› (.cons _ (.refl _)))
theorem holds_spec {l : Addr} {ps : List Str} {x : Str} {t : Tok} (S : St B σ s) (hA : Ok A (k + 4)) (hl : (l, VO.list (ps.map MV.str)) ∈ σ) (hx : x.length ≤ 2 ^ 20) (hp : ∀ p ∈ ps, p.length ≤ 2 ^ 20) (h : ∀ s', St B σ s' → Q (.bool (ps.any fun p => ellM p x)) s') :
    wpAny (model prog B.w) A (call (.ref 125) [.str x t, .ref l]) Q E s := by
  refine' r_call (ln := ["held", "patterns", "pattern"]) (gn := ["_ellipsis_match"]) (mvs := [.str x, .ref l]) (ns := [("held", some (.str x)), ("patterns", some (.ref l)), ("pattern", none)]) S hA rfl (by decide) rfl ?f1 (.cons ⟨t, rfl⟩ (.cons rfl .nil)) ?f2 ?f3 ?f4 ?_
  case f1 => (intro h K; exact k4a4 _ _ _ _ rfl (K _ _ rfl (by decide)) rfl rfl)
  case f2 => kernel_rfl!
  case f3 => exact all2 fun _ _ => rfl
  case f4 => (refine ⟨rfl, by decide +kernel, by decide +kernel, by decide +kernel, by decide +kernel, by decide +kernel, by decide +kernel, by decide +kernel, rfl, rfl⟩)
  intro env s1 hE hsc S1 hA1
  have hl1 : (l, VO.list (ps.map MV.str)) ∈ (env.locals, VO.ns [("held", some (.str x)), ("patterns", some (.ref l)), ("pattern", none)]) :: σ := .tail _ hl
  with_reducible refine execs_consH fun Jz hJz => ?_
  with_reducible refine r_for ?_ (fun _ => rfl)
  with_reducible refine r_local_val ‹_› ‹_› me1 me0 me1 ?_
  with_reducible refine i_list ‹_› ‹_› fun _ _ _ => ?_
  refine b_list (l := l) (xs := ps.map MV.str) (k := k + 3) (fun i σ' => ∃ o : Option MV, σ' = (env.locals, VO.ns [("held", some (.str x)), ("patterns", some (.ref l)), ("pattern", o)]) :: σ ∧ ∀ p ∈ ps.take i, ellM p x = false) hA1 ?_ ?_ ?_ ⟨none, rfl, by simp⟩ ‹_›
  · rintro i _ ⟨o, rfl, _⟩; exact .tail _ hl
  · rintro i _ s mv v hmv or1
    refine x1a2 or1 fun o qz011 hno => ?_; clear or1; subst qz011
    rintro S3 hv N
    refine x1a2 (by simpa using hmv : ∃ p, ps[i]? = some p ∧ MV.str p = mv) fun p hpi qz112 => ?_; subst qz112
    refine x1a1 hv fun tp qz011 => ?_; clear hv; subst qz011
    intro J hJ
    with_reducible refine wpAny_assign_Name ?_
    with_reducible refine r_store_str ‹_› ‹_› me2 up1 un2 fun _ _ => ?_
    with_reducible refine execs_oneB ?_
    with_reducible refine wpAny_If ?_
    with_reducible refine wpAny_isTrue_value ?_ rfl
    with_reducible refine r_callF ‹_› ‹_› me0 (gv_ell _) rfl rfl rfl (by decide) ?_
    with_reducible refine items_two ?_ rfl rfl
    with_reducible refine r_local_str ‹_› ‹_› me2 me1 me2 fun _ => ?_
    with_reducible refine r_local_str ‹_› ‹_› me0 me1 me0 fun _ => ?_
    (with_reducible refine And.intro ⟨_, by assumption⟩ ?_; with_reducible show wpAny _ _ (call (Value.ref _) _) _ _ _)
    refine ell_spec (k := k) ‹_› hA1 (hp p (List.mem_of_getElem? hpi)) hx fun s4 S4 => ?_
    with_reducible refine wpAny_truthy_bool ?_
    cases hm : ellM p x
    · rw [if_neg (by decide)]
      with_reducible refine wpAny_execs_nil ?_
      with_reducible refine Hb.go ‹_› ?_
      refine k1a2 _ (k1a2 _ rfl ?_) ‹_›
      intro q hq
      rw [List.take_add_one, hpi] at hq
      rcases List.mem_append.mp hq with hq | hq
      · skip
        exact hno q hq
      · simp at hq; subst hq; exact hm
    · rw [if_pos rfl]
      with_reducible refine execs_oneB ?_
      with_reducible refine wpAny_Return_some ?_
      with_reducible refine r_bool ?_
      with_reducible refine Hb.go ‹_› ?_
      with_reducible refine Hb.go ‹_› ?_
      have := h _ (St.drop ‹_› (.cons _ (.cons _ (.refl _))))
      rw [show (ps.any fun p => ellM p x) = true from List.any_eq_true.mpr ⟨p, List.mem_of_getElem? hpi, hm⟩] at this
      exact this
  · rintro _ s or2
    refine x1a2 or2 fun o qz311 hno => ?_; clear or2; subst qz311
    rintro S3 N
    with_reducible refine wpAny_execs_nil ?_
    with_reducible refine execs_oneB ?_
    with_reducible refine wpAny_Return_some ?_
    with_reducible refine r_bool ?_
    with_reducible refine Hb.go ‹_› ?_
    have := h _ (St.drop ‹_› (.cons _ (.refl _)))
    rw [show (ps.any fun p => ellM p x) = false from List.any_eq_false.mpr fun p hp => by simpa using hno p (by simpa using hp)] at this
    exact this
noncomputable def onceAsked (w : Str) : List (Str × Str × Bool) := let d := Str.ofString "..."
  [(w, w, true), (w, w ++ w, false), (w ++ d ++ w, w ++ w, true), (w ++ d ++ w, w, false), (d ++ (w ++ d ++ w) ++ d, w, false)]
noncomputable def onceM (w : Str) : Bool := (onceAsked w).all fun p => ellM p.1 p.2.1 == p.2.2
noncomputable abbrev tripMV (p : Str × Str × Bool) : MV := .tup [.str p.1, .str p.2.1, .bool p.2.2]
theorem once_spec {x : Str} {t : Tok} (S : St B σ s) (hA : Ok A (k + 4)) (hx : x.length ≤ 1000) (h : ∀ s', St B σ s' → Q (.bool (onceM x)) s') :
    wpAny (model prog B.w) A (call (.ref 130) [.str x t]) Q E s := by
  refine' r_call (ln := ["word", "twice", "gap", "asked"]) (gn := []) (mvs := [.str x]) (ns := [("word", some (.str x)), ("twice", none), ("gap", none), ("asked", none)]) S hA rfl (by decide) rfl ?f1 (.cons ⟨t, rfl⟩ .nil) ?f2 ?f3 ?f4 ?_
  case f1 => (intro h K; exact k4a4 _ _ _ _ rfl (K _ _ rfl (by decide)) rfl rfl)
  case f2 => kernel_rfl!
  case f3 => exact all1 fun _ => rfl
  case f4 => (refine ⟨rfl, by decide +kernel, by decide +kernel, by decide +kernel, by decide +kernel, by decide +kernel, by decide +kernel, by decide +kernel, rfl, rfl⟩)
  intro env s1 hE hsc S1 hA1
  with_reducible refine execs_consH fun Jz hJz => ?_
  with_reducible refine wpAny_Assign_Name ?_ rfl
  with_reducible refine wpAny_BinOp ?_
  with_reducible refine r_local_str ‹_› ‹_› me0 me0 me0 fun _ => ?_
  with_reducible refine r_local_str ‹_› ‹_› me0 me0 me0 fun _ => ?_
  with_reducible refine r_sadd ‹_› (by unfold sizeLine; lia) fun _ _ _ => ?_
  with_reducible refine r_store_str ‹_› ‹_› me1 up0 un1 fun _ _ => ?_
  with_reducible refine execs_consB ?_
  with_reducible refine wpAny_Assign_Name ?_ rfl
  with_reducible refine wpAny_BinOp ?_
  with_reducible refine wpAny_BinOp ?_
  with_reducible refine r_local_str ‹_› ‹_› me0 me0 me0 fun _ => ?_
  with_reducible refine r_str ‹_› fun _ _ _ => ?_
  with_reducible refine r_sadd ‹_› szA fun _ _ _ => ?_
  with_reducible refine r_local_str ‹_› ‹_› me0 me0 me0 fun _ => ?_
  with_reducible refine r_sadd ‹_› szA fun _ _ _ => ?_
  with_reducible refine r_store_str ‹_› ‹_› me2 up0 un2 fun _ _ => ?_
  with_reducible refine execs_consB ?_
  with_reducible refine wpAny_Assign_Name ?_ rfl
  with_reducible refine r_list_lit ?_
  with_reducible refine wpAny_items_cons ?_ rfl
  with_reducible refine r_tuple_lit ?_
  with_reducible refine wpAny_items_cons ?_ rfl
  with_reducible refine r_local_str ‹_› ‹_› me0 me0 me0 fun _ => ?_
  with_reducible refine items_two ?_ rfl rfl
  with_reducible refine r_local_str ‹_› ‹_› me0 me0 me0 fun _ => ?_
  with_reducible refine r_bool ?_
  with_reducible refine lit_intro szA ‹_› (by with_reducible exact .str (.str (.bool .nil))) fun _ _ _ => ?_
  with_reducible refine wpAny_items_cons ?_ rfl
  with_reducible refine r_tuple_lit ?_
  with_reducible refine wpAny_items_cons ?_ rfl
  with_reducible refine r_local_str ‹_› ‹_› me0 me1 me0 fun _ => ?_
  with_reducible refine items_two ?_ rfl rfl
  with_reducible refine r_local_str ‹_› ‹_› me1 me1 me1 fun _ => ?_
  with_reducible refine r_bool ?_
  with_reducible refine lit_intro szA ‹_› (by with_reducible exact .str (.str (.bool .nil))) fun _ _ _ => ?_
  with_reducible refine items_two ?_ rfl rfl
  with_reducible refine r_tuple_lit ?_
  with_reducible refine wpAny_items_cons ?_ rfl
  with_reducible refine r_local_str ‹_› ‹_› me2 me2 me2 fun _ => ?_
  with_reducible refine items_two ?_ rfl rfl
  with_reducible refine r_local_str ‹_› ‹_› me1 me2 me1 fun _ => ?_
  with_reducible refine r_bool ?_
  with_reducible refine lit_intro szA ‹_› (by with_reducible exact .str (.str (.bool .nil))) fun _ _ _ => ?_
  with_reducible refine r_tuple_lit ?_
  with_reducible refine wpAny_items_cons ?_ rfl
  with_reducible refine r_local_str ‹_› ‹_› me2 me3 me2 fun _ => ?_
  with_reducible refine items_two ?_ rfl rfl
  with_reducible refine r_local_str ‹_› ‹_› me0 me3 me0 fun _ => ?_
  with_reducible refine r_bool ?_
  with_reducible refine lit_intro szA ‹_› (by with_reducible exact .str (.str (.bool .nil))) fun _ _ _ => ?_
  with_reducible refine lit_intro szA ‹_› (by with_reducible exact .atup ‹_› me3 (.atup ‹_› me2 (.atup ‹_› me1 (.atup ‹_› me0 .nil)))) fun _ _ _ => ?_
  with_reducible refine r_store_val ‹_› ‹_› me3 up5 un3 fun _ _ => ?_
  with_reducible refine execs_consB ?_
  with_reducible refine r_expr ‹_› ?_ rfl
  with_reducible refine r_method rfl rfl rfl rfl ?_
  with_reducible refine r_local_val ‹_› ‹_› me3 me5 me3 ?_
  with_reducible refine mList PySem.F.slot_list_append PySem.F.type_list_append ‹_› me0 ?_
  with_reducible refine items_one ?_ rfl
  with_reducible refine r_tuple_lit ?_
  with_reducible refine wpAny_items_cons ?_ rfl
  with_reducible refine wpAny_BinOp ?_
  with_reducible refine wpAny_BinOp ?_
  with_reducible refine r_str ‹_› fun _ _ _ => ?_
  with_reducible refine r_local_str ‹_› ‹_› me2 me5 me2 fun _ => ?_
  with_reducible refine r_sadd ‹_› szA fun _ _ _ => ?_
  with_reducible refine r_str ‹_› fun _ _ _ => ?_
  with_reducible refine r_sadd ‹_› szA fun _ _ _ => ?_
  with_reducible refine items_two ?_ rfl rfl
  with_reducible refine r_local_str ‹_› ‹_› me0 me5 me0 fun _ => ?_
  with_reducible refine r_bool ?_
  with_reducible refine lit_intro szA ‹_› (by with_reducible exact .str (.str (.bool .nil))) fun _ _ _ => ?_
  with_reducible refine r_lappend_tup ‹_› me0 up1 szA fun _ _ => ?_
  with_reducible refine And.intro rfl ?_
  with_reducible refine execs_oneB ?_
  with_reducible refine wpAny_Return_some ?_
  with_reducible refine wpAny_Compare1 ?_
  refine' r_comp (ln' := ["want", "got", "due"]) (cs' := []) (gn' := ["_ellipsis_match"]) hE ?c1 ?c2 ?c3 ?c4 ?_
  case c1 => exact scO rfl (by decide +kernel)
  case c2 => rfl
  case c3 => exact fn
  case c4 => intro _; rfl
  with_reducible refine r_local_val ‹_› ‹_› me3 me6 me3 ?_
  with_reducible refine i_list ‹_› me1 fun _ _ _ => ?_
  refine' CompPack.of_list (xs := onceAsked x) (emb := tripMV) (g := fun p => if ellM p.1 p.2.1 != p.2.2 then some (MV.bool p.2.2) else none) ‹_› ?q_m ?q_e hA1.handled ?q_z ?_ ?_
  case q_m => exact me1
  case q_e => rfl
  case q_z => show 5 ≤ sizeLine; unfold sizeLine; lia
  · rintro C D cenv hE' hc i or3
    obtain ⟨a, b, d⟩ := or3
    rintro acc s2 v hxi S2 or4
    refine x1a2 or4 fun ad qz211 ht => ?_; clear or4; subst qz211
    rintro N
    simp only [noneNs, List.map_cons, List.map_nil] at S2
    have hlen : a.length ≤ 2 ^ 20 ∧ b.length ≤ 2 ^ 20 := by
      have := List.mem_of_getElem? hxi
      simp only [onceAsked, List.mem_cons, Prod.mk.injEq, List.not_mem_nil, or_false] at this
      rcases this with ⟨rfl, rfl, _⟩ | ⟨rfl, rfl, _⟩ | ⟨rfl, rfl, _⟩ | ⟨rfl, rfl, _⟩ | ⟨rfl, rfl, _⟩ <;> constructor <;> first | lia | (simp only [Str.length_append, len_d3]; lia)
    have ht' : TupAt s2.heap ad [.str a, .str b, .bool d] := ht
    ((with_reducible refine' r_unpack3 ?q_uS_152 ?q_uA_152 ?q_ut_152 ?_); (case q_uS_152 => assumption); (case q_uA_152 => exact Ok.handled ‹_›); (case q_ut_152 => assumption); (intro _ _ _ _ _); (dsimp only [Sc.val]))
    with_reducible refine r_store_str ‹_› ‹_› me0 up0 un0 fun _ _ => ?_
    with_reducible refine r_store_str ‹_› ‹_› me1 up0 un1 fun _ _ => ?_
    with_reducible refine r_store_bool ‹_› ‹_› me2 up0 un2 fun _ _ => ?_
    with_reducible refine wpAny_tests_one ?_
    with_reducible refine wpAny_isTrue_Compare1 ?_
    with_reducible refine r_callF ‹_› ‹_› me0 (gv_ell _) rfl rfl rfl (by decide) ?_
    with_reducible refine items_two ?_ rfl rfl
    with_reducible refine r_local_str ‹_› ‹_› me0 me0 me0 fun _ => ?_
    with_reducible refine r_local_str ‹_› ‹_› me1 me0 me1 fun _ => ?_
    (with_reducible refine And.intro ⟨_, by assumption⟩ ?_; with_reducible show wpAny _ _ (call (Value.ref _) _) _ _ _)
    refine ell_spec (k := k) ‹_› hA1 hlen.1 hlen.2 fun s3 S3 => ?_
    with_reducible refine r_local_bool ‹_› ‹_› me2 me0 me2 ?_
    with_reducible refine PyProof.Rows.isnot_bool ?_
    with_reducible refine wpAny_truthy_bool ?_
    cases hc : (ellM a b != d)
    · rw [if_neg (by decide)]
      exact ⟨rfl, (k1a2 _ rfl ‹_›)⟩
    · rw [if_pos rfl]
      with_reducible refine r_local_bool ‹_› ‹_› me2 me0 me2 ?_
      exact k2a4 (MV.bool d) _ rfl rfl rfl ‹_›
  · intro C D s2 S2 s3 S3
    clear S2
    with_reducible refine r_list_lit ?_
    with_reducible refine wpAny_items_nil ?_
    with_reducible refine lit_intro szA ‹_› (by with_reducible exact .nil) fun _ _ _ => ?_
    with_reducible refine r_eq_nil ‹_› ‹_› me1 me0 ?_
    with_reducible refine Hb.go ‹_› ?_
    have := h _ (St.drop ‹_› (.cons _ (.cons _ (.cons _ (.cons _ (.cons _ (.cons _ (.cons _ (.cons _ (.cons _ (.refl _)))))))))))
    rw [show onceM x = ((onceAsked x).filterMap fun p => if ellM p.1 p.2.1 != p.2.2 then some (MV.bool p.2.2) else none).isEmpty from ?_] at this
    · exact this
    · unfold onceM
      generalize onceAsked x = l
      induction l with
      | nil => rfl
      | cons p r ih =>
        rw [List.all_cons, List.filterMap_cons, ih]
        cases hq : (ellM p.1 p.2.1 == p.2.2)
        · have : (ellM p.1 p.2.1 != p.2.2) = true := by rw [bne, hq]; rfl
          simp [this]
        · have : (ellM p.1 p.2.1 != p.2.2) = false := by rw [bne, hq]; rfl
          simp [this]
end
end
section
section
variable {B : Base} {σ : Led} {s : Shared} {prog : Program} {A : Around} {E : Value → Shared → Prop} {Q : Value → Shared → Prop} {k : Nat}
noncomputable def roundOk (ring : List Str) (i : Nat) : Bool :=
  let d := Str.ofString "..."; let held := Txt.join (Str.ofString "") ring; let turned := Txt.join d (ring.drop i ++ ring.take i)
  (ellM (d ++ turned ++ d) held == (i == 0)) && (ellM (turned ++ d) (held ++ held) == (i == 0)) && (ellM (d ++ turned) (held ++ held) == (i == 0))
noncomputable def roundM (ring : List Str) : Bool := (List.range ring.length).all (roundOk ring)
theorem join_len (x : Str) (xs : List Str) : (Txt.join x xs).length ≤ (xs.map (·.length)).sum + xs.length * x.length := by
  unfold Txt.join
  rw [StrLaws.glued_eq_join]
  exact StrLaws.join_length_le x xs
theorem round_spec {l : Addr} {ring : List Str} (S : St B σ s) (hA : Ok A (k + 4)) (hl : (l, VO.list (ring.map MV.str)) ∈ σ) (hn : ring.length ≤ 100) (hx : (ring.map (·.length)).sum ≤ 10000) (h : ∀ s', St B σ s' → Q (.bool (roundM ring)) s') :
    wpAny (model prog B.w) A (call (.ref 137) [.ref l]) Q E s := by
  refine' r_call (ln := ["ring", "held", "begun", "turned"]) (gn := ["range", "len", "_ellipsis_match"]) (mvs := [.ref l]) (ns := [("ring", some (.ref l)), ("held", none), ("begun", none), ("turned", none)]) S hA rfl (by decide) rfl ?f1 (.cons rfl .nil) ?f2 ?f3 ?f4 ?_
  case f1 => (intro h K; exact k4a4 _ _ _ _ rfl (K _ _ rfl (by decide)) rfl rfl)
  case f2 => kernel_rfl!
  case f3 => exact all1 fun _ => rfl
  case f4 => (refine ⟨rfl, by decide +kernel, by decide +kernel, by decide +kernel, by decide +kernel, by decide +kernel, by decide +kernel, by decide +kernel, rfl, rfl⟩)
  intro env s1 hE hsc S1 hA1
  have hheld := join_len (Str.ofString "") ring
  rw [len_emp] at hheld
  with_reducible refine execs_consH fun Jz hJz => ?_
  with_reducible refine wpAny_Assign_Name ?_ rfl
  with_reducible refine r_method rfl rfl rfl rfl ?_
  with_reducible refine r_str ‹_› fun _ _ _ => ?_
  with_reducible refine mStr PySem.F.slot_str_join PySem.F.type_str_join ?_
  with_reducible refine items_one ?_ rfl
  with_reducible refine r_local_val ‹_› ‹_› me0 me0 me0 ?_
  refine r_sjoin (xs := ring) ‹_› (.tail _ (‹_›)) (by rw [len_emp]; exact leB ‹_› rfl) fun t2 s2 S2 => ?_
  with_reducible refine r_store_str ‹_› ‹_› me1 up0 un1 fun _ _ => ?_
  with_reducible refine execs_consB ?_
  with_reducible refine r_for ?_ (fun _ => rfl)
  with_reducible refine r_callB rfl ?_
  with_reducible refine r_global ‹_› ‹_› me0 (by exact gv_range _) ?_
  with_reducible refine nr_type ?_
  with_reducible refine items_one ?_ rfl
  with_reducible refine r_callB rfl ?_
  with_reducible refine r_global ‹_› ‹_› me1 (by exact gv_len _) ?_
  with_reducible refine nr_builtin ?_
  with_reducible refine items_one ?_ rfl
  with_reducible refine r_local_val ‹_› ‹_› me0 me0 me0 ?_
  ((with_reducible refine' r_len_list ?S_20 ?m_20 ?z_20 ?_); (case S_20 => assumption); (case m_20 => exact .tail _ (‹_›)); (case z_20 => exact szA); intro _ _ _)
  with_reducible refine r_range1 ‹_› fun _ _ _ _ _ _ _ => ?_
  refine i_range (n := ring.length) ‹_› ‹_› (by simp) (by omega) (by omega) fun I s4 S4 => ?_
  generalize hjj : Txt.join (Str.ofString "") ring = held at *
  refine b_range (k := k + 3) (fun i σ' => ∃ o1 o2 : Option MV, σ' = (env.locals, VO.ns [("ring", some (.ref l)), ("held", some (.str held)), ("begun", o1), ("turned", o2)]) :: σ ∧ ∀ j, j < i → roundOk ring j = true) hA1 ?_ ?_ ⟨none, none, rfl, by omega⟩ S4
  · rintro i _ s t5 hi or1
    refine x2a2 or1 fun o1 o2 qz012 hok => ?_; clear or1; subst qz012
    rintro S5 N
    intro J hJ
    rw [Int.zero_add]
    have hlen2 : ((ring.drop i ++ ring.take i).map (·.length)).sum = (ring.map (·.length)).sum := by
      rw [List.map_append, List.sum_append, List.map_drop, List.map_take, Nat.add_comm, ← List.sum_append, List.take_append_drop]
    have hlen3 : (ring.drop i ++ ring.take i).length = ring.length := by simp; omega
    have htu := join_len (Str.ofString "...") (ring.drop i ++ ring.take i)
    rw [hlen2, hlen3, len_d3] at htu
    with_reducible refine wpAny_assign_Name ?_
    with_reducible refine r_store_int ‹_› ‹_› me2 up1 un2 fun _ _ => ?_
    with_reducible refine execs_consB ?_
    with_reducible refine wpAny_Assign_Name ?_ rfl
    with_reducible refine r_method rfl rfl rfl rfl ?_
    with_reducible refine r_str ‹_› fun _ _ _ => ?_
    with_reducible refine mStr PySem.F.slot_str_join PySem.F.type_str_join ?_
    with_reducible refine items_one ?_ rfl
    with_reducible refine wpAny_BinOp ?_
    with_reducible refine r_slice_list ?_ (fun _ _ => rfl)
    with_reducible refine r_local_val ‹_› ‹_› me0 me1 me0 ?_
    with_reducible refine evalPart_some_step ?_
    with_reducible refine r_local_int ‹_› ‹_› me2 me1 me2 fun _ => ?_
    with_reducible refine evalPart_none_step ?_
    ((with_reducible refine' slice_intro ?q_S_36 ?q_m_36 ?q_z_36 ?q_l_36 ?q_u_36 ?q_p_36 ?_); (case q_S_36 => assumption); (case q_m_36 => exact .tail _ (.tail _ (‹_›))); (case q_z_36 => exact szA); (case q_l_36 => first | exact IsPart.none | exact IsPart.int _ _); (case q_u_36 => first | exact IsPart.none | exact IsPart.int _ _); (case q_p_36 => first | exact PickIs.from _ | exact PickIs.upto _); intro _ _ _)
    with_reducible refine r_slice_list ?_ (fun _ _ => rfl)
    with_reducible refine r_local_val ‹_› ‹_› me0 me2 me0 ?_
    with_reducible refine evalPart_none_step ?_
    with_reducible refine evalPart_some_step ?_
    with_reducible refine r_local_int ‹_› ‹_› me2 me2 me2 fun _ => ?_
    ((with_reducible refine' slice_intro ?q_S_42 ?q_m_42 ?q_z_42 ?q_l_42 ?q_u_42 ?q_p_42 ?_); (case q_S_42 => assumption); (case q_m_42 => exact .tail _ (.tail _ (.tail _ (‹_›)))); (case q_z_42 => exact szA); (case q_l_42 => first | exact IsPart.none | exact IsPart.int _ _); (case q_u_42 => first | exact IsPart.none | exact IsPart.int _ _); (case q_p_42 => first | exact PickIs.from _ | exact PickIs.upto _); intro _ _ _)
    with_reducible refine r_ladd ‹_› me1 me0 szA fun _ _ _ => ?_
    refine' r_sjoin (xs := ring.drop i ++ ring.take i) ‹_› ?q_m ?q_z fun t6 s6 S6 => ?_
    case q_m => rw [List.map_append, List.map_drop, List.map_take]; exact me0
    case q_z => rw [hlen2, hlen3, len_d3]; unfold sizeLine; omega
    generalize htt : Txt.join (Str.ofString "...") (ring.drop i ++ ring.take i) = turned at *
    have hz : ((i : Int) == 0) = (i == 0) := by
      cases i with
      | zero => rfl
      | succ n => rw [show (n + 1 == 0) = false from rfl, beq_eq_false_iff_ne]; omega
    have hrow : roundOk ring i = ((ellM (Str.ofString "..." ++ turned ++ Str.ofString "...") held == (i == 0)) && (ellM (turned ++ Str.ofString "...") (held ++ held) == (i == 0)) && (ellM (Str.ofString "..." ++ turned) (held ++ held) == (i == 0))) := by
      subst hjj; subst htt; rfl
    have hbad : roundOk ring i = false → ∀ s', St B σ s' → Q (.bool false) s' := fun hr s' S' => by
      have := h s' S'
      rw [show roundM ring = false from List.all_eq_false.mpr ⟨i, List.mem_range.mpr hi, by rw [hr]; decide⟩] at this
      exact this
    with_reducible refine r_store_str ‹_› ‹_› me3 up4 un3 fun _ _ => ?_
    with_reducible refine execs_consB ?_
    with_reducible refine wpAny_If ?_
    with_reducible refine wpAny_isTrue_Compare1 ?_
    with_reducible refine r_callF ‹_› ‹_› me2 (gv_ell _) rfl rfl rfl (by decide) ?_
    with_reducible refine items_two ?_ rfl rfl
    with_reducible refine wpAny_BinOp ?_
    with_reducible refine wpAny_BinOp ?_
    with_reducible refine r_str ‹_› fun _ _ _ => ?_
    with_reducible refine r_local_str ‹_› ‹_› me3 me4 me3 fun _ => ?_
    with_reducible refine r_sadd ‹_› szA fun _ _ _ => ?_
    with_reducible refine r_str ‹_› fun _ _ _ => ?_
    with_reducible refine r_sadd ‹_› szA fun _ _ _ => ?_
    with_reducible refine r_local_str ‹_› ‹_› me1 me4 me1 fun _ => ?_
    (with_reducible refine And.intro ⟨_, by assumption⟩ ?_; with_reducible show wpAny _ _ (call (Value.ref _) _) _ _ _)
    refine ell_spec (k := k) ‹_› hA1 (by simp only [Str.length_append, len_d3]; omega) (by omega) fun s7 S7 => ?_
    with_reducible refine wpAny_Compare1 ?_
    with_reducible refine r_local_int ‹_› ‹_› me2 me4 me2 fun _ => ?_
    with_reducible refine r_int ‹_› fun _ _ _ => ?_
    with_reducible refine PyProof.Rows.eq_int ?_
    with_reducible refine PyProof.Rows.isnot_bool ?_
    with_reducible refine wpAny_truthy_bool ?_
    rw [hz]
    cases hc1 : (ellM (Str.ofString "..." ++ turned ++ Str.ofString "...") held != (i == 0))
    case true =>
      rw [if_pos rfl]
      with_reducible refine execs_oneH fun Jz hJz => ?_
      with_reducible refine wpAny_Return_some ?_
      with_reducible refine r_bool ?_
      with_reducible refine Hb.go ‹_› ?_
      with_reducible refine Hb.go ‹_› ?_
      with_reducible refine Hb.go ‹_› ?_
      refine hbad ?_ _ (St.drop ‹_› (.cons _ (.cons _ (.cons _ (.cons _ (.cons _ (.refl _)))))))
      rw [hrow]; rw [bne, Bool.not_eq_true'] at hc1; rw [hc1]; rfl
    rw [if_neg (by decide)]
    with_reducible refine wpAny_execs_nil ?_
    with_reducible refine execs_consB ?_
    with_reducible refine wpAny_If ?_
    with_reducible refine wpAny_isTrue_Compare1 ?_
    with_reducible refine r_callF ‹_› ‹_› me2 (gv_ell _) rfl rfl rfl (by decide) ?_
    with_reducible refine items_two ?_ rfl rfl
    with_reducible refine wpAny_BinOp ?_
    with_reducible refine r_local_str ‹_› ‹_› me3 me4 me3 fun _ => ?_
    with_reducible refine r_str ‹_› fun _ _ _ => ?_
    with_reducible refine r_sadd ‹_› szA fun _ _ _ => ?_
    with_reducible refine wpAny_BinOp ?_
    with_reducible refine r_local_str ‹_› ‹_› me1 me4 me1 fun _ => ?_
    with_reducible refine r_local_str ‹_› ‹_› me1 me4 me1 fun _ => ?_
    with_reducible refine r_sadd ‹_› (by unfold sizeLine; omega) fun _ _ _ => ?_
    (with_reducible refine And.intro ⟨_, by assumption⟩ ?_; with_reducible show wpAny _ _ (call (Value.ref _) _) _ _ _)
    refine ell_spec (k := k) ‹_› hA1 (by simp only [Str.length_append, len_d3]; omega) (by simp only [Str.length_append]; omega) fun s8 S8 => ?_
    with_reducible refine wpAny_Compare1 ?_
    with_reducible refine r_local_int ‹_› ‹_› me2 me4 me2 fun _ => ?_
    with_reducible refine r_int ‹_› fun _ _ _ => ?_
    with_reducible refine PyProof.Rows.eq_int ?_
    with_reducible refine PyProof.Rows.isnot_bool ?_
    with_reducible refine wpAny_truthy_bool ?_
    rw [hz]
    cases hc2 : (ellM (turned ++ Str.ofString "...") (held ++ held) != (i == 0))
    case true =>
      rw [if_pos rfl]
      with_reducible refine execs_oneH fun Jz hJz => ?_
      with_reducible refine wpAny_Return_some ?_
      with_reducible refine r_bool ?_
      with_reducible refine Hb.go ‹_› ?_
      with_reducible refine Hb.go ‹_› ?_
      with_reducible refine Hb.go ‹_› ?_
      refine hbad ?_ _ (St.drop ‹_› (.cons _ (.cons _ (.cons _ (.cons _ (.cons _ (.refl _)))))))
      rw [hrow]; rw [bne, Bool.not_eq_true'] at hc2; rw [hc2, Bool.and_false]; rfl
    rw [if_neg (by decide)]
    with_reducible refine wpAny_execs_nil ?_
    with_reducible refine execs_oneB ?_
    with_reducible refine wpAny_If ?_
    with_reducible refine wpAny_isTrue_Compare1 ?_
    with_reducible refine r_callF ‹_› ‹_› me2 (gv_ell _) rfl rfl rfl (by decide) ?_
    with_reducible refine items_two ?_ rfl rfl
    with_reducible refine wpAny_BinOp ?_
    with_reducible refine r_str ‹_› fun _ _ _ => ?_
    with_reducible refine r_local_str ‹_› ‹_› me3 me4 me3 fun _ => ?_
    with_reducible refine r_sadd ‹_› szA fun _ _ _ => ?_
    with_reducible refine wpAny_BinOp ?_
    with_reducible refine r_local_str ‹_› ‹_› me1 me4 me1 fun _ => ?_
    with_reducible refine r_local_str ‹_› ‹_› me1 me4 me1 fun _ => ?_
    with_reducible refine r_sadd ‹_› (by unfold sizeLine; omega) fun _ _ _ => ?_
    (with_reducible refine And.intro ⟨_, by assumption⟩ ?_; with_reducible show wpAny _ _ (call (Value.ref _) _) _ _ _)
    refine ell_spec (k := k) ‹_› hA1 (by simp only [Str.length_append, len_d3]; omega) (by simp only [Str.length_append]; omega) fun s9 S9 => ?_
    with_reducible refine wpAny_Compare1 ?_
    with_reducible refine r_local_int ‹_› ‹_› me2 me4 me2 fun _ => ?_
    with_reducible refine r_int ‹_› fun _ _ _ => ?_
    with_reducible refine PyProof.Rows.eq_int ?_
    with_reducible refine PyProof.Rows.isnot_bool ?_
    with_reducible refine wpAny_truthy_bool ?_
    rw [hz]
    cases hc3 : (ellM (Str.ofString "..." ++ turned) (held ++ held) != (i == 0))
    case true =>
      rw [if_pos rfl]
      with_reducible refine execs_oneB ?_
      with_reducible refine wpAny_Return_some ?_
      with_reducible refine r_bool ?_
      with_reducible refine Hb.go ‹_› ?_
      with_reducible refine Hb.go ‹_› ?_
      refine hbad ?_ _ (St.drop ‹_› (.cons _ (.cons _ (.cons _ (.cons _ (.cons _ (.refl _)))))))
      rw [hrow]; rw [bne, Bool.not_eq_true'] at hc3; rw [hc3, Bool.and_false]
    rw [if_neg (by decide)]
    with_reducible refine wpAny_execs_nil ?_
    with_reducible refine Hb.go ‹_› ?_
    refine k1a2 _ (k2a2 _ _ rfl (fun j hj => ?_)) (St.drop ‹_› (.cons _ (.cons _ (.cons _ (.refl _)))))
    rcases Nat.lt_or_ge j i with hji | hji
    · skip
      exact hok j hji
    · obtain rfl : j = i := by omega
      rw [bne, Bool.not_eq_false'] at hc1 hc2 hc3
      rw [hrow, hc1, hc2, hc3]; rfl
  · rintro _ s or2
    refine x2a2 or2 fun o1 o2 qz112 hok => ?_; clear or2; subst qz112
    rintro S5 N
    with_reducible refine wpAny_execs_nil ?_
    with_reducible refine execs_oneB ?_
    with_reducible refine wpAny_Return_some ?_
    with_reducible refine r_bool ?_
    with_reducible refine Hb.go ‹_› ?_
    have := h _ (St.drop ‹_› (.cons _ (.refl _)))
    rw [show roundM ring = true from List.all_eq_true.mpr fun j hj => hok j (List.mem_range.mp hj)] at this
    exact this
end
end
section
theorem and_pow (n i : Nat) : n &&& 2 ^ i = if n.testBit i then 2 ^ i else 0 := by
  apply Nat.eq_of_testBit_eq
  intro j
  rw [Nat.testBit_and, Nat.testBit_two_pow]
  by_cases h : i = j
  · subst h; cases hb : n.testBit i <;> simp [Nat.testBit_two_pow]
  · cases hb : n.testBit i <;> simp [Nat.testBit_two_pow, h]
theorem bitXor_sub {n i : Nat} (h : n.testBit i = true) : Builtin.bitXor (n : Int) ((2 ^ i : Nat) : Int) = ((n - 2 ^ i : Nat) : Int) := by
  have hle : 2 ^ i ≤ n := Nat.ge_two_pow_of_testBit h
  unfold Builtin.bitXor
  rw [PyProof.Rows.bitOr_and, bitAnd_nat, and_pow, if_pos h]
  omega
theorem hexLen {i : Nat} (h : i < 2 ^ 64) : (baseText "0x" 16 (i : Int)).length ≤ 67 := by
  have e : (2 : Nat) ^ 64 = 18446744073709551616 := by decide
  have h64 : (i : Int).natAbs < 16 ^ 64 := Nat.lt_of_lt_of_le (by rw [Int.natAbs_natCast]; exact h) (Nat.pow_le_pow_left (by decide) 64)
  have h1 := toDigits_len_pow (b := 16) (by decide) (by decide : 1 ≤ 64) h64
  unfold baseText
  rw [Str.length_append, Str.length_append]
  have h5 : (Str.ofString (String.ofList (Nat.toDigits 16 (i : Int).natAbs))).length = (Nat.toDigits 16 (i : Int).natAbs).length := ofString_ofList_length _
  rw [h5]
  have h3 : (Str.ofString (if (i : Int) < 0 then "-" else "")).length ≤ 1 := by
    split <;> (rw [PyProof.Rows.ofString_len]; decide)
  have h4 : (Str.ofString "0x").length = 2 := by decide +kernel
  lia
noncomputable def flagName (i : Nat) : Str := flagOr ((2 ^ i : Nat) : Int) (baseText "0x" 16 ((2 ^ i : Nat) : Int))
theorem flagTab_len : ∀ p ∈ flagTab, p.2.length ≤ 67 := by decide +kernel
theorem lookup_mem {α β : Type} [BEq α] : ∀ {l : List (α × β)} {a : α} {b : β}, l.lookup a = some b → ∃ p ∈ l, p.2 = b
  | [], _, _, h => by simp at h
  | (c, d) :: l, a, b, h => by
    rw [List.lookup_cons] at h
    cases q : a == c with
    | true => rw [q] at h; cases h; exact k1a2 _ (.head _) rfl
    | false => rw [q] at h; refine x1a2 (lookup_mem h) fun p h1 h2 => ?_; exact k1a2 p (.tail _ h1) h2
theorem flagName_len {i : Nat} (h : i < 64) : (flagName i).length ≤ 67 := by
  unfold flagName flagOr
  cases q : flagTab.lookup ((2 ^ i : Nat) : Int) with
  | none => exact hexLen (Nat.pow_lt_pow_right (by decide) h)
  | some x => refine x1a2 (lookup_mem q) fun p h1 h2 => ?_; subst h2; exact flagTab_len p h1
noncomputable def prettyGo : Nat → Nat → Nat → List Str → List Str
  | 0, _, fl, ns => ns ++ [baseText "0x" 16 (fl : Int)]
  | t + 1, i, fl, ns => if fl.testBit i then (if fl - 2 ^ i = 0 then ns ++ [flagName i] else prettyGo t (i + 1) (fl - 2 ^ i) (ns ++ [flagName i])) else prettyGo t (i + 1) fl ns
noncomputable def prettyNames (fl : Nat) : List Str := prettyGo 32 0 fl []
noncomputable def pretty (fl : Nat) : Str := Txt.join (Str.ofString ", ") (prettyNames fl)
theorem prettyGo_len : ∀ (t i fl : Nat) (ns : List Str), i + t ≤ 64 → fl < 2 ^ 64 → (∀ x ∈ ns, x.length ≤ 67) → (∀ x ∈ prettyGo t i fl ns, x.length ≤ 67) ∧ (prettyGo t i fl ns).length ≤ ns.length + t + 1
  | 0, i, fl, ns, _, hf, hn => ⟨by
      intro x hx
      rcases List.mem_append.mp hx with hx | hx
      · skip
        exact hn x hx
      · simp at hx; subst hx; exact hexLen hf, by simp [prettyGo]⟩
  | t + 1, i, fl, ns, hi, hf, hn => by
    have hn' : ∀ x ∈ ns ++ [flagName i], x.length ≤ 67 := by
      intro x hx
      rcases List.mem_append.mp hx with hx | hx
      · skip
        exact hn x hx
      · simp at hx; subst hx; exact flagName_len (by lia)
    unfold prettyGo
    split
    · split
      · skip
        exact ⟨hn', by simp⟩
      · have := prettyGo_len t (i + 1) (fl - 2 ^ i) (ns ++ [flagName i]) (by lia) (Nat.lt_of_le_of_lt (Nat.sub_le _ _) hf) hn'
        exact ⟨this.1, by have := this.2; simp at this; lia⟩
    · have := prettyGo_len t (i + 1) fl ns (by lia) hf hn
      exact ⟨this.1, by have := this.2; lia⟩
theorem sum_le_mul : ∀ (l : List Nat) (m : Nat), (∀ x ∈ l, x ≤ m) → l.sum ≤ l.length * m
  | [], m, _ => by simp
  | x :: r, m, h => by
    have := sum_le_mul r m fun y hy => h y (.tail _ hy)
    have h1 := h x (.head _)
    rw [List.sum_cons, List.length_cons, Nat.succ_mul]; lia
theorem prettyNames_sum {fl : Nat} (hf : fl < 2 ^ 32) : ((prettyNames fl).map (·.length)).sum ≤ 33 * 67 ∧ (prettyNames fl).length ≤ 33 ∧ ∀ x ∈ prettyNames fl, x.length ≤ 67 := by
  have h := prettyGo_len 32 0 fl [] (by lia) (leB ‹_› rfl) (fun _ h => nomatch h)
  have h2 : (prettyNames fl).length ≤ 33 := by have := h.2; simpa [prettyNames] using this
  refine ⟨?_, h2, h.1⟩
  have := sum_le_mul ((prettyNames fl).map (·.length)) 67 (by intro x hx; refine x1a2 (List.mem_map.mp hx) fun y hy qz212 => ?_; subst qz212; exact h.1 y hy)
  rw [List.length_map] at this
  exact Nat.le_trans this (Nat.mul_le_mul_right _ h2)
section
variable {B : Base} {σ : Led} {s : Shared} {prog : Program} {A : Around} {E : Value → Shared → Prop} {Q : Value → Shared → Prop} {k : Nat}
theorem pretty_spec {fl : Nat} {t : Tok} (S : St B σ s) (hA : Ok A (k + 1)) (hf : fl < 2 ^ 32) (h : ∀ t s', St B σ s' → Q (.str (pretty fl) t) s') :
    wpAny (model prog B.w) A (call (.ref 43) [.int (fl : Int) t]) Q E s := by
  refine' r_call (ln := ["flags", "names", "i", "flag"]) (gn := ["range", "COMPILER_FLAG_NAMES", "hex"]) (mvs := [.int fl]) (ns := [("flags", some (.int fl)), ("names", none), ("i", none), ("flag", none)]) S hA rfl (by decide) rfl ?f1 (.cons ⟨t, rfl⟩ .nil) ?f2 ?f3 ?f4 ?_
  case f1 => (intro h K; exact k4a4 _ _ _ _ rfl (K _ _ rfl (by decide)) rfl rfl)
  case f2 => kernel_rfl!
  case f3 => exact all1 fun _ => rfl
  case f4 => (refine ⟨rfl, by decide +kernel, by decide +kernel, by decide +kernel, by decide +kernel, by decide +kernel, by decide +kernel, by decide +kernel, rfl, rfl⟩)
  intro env s1 hE hsc S1 hA1
  refine x0a3 (prettyNames_sum hf) fun hs1 hs2 hs3 => ?_
  with_reducible refine execs_consH fun Jz hJz => ?_
  with_reducible refine wpAny_Assign_Name ?_ rfl
  with_reducible refine r_list_lit ?_
  with_reducible refine wpAny_items_nil ?_
  with_reducible refine lit_intro szA ‹_› (by with_reducible exact .nil) fun _ _ _ => ?_
  with_reducible refine r_store_val ‹_› ‹_› me1 up1 un1 fun _ _ => ?_
  with_reducible refine execs_consB ?_
  with_reducible refine r_for ?_ (fun _ => rfl)
  with_reducible refine r_callB rfl ?_
  with_reducible refine r_global ‹_› ‹_› me0 (by exact gv_range _) ?_
  with_reducible refine nr_type ?_
  with_reducible refine items_one ?_ rfl
  with_reducible refine r_int ‹_› fun _ _ _ => ?_
  with_reducible refine r_range1 ‹_› fun _ _ _ _ _ _ _ => ?_
  refine i_range (n := 32) ‹_› ‹_› (by decide) (by decide) (by decide) fun I s4 S4 => ?_
  refine x1a1 (⟨_, S4⟩ : ∃ D, St B ((I, .rangeIter (0 + (0 : Nat)) (((32 : Nat) : Int) - (0 : Nat)) 1) :: (D, VO.list (([] : List Str).map MV.str)) :: (env.locals, VO.ns [("flags", some (.int (fl : Nat))), ("names", some (.ref D)), ("i", none), ("flag", none)]) :: σ) s4) fun D S5 => ?_
  refine codeAny_mono (R := fun r s' => r = .ok .next ∧ ∃ m mi mf, St B ((D, VO.list ((prettyNames fl).map MV.str)) :: (env.locals, VO.ns [("flags", m), ("names", some (.ref D)), ("i", mi), ("flag", mf)]) :: σ) s') ?_ ?_
  · clear S4
    refine b_range (n := 32) (k := k) (fun i σ' => ∃ (f : Nat) (ns : List Str) (mi mf : Option MV), f < 2 ^ 32 ∧ ns.length ≤ i ∧ prettyGo (32 - i) i f ns = prettyNames fl ∧
      σ' = (D, VO.list (ns.map MV.str)) :: (env.locals, VO.ns [("flags", some (.int (f : Nat))), ("names", some (.ref D)), ("i", mi), ("flag", mf)]) :: σ) hA1 ?_ ?_ ⟨fl, [], none, none, hf, Nat.le_refl _, rfl, rfl⟩ S5
    · rintro i _ s t5 hi or1
      refine x4a4 or1 fun f ns mi mf hf2 hn hgo qz517 => ?_; clear or1; subst qz517
      rintro S6 N
      intro J hJ
      rw [Int.zero_add]
      with_reducible refine wpAny_assign_Name ?_
      with_reducible refine r_store_int ‹_› ‹_› me2 up2 un2 fun _ _ => ?_
      with_reducible refine execs_consB ?_
      with_reducible refine wpAny_Assign_Name ?_ rfl
      with_reducible refine wpAny_BinOp ?_
      with_reducible refine r_int ‹_› fun _ _ _ => ?_
      with_reducible refine r_local_int ‹_› ‹_› me2 me2 me2 fun _ => ?_
      refine r_lshift (n := i) ‹_› rfl (by decide) (leB ‹_› rfl) ?_
      intro t6 s6 S7
      rw [show (1 : Int) * 2 ^ i = ((2 ^ i : Nat) : Int) by simp]
      with_reducible refine r_store_int ‹_› ‹_› me3 up2 un3 fun _ _ => ?_
      with_reducible refine execs_oneB ?_
      with_reducible refine wpAny_If ?_
      with_reducible refine wpAny_isTrue_value ?_ rfl
      with_reducible refine wpAny_BinOp ?_
      with_reducible refine r_local_int ‹_› ‹_› me0 me2 me0 fun _ => ?_
      with_reducible refine r_local_int ‹_› ‹_› me3 me2 me3 fun _ => ?_
      with_reducible refine r_and ‹_› fun _ _ _ => ?_
      with_reducible refine PyProof.Rows.truthy_int ?_
      have hb : (Builtin.bitAnd (f : Int) ((2 ^ i : Nat) : Int) != 0) = f.testBit i := by
        rw [bitAnd_nat, and_pow]
        have hp : 0 < 2 ^ i := Nat.pow_pos (by decide)
        cases f.testBit i
        · rfl
        · rw [if_pos rfl, bne_iff_ne]; lia
      rw [hb]
      have hstep : prettyGo (32 - i) i f ns = if f.testBit i then (if f - 2 ^ i = 0 then ns ++ [flagName i] else prettyGo (32 - (i + 1)) (i + 1) (f - 2 ^ i) (ns ++ [flagName i])) else prettyGo (32 - (i + 1)) (i + 1) f ns := by
        rw [show 32 - i = (32 - (i + 1)) + 1 by grind]; rfl
      rw [hgo] at hstep
      cases ht : f.testBit i
      · refine ite_f (by decide) ?_
        rw [ht, if_neg (by decide)] at hstep
        with_reducible refine wpAny_execs_nil ?_
        with_reducible refine Hb.go ‹_› ?_
        exact k1a2 _ (k4a4 f ns _ _ hf2 (by lia) hstep.symm rfl) ‹_›
      · refine ite_t rfl ?_
        rw [ht, if_pos rfl] at hstep
        with_reducible refine execs_consB ?_
        with_reducible refine r_expr ‹_› ?_ rfl
        with_reducible refine r_method rfl rfl rfl rfl ?_
        with_reducible refine r_local_val ‹_› ‹_› me1 me2 me1 ?_
        with_reducible refine mList PySem.F.slot_list_append PySem.F.type_list_append ‹_› me1 ?_
        with_reducible refine items_one ?_ rfl
        with_reducible refine r_method rfl rfl rfl rfl ?_
        with_reducible refine r_global ‹_› ‹_› me1 (by exact gv_flags _) ?_
        with_reducible refine mFlags ‹_› ?_
        with_reducible refine items_two ?_ rfl rfl
        with_reducible refine r_local_int ‹_› ‹_› me3 me2 me3 fun _ => ?_
        with_reducible refine r_callB rfl ?_
        with_reducible refine r_global ‹_› ‹_› me2 (by exact gv_hex _) ?_
        with_reducible refine nr_builtin ?_
        with_reducible refine items_one ?_ rfl
        with_reducible refine r_local_int ‹_› ‹_› me3 me2 me3 fun _ => ?_
        refine r_hex ‹_› (Nat.le_trans (hexLen (Nat.pow_lt_pow_right (by decide) (leB ‹_› rfl))) (by (unfold sizeLine; lia))) ?_
        intro t8 s8 S8
        with_reducible refine r_flag_get ‹_› fun _ _ _ => ?_
        with_reducible refine r_lappend_str ‹_› up1 szA fun _ _ => ?_
        with_reducible refine And.intro rfl ?_
        with_reducible refine execs_consB ?_
        with_reducible refine wpAny_AugAssign_Name ?_
        with_reducible refine r_load_int ‹_› ‹_› me0 me2 me0 fun _ => ?_
        with_reducible refine r_local_int ‹_› ‹_› me3 me2 me3 fun _ => ?_
        with_reducible refine r_ixor ‹_› fun _ _ _ => ?_
        with_reducible refine r_store_int ‹_› ‹_› me0 up2 un0 fun _ _ => ?_
        with_reducible refine execs_oneB ?_
        with_reducible refine wpAny_If ?_
        with_reducible refine PyProof.Rows.isTrue_not ?_
        with_reducible refine wpAny_isTrue_value ?_ rfl
        with_reducible refine r_local_int ‹_› ‹_› me0 me2 me0 fun _ => ?_
        with_reducible refine PyProof.Rows.truthy_int ?_
        simp only [bitXor_sub ht] at *
        have hz : (!(((f - 2 ^ i : Nat) : Int) != 0)) = decide (f - 2 ^ i = 0) := by
          by_cases hq : f - 2 ^ i = 0
          · rw [hq]; rfl
          · rw [decide_eq_false hq, Bool.not_eq_false', bne_iff_ne]; lia
        rw [hz]
        by_cases hq : f - 2 ^ i = 0
        · refine ite_t (by simpa using hq) ?_
          rw [if_pos hq] at hstep
          with_reducible refine execs_oneB ?_
          with_reducible refine wpAny_Break ?_
          with_reducible refine Hb.go ‹_› ?_
          rw [show (prettyNames fl).map MV.str = ns.map MV.str ++ [MV.str (flagName i)] by rw [hstep, List.map_append]; rfl]
          exact ⟨rfl, (k3a1 _ _ _ (St.drop ‹_› (List.sublist_cons_self _ _)))⟩
        · refine ite_f (by simpa using hq) ?_
          rw [if_neg hq] at hstep
          with_reducible refine wpAny_execs_nil ?_
          with_reducible refine Hb.go ‹_› ?_
          refine k1a2 _ (k4a4 (f - 2 ^ i) (ns ++ [flagName i]) (some (MV.int (i : Nat))) (some (MV.int (2 ^ i : Nat))) (Nat.lt_of_le_of_lt (Nat.sub_le _ _) hf2) (by simp; omega) hstep.symm rfl) ?_
          rw [List.map_append]
          assumption
    · rintro _ s or2
      refine x4a4 or2 fun f ns mi mf hf2 hn hgo qz617 => ?_; clear or2; subst qz617
      rintro S6 N
      with_reducible refine execs_oneH fun Jz hJz => ?_
      with_reducible refine r_expr ‹_› ?_ rfl
      with_reducible refine r_method rfl rfl rfl rfl ?_
      with_reducible refine r_local_val ‹_› ‹_› me1 me1 me1 ?_
      with_reducible refine mList PySem.F.slot_list_append PySem.F.type_list_append ‹_› me0 ?_
      with_reducible refine items_one ?_ rfl
      with_reducible refine r_callB rfl ?_
      with_reducible refine r_global ‹_› ‹_› me2 (by exact gv_hex _) ?_
      with_reducible refine nr_builtin ?_
      with_reducible refine items_one ?_ rfl
      with_reducible refine r_local_int ‹_› ‹_› me0 me1 me0 fun _ => ?_
      refine r_hex ‹_› (Nat.le_trans (hexLen (leB ‹_› rfl)) (by (unfold sizeLine; lia))) ?_
      intro t8 s8 S8
      with_reducible refine r_lappend_str ‹_› up0 szA fun _ _ => ?_
      with_reducible refine And.intro rfl ?_
      with_reducible refine Hb.go ‹_› ?_
      with_reducible refine And.intro rfl ?_
      rw [show (prettyNames fl).map MV.str = ns.map MV.str ++ [MV.str (baseText "0x" 16 (f : Int))] by rw [← hgo, Nat.sub_self]; unfold prettyGo; rw [List.map_append]; rfl]
      exact k3a1 _ _ _ ‹_›
  · rintro r s6 or3
    refine x0a2 or3 fun qz710 oz71 => ?_; clear or3; subst qz710; refine x3a1 oz71 fun m mi mf S6 => ?_; clear oz71
    with_reducible refine execs_oneB ?_
    with_reducible refine wpAny_Return_some ?_
    with_reducible refine r_method rfl rfl rfl rfl ?_
    with_reducible refine r_str ‹_› fun _ _ _ => ?_
    with_reducible refine mStr PySem.F.slot_str_join PySem.F.type_str_join ?_
    with_reducible refine items_one ?_ rfl
    with_reducible refine r_local_val ‹_› ‹_› me1 me1 me1 ?_
    refine r_sjoin (xs := prettyNames fl) ‹_› me0 (by rw [len_cs]; (unfold sizeLine; lia)) fun t7 s7 S7 => ?_
    with_reducible refine Hb.go ‹_› ?_
    exact h _ _ (St.drop ‹_› (.cons _ (.cons _ (.refl _))))
end
end
section
noncomputable def octCodes (n : Nat) : List Int := if n < 64 then [(n : Int)] else [((64 + n / 64 : Nat) : Int), ((n % 64 : Nat) : Int)]
theorem vfacts : ∀ n, n < 256 → (n < 64 → Builtin.bitAnd (n : Nat) 63 = n ∧ Builtin.bitAnd (n : Nat) 64 = 0) ∧
  (64 ≤ n → Builtin.bitAnd ((64 + n / 64 : Nat) : Int) 63 = ((n / 64 : Nat) : Int) ∧ Builtin.bitAnd ((64 + n / 64 : Nat) : Int) 64 = 64 ∧ Builtin.bitAnd ((n % 64 : Nat) : Int) 63 = ((n % 64 : Nat) : Int) ∧ Builtin.bitAnd ((n % 64 : Nat) : Int) 64 = 0 ∧ Builtin.bitOr (((n / 64 : Nat) : Int) * 2 ^ 6) ((n % 64 : Nat) : Int) = n) := by decide +kernel
section
variable {B : Base} {σ : Led} {s : Shared} {prog : Program} {A : Around} {E : Value → Shared → Prop} {Q : Value → Shared → Prop} {k : Nat}
theorem varint_spec {n : Nat} {I l : Addr} (S : St B ((I, .listIter l 0) :: (l, .list ((octCodes n).map MV.int)) :: σ) s) (hA : Ok A (k + 1)) (hn : n < 256) (h : ∀ t s', St B σ s' → Q (.int (n : Nat) t) s') :
    wpAny (model prog B.w) A (call (.ref 50) [.ref I]) Q E s := by
  refine' r_call (ln := ["iterator", "b", "val"]) (gn := ["next"]) (mvs := [.ref I]) (ns := [("iterator", some (.ref I)), ("b", none), ("val", none)]) S hA rfl (by decide) rfl ?f1 (.cons rfl .nil) ?f2 ?f3 ?f4 ?_
  case f1 => (intro h K; exact k4a4 _ _ _ _ rfl (K _ _ rfl (by decide)) rfl rfl)
  case f2 => kernel_rfl!
  case f3 => exact all1 fun _ => rfl
  case f4 => (refine ⟨rfl, by decide +kernel, by decide +kernel, by decide +kernel, by decide +kernel, by decide +kernel, by decide +kernel, by decide +kernel, rfl, rfl⟩)
  intro env s1 hE hsc S1 hA1
  refine x0a2 (vfacts n hn) fun f1 f2 => ?_
  by_cases hlt : n < 64
  · refine x0a2 (f1 hlt) fun g1 g2 => ?_
    clear f1 f2
    have hoc : octCodes n = [(n : Int)] := by unfold octCodes; rw [if_pos hlt]
    rw [hoc] at S1
    with_reducible refine execs_consH fun Jz hJz => ?_
    with_reducible refine wpAny_Assign_Name ?_ rfl
    with_reducible refine r_callB rfl ?_
    with_reducible refine r_global ‹_› ‹_› me0 (by exact gv_next _) ?_
    with_reducible refine nr_builtin ?_
    with_reducible refine items_one ?_ rfl
    with_reducible refine r_local_val ‹_› ‹_› me0 me0 me0 ?_
    refine r_next_list (i := 0) (xs := [MV.int n]) ‹_› (.there .here) me2 rfl ?_
    rintro _ s2 or1
    refine x1a1 or1 fun t2 qz011 => ?_; clear or1; subst qz011
    rintro S2
    with_reducible refine r_store_int ‹_› ‹_› me1 up0 un1 fun _ _ => ?_
    with_reducible refine execs_consB ?_
    with_reducible refine wpAny_Assign_Name ?_ rfl
    with_reducible refine wpAny_BinOp ?_
    with_reducible refine r_local_int ‹_› ‹_› me1 me0 me1 fun _ => ?_
    with_reducible refine r_int ‹_› fun _ _ _ => ?_
    with_reducible refine r_and ‹_› fun _ _ _ => ?_
    with_reducible refine r_store_int ‹_› ‹_› me2 up0 un2 fun _ _ => ?_
    with_reducible refine execs_consB ?_
    with_reducible refine wpAny_While ?_
    simp only [g1] at *
    refine codeAny_whileLoop (fun _ s => St B ((env.locals, VO.ns [("iterator", some (.ref I)), ("b", some (.int (n : Nat))), ("val", some (.int (n : Nat)))]) :: (I, VO.listIter l 1) :: (l, VO.list (List.map MV.int [(n : Int)])) :: σ) s) (fun m s hI => ?_) 0 ‹_›
    with_reducible refine wpAny_isTrue_value ?_ rfl
    with_reducible refine wpAny_BinOp ?_
    with_reducible refine r_local_int ‹_› ‹_› me1 me0 me1 fun _ => ?_
    with_reducible refine r_int ‹_› fun _ _ _ => ?_
    with_reducible refine r_and ‹_› fun _ _ _ => ?_
    with_reducible refine PyProof.Rows.truthy_int ?_
    rw [g2, if_neg (by decide)]
    with_reducible refine wpAny_execs_nil ?_
    with_reducible refine execs_oneB ?_
    with_reducible refine wpAny_Return_some ?_
    with_reducible refine r_local_int ‹_› ‹_› me2 me0 me2 fun _ => ?_
    with_reducible refine Hb.go ‹_› ?_
    exact h _ _ (St.drop ‹_› (.cons _ (.cons _ (.cons _ (.refl _)))))
  · refine x0a5 (f2 (by lia)) fun g1 g2 g3 g4 g5 => ?_
    clear f1 f2
    have hoc : octCodes n = [((64 + n / 64 : Nat) : Int), ((n % 64 : Nat) : Int)] := by unfold octCodes; rw [if_neg hlt]
    rw [hoc] at S1
    with_reducible refine execs_consH fun Jz hJz => ?_
    with_reducible refine wpAny_Assign_Name ?_ rfl
    with_reducible refine r_callB rfl ?_
    with_reducible refine r_global ‹_› ‹_› me0 (by exact gv_next _) ?_
    with_reducible refine nr_builtin ?_
    with_reducible refine items_one ?_ rfl
    with_reducible refine r_local_val ‹_› ‹_› me0 me0 me0 ?_
    refine r_next_list (i := 0) (xs := [MV.int ((64 + n / 64 : Nat) : Int), MV.int ((n % 64 : Nat) : Int)]) ‹_› (.there .here) me2 rfl ?_
    rintro _ s2 or2
    refine x1a1 or2 fun t2 qz111 => ?_; clear or2; subst qz111
    rintro S2
    with_reducible refine r_store_int ‹_› ‹_› me1 up0 un1 fun _ _ => ?_
    with_reducible refine execs_consB ?_
    with_reducible refine wpAny_Assign_Name ?_ rfl
    with_reducible refine wpAny_BinOp ?_
    with_reducible refine r_local_int ‹_› ‹_› me1 me0 me1 fun _ => ?_
    with_reducible refine r_int ‹_› fun _ _ _ => ?_
    with_reducible refine r_and ‹_› fun _ _ _ => ?_
    with_reducible refine r_store_int ‹_› ‹_› me2 up0 un2 fun _ _ => ?_
    with_reducible refine execs_consB ?_
    with_reducible refine wpAny_While ?_
    simp only [g1] at *
    refine codeAny_whileLoop (fun m s => (m = 1 ∧ St B ((env.locals, VO.ns [("iterator", some (.ref I)), ("b", some (.int (64 + n / 64 : Nat))), ("val", some (.int (n / 64 : Nat)))]) :: (I, VO.listIter l 1) :: (l, VO.list (List.map MV.int [((64 + n / 64 : Nat) : Int), ((n % 64 : Nat) : Int)])) :: σ) s) ∨
      (m = 0 ∧ St B ((env.locals, VO.ns [("iterator", some (.ref I)), ("b", some (.int (n % 64 : Nat))), ("val", some (.int (n : Nat)))]) :: (I, VO.listIter l 2) :: (l, VO.list (List.map MV.int [((64 + n / 64 : Nat) : Int), ((n % 64 : Nat) : Int)])) :: σ) s)) ?_ 1 (.inl ⟨rfl, by assumption⟩)
    rintro m s (⟨rfl, hI⟩ | ⟨rfl, hI⟩)
    · with_reducible refine wpAny_isTrue_value ?_ rfl
      with_reducible refine wpAny_BinOp ?_
      with_reducible refine r_local_int ‹_› ‹_› me1 me0 me1 fun _ => ?_
      with_reducible refine r_int ‹_› fun _ _ _ => ?_
      with_reducible refine r_and ‹_› fun _ _ _ => ?_
      with_reducible refine PyProof.Rows.truthy_int ?_
      rw [g2, if_pos (by decide)]
      with_reducible refine execs_consH fun Jz hJz => ?_
      with_reducible refine wpAny_AugAssign_Name ?_
      with_reducible refine r_load_int ‹_› ‹_› me2 me0 me2 fun _ => ?_
      with_reducible refine r_int ‹_› fun _ _ _ => ?_
      refine r_ilshift (n := 6) ‹_› rfl (by lia) (by decide) ?_
      intro t3 s3 S3
      with_reducible refine r_store_int ‹_› ‹_› me2 up0 un2 fun _ _ => ?_
      with_reducible refine execs_consB ?_
      with_reducible refine wpAny_Assign_Name ?_ rfl
      with_reducible refine r_callB rfl ?_
      with_reducible refine r_global ‹_› ‹_› me0 (by exact gv_next _) ?_
      with_reducible refine nr_builtin ?_
      with_reducible refine items_one ?_ rfl
      with_reducible refine r_local_val ‹_› ‹_› me0 me0 me0 ?_
      refine r_next_list (i := 1) (xs := [MV.int ((64 + n / 64 : Nat) : Int), MV.int ((n % 64 : Nat) : Int)]) ‹_› (.there .here) me2 rfl ?_
      rintro _ s4 or3
      refine x1a1 or3 fun t4 qz211 => ?_; clear or3; subst qz211
      rintro S4
      with_reducible refine r_store_int ‹_› ‹_› me1 up0 un1 fun _ _ => ?_
      with_reducible refine execs_oneB ?_
      with_reducible refine wpAny_AugAssign_Name ?_
      with_reducible refine r_load_int ‹_› ‹_› me2 me0 me2 fun _ => ?_
      with_reducible refine wpAny_BinOp ?_
      with_reducible refine r_local_int ‹_› ‹_› me1 me0 me1 fun _ => ?_
      with_reducible refine r_int ‹_› fun _ _ _ => ?_
      with_reducible refine r_and ‹_› fun _ _ _ => ?_
      with_reducible refine r_ior ‹_› fun _ _ _ => ?_
      with_reducible refine r_store_int ‹_› ‹_› me2 up0 un2 fun _ _ => ?_
      with_reducible refine Hb.go ‹_› ?_
      simp only [g3, g5] at *
      exact k1a2 0 (by decide) (.inr ⟨rfl, by assumption⟩)
    · with_reducible refine wpAny_isTrue_value ?_ rfl
      with_reducible refine wpAny_BinOp ?_
      with_reducible refine r_local_int ‹_› ‹_› me1 me0 me1 fun _ => ?_
      with_reducible refine r_int ‹_› fun _ _ _ => ?_
      with_reducible refine r_and ‹_› fun _ _ _ => ?_
      with_reducible refine PyProof.Rows.truthy_int ?_
      rw [g4, if_neg (by decide)]
      with_reducible refine wpAny_execs_nil ?_
      with_reducible refine execs_oneB ?_
      with_reducible refine wpAny_Return_some ?_
      with_reducible refine r_local_int ‹_› ‹_› me2 me0 me2 fun _ => ?_
      with_reducible refine Hb.go ‹_› ?_
      exact h _ _ (St.drop ‹_› (.cons _ (.cons _ (.cons _ (.refl _)))))
end
end
section
open Float64
section
variable {B : Base} {σ : Led} {s : Shared} {prog : Program} {A : Around} {E : Value → Shared → Prop} {Q : Value → Shared → Prop} {k : Nat}
set_option maxHeartbeats 2000000 in
theorem hsv_spec {h sa v : UInt64} {t1 t2 t3 : Tok} (S : St B σ s) (hA : Ok A (k + 1)) (hs0 : eqF sa 0 = false) (hf : isFinite (mul h 4618441417868443648) = true) (hi : isInf (ofInt (truncF (mul h 4618441417868443648))) = false)
    (hr6 : 0 ≤ truncF (mul h 4618441417868443648) % 6 ∧ truncF (mul h 4618441417868443648) % 6 < 6 := ⟨Int.emod_nonneg _ (by decide), Int.emod_lt_of_pos _ (by decide)⟩)
    (hq : ∀ a s', St B ((a, .tuple [.float (hsvRgb h sa v).1, .float (hsvRgb h sa v).2.1, .float (hsvRgb h sa v).2.2]) :: σ) s' → Q (.ref a) s') :
    wpAny (model prog B.w) A (call (.ref 35) [.float h t1, .float sa t2, .float v t3]) Q E s := by
  refine' r_call (ln := ["h", "s", "v", "i", "f", "p", "q", "t"]) (gn := ["int"]) (mvs := [.float h, .float sa, .float v]) (ns := [("h", some (.float h)), ("s", some (.float sa)), ("v", some (.float v)), ("i", none), ("f", none), ("p", none), ("q", none), ("t", none)]) S hA rfl (by decide) rfl ?f1 (.cons ⟨_, rfl⟩ (.cons ⟨_, rfl⟩ (.cons ⟨_, rfl⟩ .nil))) ?f2 ?f3 ?f4 ?_
  case f1 => (intro h K; exact k4a4 _ _ _ _ rfl (K _ _ rfl (by decide)) rfl rfl)
  case f2 => kernel_rfl!
  case f3 => exact all3 fun _ _ _ => rfl
  case f4 => (refine ⟨rfl, by decide +kernel, by decide +kernel, by decide +kernel, by decide +kernel, by decide +kernel, by decide +kernel, by decide +kernel, rfl, rfl⟩)
  intro env s1 hE hsc S1 hA1
  with_reducible refine execs_consH fun Jz hJz => ?_
  with_reducible refine wpAny_If ?_
  with_reducible refine wpAny_isTrue_Compare1 ?_
  with_reducible refine r_local_float ‹_› ‹_› me1 me0 me1 fun _ => ?_
  with_reducible refine r_float ‹_› fun _ _ _ => ?_
  with_reducible refine r_feq ?_
  with_reducible refine wpAny_truthy_bool ?_
  rw [hs0, if_neg (by decide)]
  with_reducible refine wpAny_execs_nil ?_
  with_reducible refine execs_consB ?_
  with_reducible refine wpAny_Assign_Name ?_ rfl
  with_reducible refine r_callB rfl ?_
  with_reducible refine r_global ‹_› ‹_› me0 (by exact gv_int _) ?_
  with_reducible refine nr_type ?_
  with_reducible refine items_one ?_ rfl
  with_reducible refine wpAny_BinOp ?_
  with_reducible refine r_local_float ‹_› ‹_› me0 me0 me0 fun _ => ?_
  with_reducible refine r_float ‹_› fun _ _ _ => ?_
  with_reducible refine r_fmul ‹_› fun _ _ _ => ?_
  with_reducible refine r_intf ‹_› ‹_› fun _ _ _ => ?_
  with_reducible refine r_store_int ‹_› ‹_› me3 up0 un3 fun _ _ => ?_
  with_reducible refine execs_consB ?_
  with_reducible refine wpAny_Assign_Name ?_ rfl
  with_reducible refine wpAny_BinOp ?_
  with_reducible refine wpAny_BinOp ?_
  with_reducible refine r_local_float ‹_› ‹_› me0 me0 me0 fun _ => ?_
  with_reducible refine r_float ‹_› fun _ _ _ => ?_
  with_reducible refine r_fmul ‹_› fun _ _ _ => ?_
  with_reducible refine r_local_int ‹_› ‹_› me3 me0 me3 fun _ => ?_
  with_reducible refine r_fsubi ‹_› ‹_› fun _ _ _ => ?_
  with_reducible refine r_store_float ‹_› ‹_› me4 up0 un4 fun _ _ => ?_
  with_reducible refine execs_consB ?_
  with_reducible refine wpAny_Assign_Name ?_ rfl
  with_reducible refine wpAny_BinOp ?_
  with_reducible refine r_local_float ‹_› ‹_› me2 me0 me2 fun _ => ?_
  with_reducible refine wpAny_BinOp ?_
  with_reducible refine r_float ‹_› fun _ _ _ => ?_
  with_reducible refine r_local_float ‹_› ‹_› me1 me0 me1 fun _ => ?_
  with_reducible refine r_fsub ‹_› fun _ _ _ => ?_
  with_reducible refine r_fmul ‹_› fun _ _ _ => ?_
  with_reducible refine r_store_float ‹_› ‹_› me5 up0 un5 fun _ _ => ?_
  with_reducible refine execs_consB ?_
  with_reducible refine wpAny_Assign_Name ?_ rfl
  with_reducible refine wpAny_BinOp ?_
  with_reducible refine r_local_float ‹_› ‹_› me2 me0 me2 fun _ => ?_
  with_reducible refine wpAny_BinOp ?_
  with_reducible refine r_float ‹_› fun _ _ _ => ?_
  with_reducible refine wpAny_BinOp ?_
  with_reducible refine r_local_float ‹_› ‹_› me1 me0 me1 fun _ => ?_
  with_reducible refine r_local_float ‹_› ‹_› me4 me0 me4 fun _ => ?_
  with_reducible refine r_fmul ‹_› fun _ _ _ => ?_
  with_reducible refine r_fsub ‹_› fun _ _ _ => ?_
  with_reducible refine r_fmul ‹_› fun _ _ _ => ?_
  with_reducible refine r_store_float ‹_› ‹_› me6 up0 un6 fun _ _ => ?_
  with_reducible refine execs_consB ?_
  with_reducible refine wpAny_Assign_Name ?_ rfl
  with_reducible refine wpAny_BinOp ?_
  with_reducible refine r_local_float ‹_› ‹_› me2 me0 me2 fun _ => ?_
  with_reducible refine wpAny_BinOp ?_
  with_reducible refine r_float ‹_› fun _ _ _ => ?_
  with_reducible refine wpAny_BinOp ?_
  with_reducible refine r_local_float ‹_› ‹_› me1 me0 me1 fun _ => ?_
  with_reducible refine wpAny_BinOp ?_
  with_reducible refine r_float ‹_› fun _ _ _ => ?_
  with_reducible refine r_local_float ‹_› ‹_› me4 me0 me4 fun _ => ?_
  with_reducible refine r_fsub ‹_› fun _ _ _ => ?_
  with_reducible refine r_fmul ‹_› fun _ _ _ => ?_
  with_reducible refine r_fsub ‹_› fun _ _ _ => ?_
  with_reducible refine r_fmul ‹_› fun _ _ _ => ?_
  with_reducible refine r_store_float ‹_› ‹_› me7 up0 un7 fun _ _ => ?_
  with_reducible refine execs_consB ?_
  with_reducible refine wpAny_Assign_Name ?_ rfl
  with_reducible refine wpAny_BinOp ?_
  with_reducible refine r_local_int ‹_› ‹_› me3 me0 me3 fun _ => ?_
  with_reducible refine r_int ‹_› fun _ _ _ => ?_
  with_reducible refine r_mod ‹_› (by decide) fun _ _ _ => ?_
  with_reducible refine r_store_int ‹_› ‹_› me3 up0 un3 fun _ _ => ?_
  with_reducible refine execs_consB ?_
  with_reducible refine wpAny_If ?_
  with_reducible refine r_cmpi ‹_› ‹_› (.loc me3 me0 me3) .con (fun _ _ _ _ => ?_) (by with_unfolding_all rfl)
  with_reducible refine PyProof.Rows.eq_int ?_
  with_reducible refine wpAny_truthy_bool ?_
  have hR := hsvRgb_ne (h := h) (v := v) hs0
  unfold hsvCase hsvFrac at hR
  generalize truncF (mul h 4618441417868443648) % 6 = i6 at *
  by_cases h0 : i6 = 0
  · rw [if_pos (by simpa using h0)]
    rw [if_pos h0] at hR
    with_reducible refine execs_oneH fun Jz hJz => ?_
    with_reducible refine wpAny_Return_some ?_
    with_reducible refine r_tuple_lit ?_
    with_reducible refine wpAny_items_cons ?_ rfl
    with_reducible refine r_local_float ‹_› ‹_› me2 me0 me2 fun _ => ?_
    with_reducible refine items_two ?_ rfl rfl
    with_reducible refine r_local_float ‹_› ‹_› me7 me0 me7 fun _ => ?_
    with_reducible refine r_local_float ‹_› ‹_› me5 me0 me5 fun _ => ?_
    with_reducible refine lit_intro szA ‹_› (by with_reducible exact .float (.float (.float .nil))) fun _ _ _ => ?_
    with_reducible refine Hb.go ‹_› ?_
    with_reducible refine Hb.go ‹_› ?_
    rw [hR] at hq
    dsimp only at hq
    exact hq _ _ (St.drop ‹_› (.cons_cons _ (List.sublist_cons_self _ _)))
  rw [if_neg (by simpa using h0)]
  with_reducible refine wpAny_execs_nil ?_
  with_reducible refine execs_consB ?_
  with_reducible refine wpAny_If ?_
  with_reducible refine r_cmpi ‹_› ‹_› (.loc me3 me0 me3) .con (fun _ _ _ _ => ?_) (by with_unfolding_all rfl)
  with_reducible refine PyProof.Rows.eq_int ?_
  with_reducible refine wpAny_truthy_bool ?_
  by_cases h1 : i6 = 1
  · rw [if_pos (by simpa using h1)]
    rw [if_neg h0, if_pos h1] at hR
    with_reducible refine execs_oneH fun Jz hJz => ?_
    with_reducible refine wpAny_Return_some ?_
    with_reducible refine r_tuple_lit ?_
    with_reducible refine wpAny_items_cons ?_ rfl
    with_reducible refine r_local_float ‹_› ‹_› me6 me0 me6 fun _ => ?_
    with_reducible refine items_two ?_ rfl rfl
    with_reducible refine r_local_float ‹_› ‹_› me2 me0 me2 fun _ => ?_
    with_reducible refine r_local_float ‹_› ‹_› me5 me0 me5 fun _ => ?_
    with_reducible refine lit_intro szA ‹_› (by with_reducible exact .float (.float (.float .nil))) fun _ _ _ => ?_
    with_reducible refine Hb.go ‹_› ?_
    with_reducible refine Hb.go ‹_› ?_
    rw [hR] at hq
    dsimp only at hq
    exact hq _ _ (St.drop ‹_› (.cons_cons _ (List.sublist_cons_self _ _)))
  rw [if_neg (by simpa using h1)]
  with_reducible refine wpAny_execs_nil ?_
  with_reducible refine execs_consB ?_
  with_reducible refine wpAny_If ?_
  with_reducible refine r_cmpi ‹_› ‹_› (.loc me3 me0 me3) .con (fun _ _ _ _ => ?_) (by with_unfolding_all rfl)
  with_reducible refine PyProof.Rows.eq_int ?_
  with_reducible refine wpAny_truthy_bool ?_
  by_cases h2 : i6 = 2
  · rw [if_pos (by simpa using h2)]
    rw [if_neg h0, if_neg h1, if_pos h2] at hR
    with_reducible refine execs_oneH fun Jz hJz => ?_
    with_reducible refine wpAny_Return_some ?_
    with_reducible refine r_tuple_lit ?_
    with_reducible refine wpAny_items_cons ?_ rfl
    with_reducible refine r_local_float ‹_› ‹_› me5 me0 me5 fun _ => ?_
    with_reducible refine items_two ?_ rfl rfl
    with_reducible refine r_local_float ‹_› ‹_› me2 me0 me2 fun _ => ?_
    with_reducible refine r_local_float ‹_› ‹_› me7 me0 me7 fun _ => ?_
    with_reducible refine lit_intro szA ‹_› (by with_reducible exact .float (.float (.float .nil))) fun _ _ _ => ?_
    with_reducible refine Hb.go ‹_› ?_
    with_reducible refine Hb.go ‹_› ?_
    rw [hR] at hq
    dsimp only at hq
    exact hq _ _ (St.drop ‹_› (.cons_cons _ (List.sublist_cons_self _ _)))
  rw [if_neg (by simpa using h2)]
  with_reducible refine wpAny_execs_nil ?_
  with_reducible refine execs_consB ?_
  with_reducible refine wpAny_If ?_
  with_reducible refine r_cmpi ‹_› ‹_› (.loc me3 me0 me3) .con (fun _ _ _ _ => ?_) (by with_unfolding_all rfl)
  with_reducible refine PyProof.Rows.eq_int ?_
  with_reducible refine wpAny_truthy_bool ?_
  by_cases h3 : i6 = 3
  · rw [if_pos (by simpa using h3)]
    rw [if_neg h0, if_neg h1, if_neg h2, if_pos h3] at hR
    with_reducible refine execs_oneH fun Jz hJz => ?_
    with_reducible refine wpAny_Return_some ?_
    with_reducible refine r_tuple_lit ?_
    with_reducible refine wpAny_items_cons ?_ rfl
    with_reducible refine r_local_float ‹_› ‹_› me5 me0 me5 fun _ => ?_
    with_reducible refine items_two ?_ rfl rfl
    with_reducible refine r_local_float ‹_› ‹_› me6 me0 me6 fun _ => ?_
    with_reducible refine r_local_float ‹_› ‹_› me2 me0 me2 fun _ => ?_
    with_reducible refine lit_intro szA ‹_› (by with_reducible exact .float (.float (.float .nil))) fun _ _ _ => ?_
    with_reducible refine Hb.go ‹_› ?_
    with_reducible refine Hb.go ‹_› ?_
    rw [hR] at hq
    dsimp only at hq
    exact hq _ _ (St.drop ‹_› (.cons_cons _ (List.sublist_cons_self _ _)))
  rw [if_neg (by simpa using h3)]
  with_reducible refine wpAny_execs_nil ?_
  with_reducible refine execs_consB ?_
  with_reducible refine wpAny_If ?_
  with_reducible refine r_cmpi ‹_› ‹_› (.loc me3 me0 me3) .con (fun _ _ _ _ => ?_) (by with_unfolding_all rfl)
  with_reducible refine PyProof.Rows.eq_int ?_
  with_reducible refine wpAny_truthy_bool ?_
  by_cases h4 : i6 = 4
  · rw [if_pos (by simpa using h4)]
    rw [if_neg h0, if_neg h1, if_neg h2, if_neg h3, if_pos h4] at hR
    with_reducible refine execs_oneH fun Jz hJz => ?_
    with_reducible refine wpAny_Return_some ?_
    with_reducible refine r_tuple_lit ?_
    with_reducible refine wpAny_items_cons ?_ rfl
    with_reducible refine r_local_float ‹_› ‹_› me7 me0 me7 fun _ => ?_
    with_reducible refine items_two ?_ rfl rfl
    with_reducible refine r_local_float ‹_› ‹_› me5 me0 me5 fun _ => ?_
    with_reducible refine r_local_float ‹_› ‹_› me2 me0 me2 fun _ => ?_
    with_reducible refine lit_intro szA ‹_› (by with_reducible exact .float (.float (.float .nil))) fun _ _ _ => ?_
    with_reducible refine Hb.go ‹_› ?_
    with_reducible refine Hb.go ‹_› ?_
    rw [hR] at hq
    dsimp only at hq
    exact hq _ _ (St.drop ‹_› (.cons_cons _ (List.sublist_cons_self _ _)))
  rw [if_neg (by simpa using h4)]
  with_reducible refine wpAny_execs_nil ?_
  with_reducible refine execs_oneB ?_
  with_reducible refine wpAny_If ?_
  with_reducible refine r_cmpi ‹_› ‹_› (.loc me3 me0 me3) .con (fun _ _ _ _ => ?_) (by with_unfolding_all rfl)
  with_reducible refine PyProof.Rows.eq_int ?_
  with_reducible refine wpAny_truthy_bool ?_
  rw [if_pos (by simp; lia)]
  rw [if_neg h0, if_neg h1, if_neg h2, if_neg h3, if_neg h4] at hR
  with_reducible refine execs_oneB ?_
  with_reducible refine wpAny_Return_some ?_
  with_reducible refine r_tuple_lit ?_
  with_reducible refine wpAny_items_cons ?_ rfl
  with_reducible refine r_local_float ‹_› ‹_› me2 me0 me2 fun _ => ?_
  with_reducible refine items_two ?_ rfl rfl
  with_reducible refine r_local_float ‹_› ‹_› me5 me0 me5 fun _ => ?_
  with_reducible refine r_local_float ‹_› ‹_› me6 me0 me6 fun _ => ?_
  with_reducible refine lit_intro szA ‹_› (by with_reducible exact .float (.float (.float .nil))) fun _ _ _ => ?_
  with_reducible refine Hb.go ‹_› ?_
  rw [hR] at hq
  dsimp only at hq
  exact hq _ _ (St.drop ‹_› (.cons_cons _ (List.sublist_cons_self _ _)))
end
end
section
open Float64
section
variable {B : Base} {σ : Led} {s : Shared} {prog : Program} {A : Around} {E : Value → Shared → Prop} {Q : Value → Shared → Prop} {k : Nat}
set_option maxHeartbeats 2000000 in
theorem rgb_spec {r g b : UInt64} {t1 t2 t3 : Tok} (S : St B σ s) (hA : Ok A (k + 1)) (h1 : eqF (min3 r g b) (max3 r g b) = false) (h2 : isZero (sub (max3 r g b) (min3 r g b)) = false) (h3 : isZero (max3 r g b) = false)
    (hq : ∀ a s' c1 c2, St B ((a, .tuple [.float (rgbH r g b), c1, c2]) :: σ) s' → Q (.ref a) s') :
    wpAny (model prog B.w) A (call (.ref 28) [.float r t1, .float g t2, .float b t3]) Q E s := by
  refine' r_call (ln := ["r", "g", "b", "maxc", "minc", "rangec", "v", "s", "rc", "gc", "bc", "h"]) (gn := ["max", "min"]) (mvs := [.float r, .float g, .float b]) (ns := [("r", some (.float r)), ("g", some (.float g)), ("b", some (.float b)), ("maxc", none), ("minc", none), ("rangec", none), ("v", none), ("s", none), ("rc", none), ("gc", none), ("bc", none), ("h", none)]) S hA rfl (by decide) rfl ?f1 (.cons ⟨_, rfl⟩ (.cons ⟨_, rfl⟩ (.cons ⟨_, rfl⟩ .nil))) ?f2 ?f3 ?f4 ?_
  case f1 => (intro h K; exact k4a4 _ _ _ _ rfl (K _ _ rfl (by decide)) rfl rfl)
  case f2 => kernel_rfl!
  case f3 => exact all3 fun _ _ _ => rfl
  case f4 => (refine ⟨rfl, by decide +kernel, by decide +kernel, by decide +kernel, by decide +kernel, by decide +kernel, by decide +kernel, by decide +kernel, rfl, rfl⟩)
  intro env s1 hE hsc S1 hA1
  have hR : rgbH r g b = (divmod (div (if eqF r (max3 r g b) = true then sub (div (sub (max3 r g b) b) (sub (max3 r g b) (min3 r g b))) (div (sub (max3 r g b) g) (sub (max3 r g b) (min3 r g b))) else if eqF g (max3 r g b) = true then sub (add 4611686018427387904 (div (sub (max3 r g b) r) (sub (max3 r g b) (min3 r g b)))) (div (sub (max3 r g b) b) (sub (max3 r g b) (min3 r g b))) else sub (add 4616189618054758400 (div (sub (max3 r g b) g) (sub (max3 r g b) (min3 r g b)))) (div (sub (max3 r g b) r) (sub (max3 r g b) (min3 r g b)))) 4618441417868443648) 4607182418800017408).snd := rfl
  with_reducible refine execs_consH fun Jz hJz => ?_
  with_reducible refine wpAny_Assign_Name ?_ rfl
  with_reducible refine r_callB rfl ?_
  with_reducible refine r_global ‹_› ‹_› me0 (by exact gv_max _) ?_
  with_reducible refine nr_builtin ?_
  with_reducible refine wpAny_items_cons ?_ rfl
  with_reducible refine r_local_float ‹_› ‹_› me0 me0 me0 fun _ => ?_
  with_reducible refine items_two ?_ rfl rfl
  with_reducible refine r_local_float ‹_› ‹_› me1 me0 me1 fun _ => ?_
  with_reducible refine r_local_float ‹_› ‹_› me2 me0 me2 fun _ => ?_
  with_reducible refine r_max3 ‹_› (Ok.handled ‹_›) fun _ _ _ => ?_
  with_reducible refine r_store_float ‹_› ‹_› me3 up0 un3 fun _ _ => ?_
  with_reducible refine execs_consB ?_
  with_reducible refine wpAny_Assign_Name ?_ rfl
  with_reducible refine r_callB rfl ?_
  with_reducible refine r_global ‹_› ‹_› me1 (by exact gv_min _) ?_
  with_reducible refine nr_builtin ?_
  with_reducible refine wpAny_items_cons ?_ rfl
  with_reducible refine r_local_float ‹_› ‹_› me0 me0 me0 fun _ => ?_
  with_reducible refine items_two ?_ rfl rfl
  with_reducible refine r_local_float ‹_› ‹_› me1 me0 me1 fun _ => ?_
  with_reducible refine r_local_float ‹_› ‹_› me2 me0 me2 fun _ => ?_
  with_reducible refine r_min3 ‹_› (Ok.handled ‹_›) fun _ _ _ => ?_
  with_reducible refine r_store_float ‹_› ‹_› me4 up0 un4 fun _ _ => ?_
  with_reducible refine execs_consB ?_
  with_reducible refine wpAny_Assign_Name ?_ rfl
  with_reducible refine wpAny_BinOp ?_
  with_reducible refine r_local_float ‹_› ‹_› me3 me0 me3 fun _ => ?_
  with_reducible refine r_local_float ‹_› ‹_› me4 me0 me4 fun _ => ?_
  with_reducible refine r_fsub ‹_› fun _ _ _ => ?_
  with_reducible refine r_store_float ‹_› ‹_› me5 up0 un5 fun _ _ => ?_
  with_reducible refine execs_consB ?_
  with_reducible refine wpAny_Assign_Name ?_ rfl
  with_reducible refine r_local_float ‹_› ‹_› me3 me0 me3 fun _ => ?_
  with_reducible refine r_store_float ‹_› ‹_› me6 up0 un6 fun _ _ => ?_
  with_reducible refine execs_consB ?_
  with_reducible refine wpAny_If ?_
  with_reducible refine wpAny_isTrue_Compare1 ?_
  with_reducible refine r_local_float ‹_› ‹_› me4 me0 me4 fun _ => ?_
  with_reducible refine r_local_float ‹_› ‹_› me3 me0 me3 fun _ => ?_
  with_reducible refine r_feq ?_
  with_reducible refine wpAny_truthy_bool ?_
  rw [h1, if_neg (by decide)]
  with_reducible refine wpAny_execs_nil ?_
  with_reducible refine execs_consB ?_
  with_reducible refine wpAny_Assign_Name ?_ rfl
  with_reducible refine wpAny_BinOp ?_
  with_reducible refine r_local_float ‹_› ‹_› me5 me0 me5 fun _ => ?_
  with_reducible refine r_local_float ‹_› ‹_› me3 me0 me3 fun _ => ?_
  with_reducible refine r_fdivf ‹_› (by first | assumption | decide +kernel) fun _ _ _ => ?_
  with_reducible refine r_store_float ‹_› ‹_› me7 up0 un7 fun _ _ => ?_
  with_reducible refine execs_consB ?_
  with_reducible refine wpAny_Assign_Name ?_ rfl
  with_reducible refine wpAny_BinOp ?_
  with_reducible refine wpAny_BinOp ?_
  with_reducible refine r_local_float ‹_› ‹_› me3 me0 me3 fun _ => ?_
  with_reducible refine r_local_float ‹_› ‹_› me0 me0 me0 fun _ => ?_
  with_reducible refine r_fsub ‹_› fun _ _ _ => ?_
  with_reducible refine r_local_float ‹_› ‹_› me5 me0 me5 fun _ => ?_
  with_reducible refine r_fdivf ‹_› (by first | assumption | decide +kernel) fun _ _ _ => ?_
  with_reducible refine r_store_float ‹_› ‹_› me8 up0 un8 fun _ _ => ?_
  with_reducible refine execs_consB ?_
  with_reducible refine wpAny_Assign_Name ?_ rfl
  with_reducible refine wpAny_BinOp ?_
  with_reducible refine wpAny_BinOp ?_
  with_reducible refine r_local_float ‹_› ‹_› me3 me0 me3 fun _ => ?_
  with_reducible refine r_local_float ‹_› ‹_› me1 me0 me1 fun _ => ?_
  with_reducible refine r_fsub ‹_› fun _ _ _ => ?_
  with_reducible refine r_local_float ‹_› ‹_› me5 me0 me5 fun _ => ?_
  with_reducible refine r_fdivf ‹_› (by first | assumption | decide +kernel) fun _ _ _ => ?_
  with_reducible refine r_store_float ‹_› ‹_› me9 up0 un9 fun _ _ => ?_
  with_reducible refine execs_consB ?_
  with_reducible refine wpAny_Assign_Name ?_ rfl
  with_reducible refine wpAny_BinOp ?_
  with_reducible refine wpAny_BinOp ?_
  with_reducible refine r_local_float ‹_› ‹_› me3 me0 me3 fun _ => ?_
  with_reducible refine r_local_float ‹_› ‹_› me2 me0 me2 fun _ => ?_
  with_reducible refine r_fsub ‹_› fun _ _ _ => ?_
  with_reducible refine r_local_float ‹_› ‹_› me5 me0 me5 fun _ => ?_
  with_reducible refine r_fdivf ‹_› (by first | assumption | decide +kernel) fun _ _ _ => ?_
  with_reducible refine r_store_float ‹_› ‹_› me10 up0 un10 fun _ _ => ?_
  with_reducible refine execs_consB ?_
  with_reducible refine wpAny_If ?_
  with_reducible refine wpAny_isTrue_Compare1 ?_
  with_reducible refine r_local_float ‹_› ‹_› me0 me0 me0 fun _ => ?_
  with_reducible refine r_local_float ‹_› ‹_› me3 me0 me3 fun _ => ?_
  with_reducible refine r_feq ?_
  with_reducible refine wpAny_truthy_bool ?_
  cases hr : eqF r (max3 r g b)
  · rw [if_neg (by decide)]
    rw [hr, if_neg (by decide)] at hR
    with_reducible refine execs_oneH fun Jz hJz => ?_
    with_reducible refine wpAny_If ?_
    with_reducible refine wpAny_isTrue_Compare1 ?_
    with_reducible refine r_local_float ‹_› ‹_› me1 me0 me1 fun _ => ?_
    with_reducible refine r_local_float ‹_› ‹_› me3 me0 me3 fun _ => ?_
    with_reducible refine r_feq ?_
    with_reducible refine wpAny_truthy_bool ?_
    cases hg : eqF g (max3 r g b)
    · rw [if_neg (by decide)]
      rw [hg, if_neg (by decide)] at hR
      with_reducible refine execs_oneB ?_
      with_reducible refine wpAny_Assign_Name ?_ rfl
      with_reducible refine wpAny_BinOp ?_
      with_reducible refine wpAny_BinOp ?_
      with_reducible refine r_float ‹_› fun _ _ _ => ?_
      with_reducible refine r_local_float ‹_› ‹_› me9 me0 me9 fun _ => ?_
      with_reducible refine r_fadd ‹_› fun _ _ _ => ?_
      with_reducible refine r_local_float ‹_› ‹_› me8 me0 me8 fun _ => ?_
      with_reducible refine r_fsub ‹_› fun _ _ _ => ?_
      with_reducible refine r_store_float ‹_› ‹_› me11 up0 un11 fun _ _ => ?_
      with_reducible refine Hb.go ‹_› ?_
      with_reducible refine execs_consB ?_
      with_reducible refine wpAny_Assign_Name ?_ rfl
      with_reducible refine wpAny_BinOp ?_
      with_reducible refine wpAny_BinOp ?_
      with_reducible refine r_local_float ‹_› ‹_› me11 me0 me11 fun _ => ?_
      with_reducible refine r_float ‹_› fun _ _ _ => ?_
      with_reducible refine r_fdivf ‹_› (by first | assumption | decide +kernel) fun _ _ _ => ?_
      with_reducible refine r_float ‹_› fun _ _ _ => ?_
      with_reducible refine r_fmodf ‹_› (by first | assumption | decide +kernel) fun _ _ _ => ?_
      with_reducible refine r_store_float ‹_› ‹_› me11 up0 un11 fun _ _ => ?_
      with_reducible refine execs_oneB ?_
      with_reducible refine wpAny_Return_some ?_
      with_reducible refine r_tuple_lit ?_
      with_reducible refine wpAny_items_cons ?_ rfl
      with_reducible refine r_local_float ‹_› ‹_› me11 me0 me11 fun _ => ?_
      with_reducible refine items_two ?_ rfl rfl
      with_reducible refine r_local_float ‹_› ‹_› me7 me0 me7 fun _ => ?_
      with_reducible refine r_local_float ‹_› ‹_› me6 me0 me6 fun _ => ?_
      with_reducible refine lit_intro szA ‹_› (by with_reducible exact .float (.float (.float .nil))) fun _ _ _ => ?_
      with_reducible refine Hb.go ‹_› ?_
      rw [hR] at hq
      exact hq _ _ _ _ (St.drop ‹_› (.cons_cons _ (List.sublist_cons_self _ _)))
    · rw [if_pos rfl]
      rw [hg, if_pos rfl] at hR
      with_reducible refine execs_oneB ?_
      with_reducible refine wpAny_Assign_Name ?_ rfl
      with_reducible refine wpAny_BinOp ?_
      with_reducible refine wpAny_BinOp ?_
      with_reducible refine r_float ‹_› fun _ _ _ => ?_
      with_reducible refine r_local_float ‹_› ‹_› me8 me0 me8 fun _ => ?_
      with_reducible refine r_fadd ‹_› fun _ _ _ => ?_
      with_reducible refine r_local_float ‹_› ‹_› me10 me0 me10 fun _ => ?_
      with_reducible refine r_fsub ‹_› fun _ _ _ => ?_
      with_reducible refine r_store_float ‹_› ‹_› me11 up0 un11 fun _ _ => ?_
      with_reducible refine Hb.go ‹_› ?_
      with_reducible refine execs_consB ?_
      with_reducible refine wpAny_Assign_Name ?_ rfl
      with_reducible refine wpAny_BinOp ?_
      with_reducible refine wpAny_BinOp ?_
      with_reducible refine r_local_float ‹_› ‹_› me11 me0 me11 fun _ => ?_
      with_reducible refine r_float ‹_› fun _ _ _ => ?_
      with_reducible refine r_fdivf ‹_› (by first | assumption | decide +kernel) fun _ _ _ => ?_
      with_reducible refine r_float ‹_› fun _ _ _ => ?_
      with_reducible refine r_fmodf ‹_› (by first | assumption | decide +kernel) fun _ _ _ => ?_
      with_reducible refine r_store_float ‹_› ‹_› me11 up0 un11 fun _ _ => ?_
      with_reducible refine execs_oneB ?_
      with_reducible refine wpAny_Return_some ?_
      with_reducible refine r_tuple_lit ?_
      with_reducible refine wpAny_items_cons ?_ rfl
      with_reducible refine r_local_float ‹_› ‹_› me11 me0 me11 fun _ => ?_
      with_reducible refine items_two ?_ rfl rfl
      with_reducible refine r_local_float ‹_› ‹_› me7 me0 me7 fun _ => ?_
      with_reducible refine r_local_float ‹_› ‹_› me6 me0 me6 fun _ => ?_
      with_reducible refine lit_intro szA ‹_› (by with_reducible exact .float (.float (.float .nil))) fun _ _ _ => ?_
      with_reducible refine Hb.go ‹_› ?_
      rw [hR] at hq
      exact hq _ _ _ _ (St.drop ‹_› (.cons_cons _ (List.sublist_cons_self _ _)))
  · rw [if_pos rfl]
    rw [hr, if_pos rfl] at hR
    with_reducible refine execs_oneH fun Jz hJz => ?_
    with_reducible refine wpAny_Assign_Name ?_ rfl
    with_reducible refine wpAny_BinOp ?_
    with_reducible refine r_local_float ‹_› ‹_› me10 me0 me10 fun _ => ?_
    with_reducible refine r_local_float ‹_› ‹_› me9 me0 me9 fun _ => ?_
    with_reducible refine r_fsub ‹_› fun _ _ _ => ?_
    with_reducible refine r_store_float ‹_› ‹_› me11 up0 un11 fun _ _ => ?_
    with_reducible refine Hb.go ‹_› ?_
    with_reducible refine execs_consB ?_
    with_reducible refine wpAny_Assign_Name ?_ rfl
    with_reducible refine wpAny_BinOp ?_
    with_reducible refine wpAny_BinOp ?_
    with_reducible refine r_local_float ‹_› ‹_› me11 me0 me11 fun _ => ?_
    with_reducible refine r_float ‹_› fun _ _ _ => ?_
    with_reducible refine r_fdivf ‹_› (by first | assumption | decide +kernel) fun _ _ _ => ?_
    with_reducible refine r_float ‹_› fun _ _ _ => ?_
    with_reducible refine r_fmodf ‹_› (by first | assumption | decide +kernel) fun _ _ _ => ?_
    with_reducible refine r_store_float ‹_› ‹_› me11 up0 un11 fun _ _ => ?_
    with_reducible refine execs_oneB ?_
    with_reducible refine wpAny_Return_some ?_
    with_reducible refine r_tuple_lit ?_
    with_reducible refine wpAny_items_cons ?_ rfl
    with_reducible refine r_local_float ‹_› ‹_› me11 me0 me11 fun _ => ?_
    with_reducible refine items_two ?_ rfl rfl
    with_reducible refine r_local_float ‹_› ‹_› me7 me0 me7 fun _ => ?_
    with_reducible refine r_local_float ‹_› ‹_› me6 me0 me6 fun _ => ?_
    with_reducible refine lit_intro szA ‹_› (by with_reducible exact .float (.float (.float .nil))) fun _ _ _ => ?_
    with_reducible refine Hb.go ‹_› ?_
    rw [hR] at hq
    exact hq _ _ _ _ (St.drop ‹_› (.cons_cons _ (List.sublist_cons_self _ _)))
end
end
section
open Float64
noncomputable def hueOk (n : Nat) : Bool := let h := fl n 16; let m := mul h 4618441417868443648
  !isInf h && isFinite m && !isInf (ofInt (truncF m)) && truncF m == ((3 * n / 8 : Nat) : Int) && sub m (ofInt (truncF m)) == fl (3 * n % 8) 8
theorem hue_ok : ∀ n, n < 256 → hueOk n = true := by decide +kernel
noncomputable def colOk (r sh va : Nat) : Bool := let s := fl (1 + sh) 4; let c := hsvRgb (fl r 16) s (fl (1 + va) 4)
  let mx := max3 c.1 c.2.1 c.2.2; let mn := min3 c.1 c.2.1 c.2.2; let m := mul (ofInt 16) (rgbH c.1 c.2.1 c.2.2)
  !eqF s 0 && !eqF mn mx && !isZero (sub mx mn) && !isZero mx && isFinite m && truncF m == (r : Int)
theorem col_0 : ∀ r, r < 4 → ∀ sh, sh < 4 → ∀ va, va < 4 → colOk (0 + r) sh va = true := by decide +kernel
theorem col_1 : ∀ r, r < 4 → ∀ sh, sh < 4 → ∀ va, va < 4 → colOk (4 + r) sh va = true := by decide +kernel
theorem col_2 : ∀ r, r < 4 → ∀ sh, sh < 4 → ∀ va, va < 4 → colOk (8 + r) sh va = true := by decide +kernel
theorem col_3 : ∀ r, r < 4 → ∀ sh, sh < 4 → ∀ va, va < 4 → colOk (12 + r) sh va = true := by decide +kernel
theorem col_at {d r sh va : Nat} (h : ∀ r, r < 4 → ∀ sh, sh < 4 → ∀ va, va < 4 → colOk (d + r) sh va = true) (a : d ≤ r) (b : r < d + 4) (hs : sh < 4) (hv : va < 4) : colOk r sh va = true := by
  have := h (r - d) (by omega) sh hs va hv
  rwa [show d + (r - d) = r by omega] at this
theorem col_ok (r : Nat) (hr : r < 16) (sh : Nat) (hs : sh < 4) (va : Nat) (hv : va < 4) : colOk r sh va = true := by
  rcases (by omega : r < 4 ∨ 4 ≤ r ∧ r < 8 ∨ 8 ≤ r ∧ r < 12 ∨ 12 ≤ r) with h | h | h | h
  · exact col_at col_0 (Nat.zero_le _) (by omega) hs hv
  · exact col_at col_1 h.1 h.2 hs hv
  · exact col_at col_2 h.1 h.2 hs hv
  · exact col_at col_3 h hr hs hv
theorem quarter_ok : ∀ x, x < 4 → isInf (fl (1 + x) 4) = false := by decide +kernel
theorem hsv_mod {n : Nat} (hn : n < 256) {s v : UInt64} (hs : eqF s 0 = false) : hsvRgb (fl n 16) s v = hsvRgb (fl (n % 16) 16) s v := by
  have h1 := hue_ok n hn
  have h2 := hue_ok (n % 16) (by grind)
  simp only [hueOk, Bool.and_eq_true, beq_iff_eq, Bool.not_eq_true'] at h1 h2
  have e1 : hsvFrac (fl n 16) = hsvFrac (fl (n % 16) 16) := by
    unfold hsvFrac
    rw [h1.2, h2.2, show 3 * (n % 16) % 8 = 3 * n % 8 by lia]
  have e2 : truncF (mul (fl n 16) 4618441417868443648) % 6 = truncF (mul (fl (n % 16) 16) 4618441417868443648) % 6 := by
    have e3 : 3 * n / 8 = 3 * (n % 16) / 8 + 6 * (n / 16) := by lia
    rw [h1.1.2, h2.1.2, e3]
    generalize 3 * (n % 16) / 8 = x
    generalize n / 16 = y
    lia
  rw [hsvRgb_ne hs, hsvRgb_ne hs, e1, e2]
structure ColLaw (n sh va : Nat) : Prop where
  h0 : isInf (fl n 16) = false
  s0 : isInf (fl (1 + sh) 4) = false
  v0 : isInf (fl (1 + va) 4) = false
  ne : eqF (fl (1 + sh) 4) 0 = false
  fin : isFinite (mul (fl n 16) 4618441417868443648) = true
  inf : isInf (ofInt (truncF (mul (fl n 16) 4618441417868443648))) = false
  e : ∀ c, c = hsvRgb (fl n 16) (fl (1 + sh) 4) (fl (1 + va) 4) → eqF (min3 c.1 c.2.1 c.2.2) (max3 c.1 c.2.1 c.2.2) = false ∧ isZero (sub (max3 c.1 c.2.1 c.2.2) (min3 c.1 c.2.1 c.2.2)) = false ∧ isZero (max3 c.1 c.2.1 c.2.2) = false ∧
    isFinite (mul (ofInt 16) (rgbH c.1 c.2.1 c.2.2)) = true ∧ truncF (mul (ofInt 16) (rgbH c.1 c.2.1 c.2.2)) = ((n % 16 : Nat) : Int)
theorem col_law {n sh va : Nat} (hn : n < 256) (hs : sh < 4) (hv : va < 4) : ColLaw n sh va := by
  have h1 := hue_ok n hn
  simp only [hueOk, Bool.and_eq_true, beq_iff_eq, Bool.not_eq_true'] at h1
  have h2 := col_ok (n % 16) (by grind) sh hs va hv
  simp only [colOk, Bool.and_eq_true, beq_iff_eq, Bool.not_eq_true'] at h2
  refine ⟨h1.1.1.1.1, quarter_ok sh hs, quarter_ok va hv, h2.1.1.1.1.1, h1.1.1.1.2, h1.1.1.2, fun c hc => ?_⟩
  rw [hsv_mod hn h2.1.1.1.1.1] at hc
  subst hc
  exact ⟨h2.1.1.1.1.2, h2.1.1.1.2, h2.1.1.2, h2.1.2, h2.2⟩
end
section
noncomputable def writtenQ (w : Str) : Str := Str.ofString "\"" ++ Txt.replace (Txt.replace w (Str.ofString "\\") (Str.ofString "\\\\")) (Str.ofString "\"") (Str.ofString "\\\"") ++ Str.ofString "\" "
noncomputable def writtenB (w : Str) : Str := Txt.join (Str.ofString "") (w.cps.toList.map fun c => Str.ofString "\\" ++ ⟨#[c]⟩) ++ Str.ofString "\n"
noncomputable def written (w : Str) (q : Int) : Str := if q = 1 then writtenQ w else writtenB w
section
variable {B : Base} {σ : Led} {s : Shared} {prog : Program} {A : Around} {E : Value → Shared → Prop} {Q : Value → Shared → Prop} {k : Nat}
theorem written_spec {w : Str} {q : Int} {t u : Tok} (S : St B σ s) (hA : Ok A (k + 1)) (hw : w.length ≤ 100) (h : ∀ t s', St B σ s' → Q (.str (written w q) t) s') :
    wpAny (model prog B.w) A (call (.ref 111) [.str w t, .int q u]) Q E s := by
  refine' r_call (ln := ["word", "quoted"]) (gn := []) (mvs := [.str w, .int q]) (ns := [("word", some (.str w)), ("quoted", some (.int q))]) S hA rfl (by decide) rfl ?f1 (.cons ⟨t, rfl⟩ (.cons ⟨u, rfl⟩ .nil)) ?f2 ?f3 ?f4 ?_
  case f1 => (intro h K; exact k4a4 _ _ _ _ rfl (K _ _ rfl (by decide)) rfl rfl)
  case f2 => kernel_rfl!
  case f3 => exact all2 fun _ _ => rfl
  case f4 => (refine ⟨rfl, by decide +kernel, by decide +kernel, by decide +kernel, by decide +kernel, by decide +kernel, by decide +kernel, by decide +kernel, rfl, rfl⟩)
  intro env s1 hE hsc S1 hA1
  have l1 := replace_length w (Str.ofString "\\") (Str.ofString "\\\\")
  have l2 := replace_length (Txt.replace w (Str.ofString "\\") (Str.ofString "\\\\")) (Str.ofString "\"") (Str.ofString "\\\"")
  rw [len_bsbs] at l1
  rw [len_bsq] at l2
  with_reducible refine wpAny_execs_cons ?_
  with_reducible refine wpAny_If ?_
  with_reducible refine r_cmpi ‹_› ‹_› (.loc me1 me0 me1) .con (fun _ _ _ _ => ?_) (by with_unfolding_all rfl)
  with_reducible refine PyProof.Rows.eq_int ?_
  with_reducible refine wpAny_truthy_bool ?_
  by_cases hq : q = 1
  · rw [if_pos (by simpa using hq)]
    with_reducible refine execs_one ?_
    with_reducible refine wpAny_Return_some ?_
    with_reducible refine wpAny_BinOp ?_
    with_reducible refine wpAny_BinOp ?_
    with_reducible refine r_str ‹_› fun _ _ _ => ?_
    with_reducible refine r_replace rfl rfl (by decide +kernel) ?_
    with_reducible refine r_replace rfl rfl (by decide +kernel) ?_
    with_reducible refine r_local_str ‹_› ‹_› me0 me0 me0 fun _ => ?_
    refine k3a4 _ _ _ rfl ‹_› (by rw [len_bsbs]; lia) ?_
    intro t2 s2 S2
    refine k3a4 _ _ _ rfl ‹_› (by rw [len_bsq]; lia) ?_
    intro t3 s3 S3
    with_reducible refine r_sadd ‹_› szA fun _ _ _ => ?_
    with_reducible refine r_str ‹_› fun _ _ _ => ?_
    with_reducible refine r_sadd ‹_› szA fun _ _ _ => ?_
    have := h ‹_› _ (St.drop ‹_› (.cons _ (.refl _)))
    unfold written writtenQ at this; rw [if_pos hq] at this; exact this
  · rw [if_neg (by simpa using hq)]
    with_reducible refine wpAny_execs_nil ?_
    with_reducible refine execs_one ?_
    with_reducible refine wpAny_Return_some ?_
    with_reducible refine wpAny_BinOp ?_
    with_reducible refine r_method rfl rfl rfl rfl ?_
    with_reducible refine r_str ‹_› fun _ _ _ => ?_
    with_reducible refine mStr PySem.F.slot_str_join PySem.F.type_str_join ?_
    with_reducible refine items_one ?_ rfl
    refine' r_comp (ln' := ["sign"]) (cs' := []) (gn' := []) hE ?c1 ?c2 ?c3 ?c4 ?_
    case c1 => exact scO rfl (by decide +kernel)
    case c2 => rfl
    case c3 => exact fn
    case c4 => intro _; rfl
    with_reducible refine r_local_str ‹_› ‹_› me0 me0 me0 fun _ => ?_
    with_reducible refine i_str ‹_› fun _ _ _ _ => ?_
    refine CompPack.of_str (fun c => some (MV.str (Str.ofString "\\" ++ ⟨#[c]⟩))) ‹_› hA1.handled (leB ‹_› rfl) ?_ ?_
    · rintro C D cenv hE' hc i x acc s2 v hxi S2 or1
      refine x1a1 or1 fun tv qz011 => ?_; clear or1; subst qz011
      rintro N
      simp only [noneNs, List.map_cons, List.map_nil] at S2
      with_reducible refine wpAny_assign_Name ?_
      with_reducible refine r_store_str ‹_› ‹_› me0 up0 un0 fun _ _ => ?_
      with_reducible refine wpAny_tests_nil ?_
      with_reducible refine go_true ?_
      with_reducible refine wpAny_BinOp ?_
      with_reducible refine r_str ‹_› fun _ _ _ => ?_
      with_reducible refine r_local_str ‹_› ‹_› me0 me0 me0 fun _ => ?_
      with_reducible refine r_sadd ‹_› szA fun _ _ _ => ?_
      exact ⟨_, _, rfl, ⟨_, rfl⟩, rfl, by assumption⟩
    · intro C D s2 S2 s3 S3
      clear S2
      have hmap : List.filterMap (fun c => some (MV.str (Str.ofString "\\" ++ ⟨#[c]⟩))) w.cps.toList = (w.cps.toList.map fun c => Str.ofString "\\" ++ ⟨#[c]⟩).map MV.str := by
        rw [List.map_map]
        induction w.cps.toList with
        | nil => rfl
        | cons c r ih => simp [ih]
      rw [hmap] at S3
      have hln : (w.cps.toList.map fun c => Str.ofString "\\" ++ (⟨#[c]⟩ : Str)).length = w.length := by rw [List.length_map]; rfl
      have hsum : ((w.cps.toList.map fun c => Str.ofString "\\" ++ (⟨#[c]⟩ : Str)).map (·.length)).sum ≤ w.length * 2 := by
        have := sum_le_mul ((w.cps.toList.map fun c => Str.ofString "\\" ++ (⟨#[c]⟩ : Str)).map (·.length)) 2 (by
          intro x hx
          simp only [List.mem_map] at hx
          refine x1a2 hx fun _ oy111 qz112 => ?_; clear hx; refine x1a2 oy111 fun c _ qz112 => ?_; clear oy111; subst qz112; subst qz112
          rw [Str.length_append, len_bs, len_one]; lia)
        rw [List.length_map, hln] at this
        exact this
      have hj := join_len (Str.ofString "") (w.cps.toList.map fun c => Str.ofString "\\" ++ (⟨#[c]⟩ : Str))
      rw [len_emp, Nat.mul_zero] at hj
      skip
      refine r_sjoin (xs := w.cps.toList.map fun c => Str.ofString "\\" ++ ⟨#[c]⟩) ‹_› me0 (by rw [len_emp]; (unfold sizeLine; lia)) ?_
      intro t4 s4 S4
      with_reducible refine r_str ‹_› fun _ _ _ => ?_
      with_reducible refine r_sadd ‹_› szA fun _ _ _ => ?_
      have := h ‹_› _ (St.drop ‹_› (.cons _ (.cons _ (.refl _))))
      unfold written writtenB at this; rw [if_neg hq] at this; exact this
end
end
section
theorem slot_ci_next : Slot "callable_iterator" "__next__" "callable_iterator.__next__" :=
  .of (owner := "callable_iterator") (n := "__next__") (by rw [typeLookup_type, builtinLookup_eq_fast]; kernel_rfl) (by decide +kernel) (by decide +kernel) (by decide +kernel)
    (by first | exact .inl (by decide +kernel) | exact .inr (by decide +kernel)) (by rw [isSubtype_type]; kernel_rfl)
theorem slot_ci_iter : Slot "callable_iterator" "__iter__" "callable_iterator.__iter__" :=
  .of (owner := "callable_iterator") (n := "__iter__") (by rw [typeLookup_type, builtinLookup_eq_fast]; kernel_rfl) (by decide +kernel) (by decide +kernel) (by decide +kernel)
    (by first | exact .inl (by decide +kernel) | exact .inr (by decide +kernel)) (by rw [isSubtype_type]; kernel_rfl)
theorem entry_ci_next : entryFor table "callable_iterator.__next__" = some Builtin.«callable_iterator.__next__» := entryFor_of_fast (by kernel_rfl)
theorem entry_ci_iter : entryFor table "callable_iterator.__iter__" = some Builtin.«dict_keyiterator.__iter__» := entryFor_alias (id' := "dict_keyiterator.__iter__") (by kernel_rfl) rfl (by decide +kernel) (by kernel_rfl)
theorem args_ci_next (a : Value) : argsOk "callable_iterator.__next__" ⟨[a], []⟩ := by unfold argsOk; kernel_rfl
theorem args_ci_iter (a : Value) : argsOk "callable_iterator.__iter__" ⟨[a], []⟩ := by unfold argsOk; kernel_rfl
theorem method_call_lookup : typeLookup (.type "method") "__call__" = pure (some (.builtin "method.__call__")) := by rw [typeLookup_type, builtinLookup_eq_fast]; kernel_rfl
noncomputable abbrev ciObj (m : Addr) (t : Tok) : Obj := { cls := .type "callable_iterator", data := .fields #[.ref m, .str (Str.ofString "") t, .bool false] }
noncomputable abbrev ciEnd : Obj := { cls := .type "callable_iterator", data := .fields #[.none, .none, .bool true] }
noncomputable abbrev rcObj (x : Addr) : Obj := methodObj (.ref 71) (.ref x)
theorem ne_tup {x : String} (h : x ≠ "tuple") : (Value.type x) ≠ .type "tuple" := fun e => h (Value.type.inj e)
section
variable {B : Base} {σ σ' : Led} {s : Shared} {prog : Program} {A : Around} {E : Value → Shared → Prop} {env : Env} {ln gn : List Str} {cs : List (Str × Addr)} {k : Nat}
theorem fn71 (p : Params) : ∃ o fd, (KK p).lookup 71 = some o ∧ o.data = .func fd := ⟨_, _, rfl, rfl⟩
/-- self._read_char as a value -/
theorem r_bindRead {x dx : Addr} {m : List (Str × MV)} {expr : Bool} {Q : Value → Shared → Prop} (S : St B σ s) (hx : (x, VO.obj (instObj 88 dx)) ∈ σ) (hd : (dx, VO.ins m) ∈ σ) (hno : ("_read_char" : Str) ∉ m.map (·.1))
    (h : ∀ q s', St B ((q, .obj (rcObj x)) :: σ) s' → Q (.ref q) s') : wpAny (model prog B.w) A (getAttr (.ref x) "_read_char" expr) Q E s := by
  refine x1a3 (S.inst hx hd) fun od I h1 h2 => ?_
  have hl := h2 _ hno
  have hf : findObj (KT B.w.params) 88 (some od) "_read_char" = some (.bind (.builtin "function.__get__") (.ref 71)) := by
    have e1 : specialIn (KT B.w.params) (.ref 71) "__get__" = some (some (.builtin "function.__get__")) := by kernel_rfl!
    have e2 : takesIn (KT B.w.params) (.ref 71) = some false := by kernel_rfl!
    refine x1a2 (any_some (kt_hasDict B.w.params)) fun cd hcd hdict => ?_
    have ho : W.ownOf cd (some od) "_read_char" = some none := by unfold W.ownOf; rw [if_pos hdict]; exact hl
    have hc : copiedNames.contains ("_read_char" : Str) = false := by decide +kernel
    unfold findObj
    rw [hcd, Option.bind_some, kt_read_char, Option.bind_some]
    simp only [e1, Option.bind_some, e2, ho, hc, Bool.false_and, Bool.false_eq_true, if_false]
  refine get_bind S.KTIn I (kt_ga _) hf (kt_gt _) (wpAny_call (fn_get (X := (S.tok (s.toks + 1)).KTIn) (by kernel_rfl!) ?_))
  show wpAny _ _ (handedOut (.ref _)) _ _ _
  rw [handedOut_of rfl]
  exact wpAny_pure (h _ _ (S.push (o := .obj (rcObj x)) (s.toks + 1) ⟨Heap.get?_push_size _ rfl, ne_tup (by decide)⟩))
/-- iter(f, "") of a bound method -/
theorem r_iter2 {x q : Addr} {t : Tok} {Q : Value → Shared → Prop} (S : St B σ s) (hq : (q, VO.obj (rcObj x)) ∈ σ) (h : ∀ I s', St B ((I, .obj (ciObj q t)) :: σ) s' → Q (.ref I) s') :
    wpAny (model prog B.w) A (call (.builtin "iter") [.ref q, .str (Str.ofString "") t]) Q E s := by
  have ho := (S.at (o := .obj (rcObj x)) hq).1
  refine Calls.call_function_entry (by decide +kernel) (by decide +kernel) entry_iter (args_iter2 _ _) ?_
  unfold Builtin.«iter»
  refine wpAny_bind (m := someArgs "iter" 1 2 _) (wpAny_of_eq (a := [Value.ref q, .str (Str.ofString "") t]) (by first | rfl | kernel_rfl!) ?_)
  dsimp only
  refine wpAny_bind (wpAny_specialOf (T := "method") ⟨_, ho, rfl⟩ method_call_lookup ?_)
  refine wpAny_ite_split (fun hab => absurd hab (by decide)) (fun _ => ?_)
  refine wpAny_bind (wpAny_rule (wpAny_bind ?_))
  exact wpAny_newObj_type (wpAny_pure ⟨_, rfl, h _ _ (S.push (o := .obj (ciObj q t)) s.toks ⟨Heap.get?_push_size _ rfl, ne_tup (by decide)⟩)⟩)
theorem i_ci {I : Addr} {o : Obj} {Q : Value → Shared → Prop} (S : St B σ s) (hI : (I, VO.obj o) ∈ σ) (ho : o.cls = .type "callable_iterator") (h : Q (.ref I) s) : wpAny (model prog B.w) A (pyIter (.ref I)) Q E s := by
  have hT : s.TypeIs (.ref I) "callable_iterator" := ⟨_, (S.at (o := .obj o) hI).1, ho⟩
  refine wpAny_pyIter_slot hT slot_ci_iter (wpAny_call_entry slot_ci_iter hT entry_ci_iter ?_ (args_ci_iter _))
  show wpAny _ _ (ret (.ref I)) _ _ s
  exact wpAny_pure ⟨_, rfl, "callable_iterator", _, hT, slot_ci_next.lookup, h⟩
theorem stop_here {α : Type} {A' : Around} {Q' : α → Shared → Prop} {Q : Option Value → Shared → Prop} (hh : A.handled = none) (h : ∀ h', (∀ b o, s.heap.get? b = some o → h'.get? b = some o) → Q none { s with heap := h' }) :
    wpAny (model prog B.w) A (Builtin.SmallTypes.stopIteration : Sem α) Q' (fun e s' => wpAny (model prog B.w) A' (do if ← isInstance e (.type "StopIteration") then pure none else throw e) Q E s') s := by
  unfold Builtin.SmallTypes.stopIteration
  refine wpAny_bind ?_
  simp only [newExc, newTuple]
  refine wpAny_bind (wpAny_newObj_type ?_ (by size_fits))
  refine wpAny_bind (m := firstArgMember _ _) (wpAny_of_eq (a := Value.none) (by first | rfl | (simp only [firstArgMember]; rfl)) ?_)
  refine wpAny_newObj_type ?_ (by size_fits)
  simp only [raiseNew]
  refine wpAny_bind (wpAny_handled ?_)
  rw [hh]
  refine wpAny_bind (wpAny_pure (wpAny_throw ?_))
  refine wpAny_bind (wpAny_isInstance (T := "StopIteration") (b := true) ⟨_, Heap.get?_push_size _ rfl, rfl⟩ isSubtype_stop ?_)
  exact wpAny_pure (h _ fun b o e => Heap.get?_push_of_some _ (Heap.get?_push_of_some _ e))
theorem wpAny_callBorrowed {M : Model} {f : Value} {pos : List Value} {Q : Value → Shared → Prop} (hc : codeAny M A (.call f ⟨pos, []⟩) (fun r s' => ∃ v, r = .ok (.ret v) ∧ Q v s') s) : wpAny M A (callBorrowed f pos) Q E s := by
  intro Γ p hΓ
  unfold callBorrowed
  rw [Sem.wp]
  refine wpCode_mono (fun r s' hr => ?_) (hc _ p rfl (hΓ.enter _ _ p (by intro x; cases x)))
  refine x1a2 hr fun v qz211 hq => ?_; clear hr; subst qz211
  exact hq
theorem borrows_rc {q x : Addr} {Q : Bool → Shared → Prop} (S : St B σ s) (hq : (q, VO.obj (rcObj x)) ∈ σ) (h : Q true s) : wpAny (model prog B.w) A (borrowsExactly (.ref q)) Q E s := by
  have ho := (S.at (o := .obj (rcObj x)) hq).1
  refine x2a2 (fn71 B.w.params) fun o71 fd h71 hfd => ?_
  unfold borrowsExactly
  refine wpAny_bind (wpAny_load ho ?_)
  dsimp only [rcObj]
  rw [if_pos (by decide)]
  refine wpAny_bind (wpAny_load (S.KIn h71) ?_)
  rw [hfd]
  exact wpAny_pure h
/-- one more of the iterator that calls self._read_char -/
theorem r_next_ci {I q x : Addr} {t : Tok} {Q : Option Value → Shared → Prop} (S : St B σ s) (hh : A.handled = none) (hI : (I, VO.obj (ciObj q t)) ∈ σ) (hq : (q, VO.obj (rcObj x)) ∈ σ)
    (h : codeAny (model prog B.w) A.in1 (.call (.ref 71) ⟨[.ref x], []⟩) (fun r s' => ∃ c u σ', r = .ok (.ret (.str c u)) ∧ St B σ' s' ∧ (I, VO.obj (ciObj q t)) ∈ σ' ∧ (q, VO.obj (rcObj x)) ∈ σ' ∧
      ((c ≠ Str.ofString "" ∧ Q (some (.str c u)) s') ∨ (c = Str.ofString "" ∧ ∃ σ'', Upd I (.obj (ciObj q t)) (.obj ciEnd) σ' σ'' ∧ ∀ s'', St B σ'' s'' → Q none s''))) s) :
    wpAny (model prog B.w) A (pyNext (.ref I)) Q E s := by
  have ho := (S.at (o := .obj (ciObj q t)) hI).1
  have hqo := (S.at (o := .obj (rcObj x)) hq).1
  have hT : s.TypeIs (.ref I) "callable_iterator" := ⟨_, ho, rfl⟩
  unfold pyNext
  refine wpAny_bind (wpAny_attempt (wpAny_callSpecial?_slot (name := Str.ofString "__next__") hT slot_ci_next
    (wpAny_call_entry slot_ci_next hT entry_ci_next ?_ (args_ci_next _))))
  show wpAny _ _ (field (.ref I) 2 >>= _) _ _ s
  refine wpAny_bind (wpAny_field ho rfl (x := .bool false) rfl ?_)
  refine wpAny_ite_split (fun hab => absurd hab (by decide)) (fun _ => ?_)
  show wpAny _ _ (field (.ref I) 0 >>= _) _ _ s
  refine wpAny_bind (wpAny_field ho rfl (x := .ref q) rfl ?_)
  refine wpAny_bind (wpAny_attempt (wpAny_bind (borrows_rc S hq ?_)))
  rw [if_pos rfl]
  refine wpAny_callBorrowed (method_call hqo (codeAny_mono h fun r s' hr => ?_))
  refine x3a5 hr fun c u σ' qz413 S' hI' hq' hc => ?_; clear hr; subst qz413
  have ho' := (S'.at (o := .obj (ciObj q t)) hI').1
  refine k1a2 _ rfl ?_
  dsimp only
  refine wpAny_bind (wpAny_field ho' rfl (x := .bool false) rfl ?_)
  refine wpAny_ite_split (fun hab => absurd hab (by decide)) (fun _ => ?_)
  show wpAny _ _ (field (.ref I) 1 >>= _) _ _ s'
  refine wpAny_bind (wpAny_field ho' rfl (x := .str (Str.ofString "") t) rfl (wpAny_bind (wpAny_holding (eqBool_str ?_))))
  rcases hc with ⟨hne, hq⟩ | ⟨rfl, σ'', up, hq⟩
  · rw [if_pos (by simpa using fun e => hne e.symm)]
    exact wpAny_pure ⟨_, rfl, wpAny_pure hq⟩
  · rw [if_neg (by simp)]
    refine wpAny_bind (wpAny_rule ?_)
    refine wpAny_bind (?_ : wpAny _ _ (field (.ref I) 0 >>= fun old => slotLetsGo "callable_iterator.__next__" old _ >>= fun _ => setField (.ref I) 0 .none >>= fun _ => setField (.ref I) 1 .none >>= fun _ => setField (.ref I) 2 (.bool true)) _ _ _)
    refine wpAny_bind (wpAny_field ho' rfl (x := .ref q) rfl ?_)
    refine wpAny_bind (?_ : wpAny _ _ (borrowsExactly (.ref q) >>= fun b => if b = true then pure () else _) _ _ _)
    refine wpAny_bind (borrows_rc S' hq' ?_)
    rw [if_pos rfl]
    refine wpAny_pure ?_
    have z3 : ∀ a b c : Value, (#[a, b, c] : Array Value).size = 3 := fun _ _ _ => rfl
    have g1 : Heap.get? (s'.heap.update I (Obj.mapFields (·.setIfInBounds 0 .none))) I = some { cls := .type "callable_iterator", data := .fields #[.none, .str (Str.ofString "") t, .bool false] } := Heap.get?_update_self _ ho' rfl
    refine wpAny_bind (wpAny_setField ho' rfl (by rw [z3]; decide) ?_)
    have g2 : Heap.get? ((s'.heap.update I (Obj.mapFields (·.setIfInBounds 0 .none))).update I (Obj.mapFields (·.setIfInBounds 1 .none))) I = some { cls := .type "callable_iterator", data := .fields #[.none, .none, .bool false] } := Heap.get?_update_self _ g1 rfl
    refine wpAny_bind (wpAny_setField g1 rfl (by rw [z3]; decide) ?_)
    have g3 : Heap.get? (((s'.heap.update I (Obj.mapFields (·.setIfInBounds 0 .none))).update I (Obj.mapFields (·.setIfInBounds 1 .none))).update I (Obj.mapFields (·.setIfInBounds 2 (.bool true)))) I = some ciEnd := Heap.get?_update_self _ g2 rfl
    refine wpAny_setField g2 rfl (by rw [z3]; decide) ?_
    have e3 : Heap.ExtBut I s'.heap (((s'.heap.update I (Obj.mapFields (·.setIfInBounds 0 .none))).update I (Obj.mapFields (·.setIfInBounds 1 .none))).update I (Obj.mapFields (·.setIfInBounds 2 (.bool true)))) := fun b o hb e =>
      (Heap.SameBut.update (Heap.update (Heap.update s'.heap I _) I _) I _).extBut b o hb ((Heap.SameBut.update (Heap.update s'.heap I _) I _).extBut b o hb ((Heap.SameBut.update s'.heap I _).extBut b o hb e))
    have S3 := S'.upd up rfl e3 s'.toks ⟨g3, ne_tup (by decide)⟩
    exact stop_here (A := A.in1) hh fun h' hk => hq _ (S3.grow (h' := h') hk s'.toks (Nat.le_refl _))
theorem r_next_ciEnd {I : Addr} {Q : Option Value → Shared → Prop} (S : St B σ s) (hh : A.handled = none) (hI : (I, VO.obj ciEnd) ∈ σ) (h : ∀ s', St B σ s' → Q none s') :
    wpAny (model prog B.w) A (pyNext (.ref I)) Q E s := by
  have ho := (S.at (o := .obj ciEnd) hI).1
  have hT : s.TypeIs (.ref I) "callable_iterator" := ⟨_, ho, rfl⟩
  unfold pyNext
  refine wpAny_bind (wpAny_attempt (wpAny_callSpecial?_slot (name := Str.ofString "__next__") hT slot_ci_next
    (wpAny_call_entry slot_ci_next hT entry_ci_next ?_ (args_ci_next _))))
  show wpAny _ _ (field (.ref I) 2 >>= _) _ _ s
  refine wpAny_bind (wpAny_field ho rfl (x := .bool true) rfl ?_)
  refine wpAny_ite_split (fun _ => ?_) (fun hab => absurd rfl hab)
  refine wpAny_bind (wpAny_rule (wpAny_bind ?_))
  exact stop_here (A := A.in1) hh fun h' hk => h _ (S.grow (h' := h') hk s.toks (Nat.le_refl _))
end
end
section
theorem put_there {x : Str} {v : MV} {a : Str} {b : MV} {r r' : List (Str × MV)} (u : Put x v r r') (h : (a == x) = false) : Put x v ((a,b)::r) ((a,b)::r') := .there (fun e => by rw [show a = x from e] at h; simp at h) u
theorem kt_t1 (p : Params) : takerIn (KT p) 88 "lineno" = some none := by kernel_rfl!
theorem kt_f71 (p : Params) : typeIn (KT p) (.ref 71) = some (.type "function") := by kernel_rfl!
theorem kt_f78 (p : Params) : typeIn (KT p) (.ref 78) = some (.type "function") := by kernel_rfl!
theorem kt_f85 (p : Params) : typeIn (KT p) (.ref 85) = some (.type "function") := by kernel_rfl!
section
variable {B : Base} {σ σ' : Led} {s : Shared} {prog : Program} {A : Around} {E : Value → Shared → Prop} {env : Env} {ln gn : List Str} {cs : List (Str × Addr)} {k : Nat}
theorem r_setattr_int {x dx : Addr} {m m' : List (Str × MV)} {name : Str} {i : Int} {t : Tok} {Q : Unit → Shared → Prop} (S : St B σ s) (hx : (x, VO.obj (instObj 88 dx)) ∈ σ) (u : Upd dx (.ins m) (.ins m') σ σ') (hp : Put name (.sc (.int i)) m m')
    (ht : takerIn (KT B.w.params) 88 name = some none) (hsz : m.length ≤ 100) (h : ∀ s', St B σ' s' → Q () s') : wpAny (model prog B.w) A (setAttr (.ref x) name (.int i t)) Q E s := r_setattr S hx u hp ht hsz (show MV.Is s.heap (.sc (.int i)) (.int i t) from ⟨t, rfl⟩) h
theorem r_setattr_str {x dx : Addr} {m m' : List (Str × MV)} {name : Str} {i : Str} {t : Tok} {Q : Unit → Shared → Prop} (S : St B σ s) (hx : (x, VO.obj (instObj 88 dx)) ∈ σ) (u : Upd dx (.ins m) (.ins m') σ σ') (hp : Put name (.sc (.str i)) m m')
    (ht : takerIn (KT B.w.params) 88 name = some none) (hsz : m.length ≤ 100) (h : ∀ s', St B σ' s' → Q () s') : wpAny (model prog B.w) A (setAttr (.ref x) name (.str i t)) Q E s := r_setattr S hx u hp ht hsz (show MV.Is s.heap (.sc (.str i)) (.str i t) from ⟨t, rfl⟩) h
theorem r_setattr_ref {x dx a : Addr} {m m' : List (Str × MV)} {name : Str} {Q : Unit → Shared → Prop} (S : St B σ s) (hx : (x, VO.obj (instObj 88 dx)) ∈ σ) (u : Upd dx (.ins m) (.ins m') σ σ') (hp : Put name (.val (.ref a)) m m')
    (ht : takerIn (KT B.w.params) 88 name = some none) (hsz : m.length ≤ 100) (h : ∀ s', St B σ' s' → Q () s') : wpAny (model prog B.w) A (setAttr (.ref x) name (.ref a)) Q E s := r_setattr S hx u hp ht hsz (show MV.Is s.heap (.val (.ref a)) (.ref a) from rfl) h
theorem r_getattr_int {x dx : Addr} {m : List (Str × MV)} {name : Str} {i : Int} {expr : Bool} {Q : Value → Shared → Prop} (S : St B σ s) (hx : (x, VO.obj (instObj 88 dx)) ∈ σ) (hd : (dx, VO.ins m) ∈ σ) (hm : (name, MV.sc (.int i)) ∈ m)
    (hc : findIn (KT B.w.params) (.ref 88) name = some none) (h : ∀ t s', St B σ s' → Q (.int i t) s') : wpAny (model prog B.w) A (getAttr (.ref x) name expr) Q E s := r_getattr S hx hd hm hc hand_int fun _ s' ⟨t, e⟩ S' => e ▸ h t s' S'
theorem r_getattr_str {x dx : Addr} {m : List (Str × MV)} {name : Str} {i : Str} {expr : Bool} {Q : Value → Shared → Prop} (S : St B σ s) (hx : (x, VO.obj (instObj 88 dx)) ∈ σ) (hd : (dx, VO.ins m) ∈ σ) (hm : (name, MV.sc (.str i)) ∈ m)
    (hc : findIn (KT B.w.params) (.ref 88) name = some none) (h : ∀ t s', St B σ s' → Q (.str i t) s') : wpAny (model prog B.w) A (getAttr (.ref x) name expr) Q E s := r_getattr S hx hd hm hc hand_str fun _ s' ⟨t, e⟩ S' => e ▸ h t s' S'
theorem r_getattr_ref {x dx a : Addr} {m : List (Str × MV)} {name : Str} {expr : Bool} {Q : Value → Shared → Prop} (S : St B σ s) (hx : (x, VO.obj (instObj 88 dx)) ∈ σ) (hd : (dx, VO.ins m) ∈ σ) (hm : (name, MV.val (.ref a)) ∈ m)
    (hc : findIn (KT B.w.params) (.ref 88) name = some none) (h : ∀ s', St B σ s' → Q (.ref a) s') : wpAny (model prog B.w) A (getAttr (.ref x) name expr) Q E s := r_getattr S hx hd hm hc hand_ref fun _ s' e S' => e ▸ h s' S'
theorem imeth_intro {x dx : Addr} {name : Str} {m : List (Str × MV)} {P : Addr → Prop} (q_S : St B σ s) (q_x : (x, VO.obj (instObj 88 dx)) ∈ σ) (q_d : (dx, VO.ins m) ∈ σ) (q_n : name ∉ m.map (·.1)) (h : P x) :
    ∃ x' dx m σ', Value.ref x = .ref x' ∧ St B σ' s ∧ (x', VO.obj (instObj 88 dx)) ∈ σ' ∧ (dx, VO.ins m) ∈ σ' ∧ name ∉ m.map (·.1) ∧ P x' := ⟨x, dx, m, σ, rfl, q_S, q_x, q_d, q_n, h⟩
section
variable {o : Expr} {apos pos : Pos} {args : List Expr} {Q : Value → Shared → Prop}
theorem r_m_rc (hbase : attributeBase o "_read_char" env (eval o env) = eval o env) (hplain : (backTo pos (starEach args env)).any (·.1) = false)
    (hfew : ((backTo pos (starEach args env)).all (fun x => !x.1) && (backToKw pos (keywordEach [] env)).all (fun x => x.1.isSome) && decide (args.length + ([] : List Keyword).length + (if ([] : List Keyword).isEmpty then 0 else 1) < 30)) = true)
    (hline : (apos.endLine == pos.line) = true)
    (h : wpAny (model prog B.w) A (eval o env) (fun ov s₁ => ∃ x dx m σ', ov = .ref x ∧ St B σ' s₁ ∧ (x, VO.obj (instObj 88 dx)) ∈ σ' ∧ (dx, VO.ins m) ∈ σ' ∧ ("_read_char" : Str) ∉ m.map (·.1) ∧
      wpAny (model prog B.w) A (spliced (backTo pos (starEach args env))) (fun vs s₂ => (∃ σ'', St B σ'' s₂) ∧ wpAny (model prog B.w) A (call (.ref 71) (.ref x :: vs)) Q E s₂) E s₁) E s) :
    wpAny (model prog B.w) A (eval (.Call (.Attribute o "_read_char" apos) args [] pos) env) Q E s := r_imeth hbase hplain hfew hline (kt_read_char _) (kt_f71 _) rfl rfl (by decide) h
theorem r_m_gt (hbase : attributeBase o "get_token" env (eval o env) = eval o env) (hplain : (backTo pos (starEach args env)).any (·.1) = false)
    (hfew : ((backTo pos (starEach args env)).all (fun x => !x.1) && (backToKw pos (keywordEach [] env)).all (fun x => x.1.isSome) && decide (args.length + ([] : List Keyword).length + (if ([] : List Keyword).isEmpty then 0 else 1) < 30)) = true)
    (hline : (apos.endLine == pos.line) = true)
    (h : wpAny (model prog B.w) A (eval o env) (fun ov s₁ => ∃ x dx m σ', ov = .ref x ∧ St B σ' s₁ ∧ (x, VO.obj (instObj 88 dx)) ∈ σ' ∧ (dx, VO.ins m) ∈ σ' ∧ ("get_token" : Str) ∉ m.map (·.1) ∧
      wpAny (model prog B.w) A (spliced (backTo pos (starEach args env))) (fun vs s₂ => (∃ σ'', St B σ'' s₂) ∧ wpAny (model prog B.w) A (call (.ref 78) (.ref x :: vs)) Q E s₂) E s₁) E s) :
    wpAny (model prog B.w) A (eval (.Call (.Attribute o "get_token" apos) args [] pos) env) Q E s := r_imeth hbase hplain hfew hline (kt_get _) (kt_f78 _) rfl rfl (by decide) h
theorem r_m_pt (hbase : attributeBase o "push_token" env (eval o env) = eval o env) (hplain : (backTo pos (starEach args env)).any (·.1) = false)
    (hfew : ((backTo pos (starEach args env)).all (fun x => !x.1) && (backToKw pos (keywordEach [] env)).all (fun x => x.1.isSome) && decide (args.length + ([] : List Keyword).length + (if ([] : List Keyword).isEmpty then 0 else 1) < 30)) = true)
    (hline : (apos.endLine == pos.line) = true)
    (h : wpAny (model prog B.w) A (eval o env) (fun ov s₁ => ∃ x dx m σ', ov = .ref x ∧ St B σ' s₁ ∧ (x, VO.obj (instObj 88 dx)) ∈ σ' ∧ (dx, VO.ins m) ∈ σ' ∧ ("push_token" : Str) ∉ m.map (·.1) ∧
      wpAny (model prog B.w) A (spliced (backTo pos (starEach args env))) (fun vs s₂ => (∃ σ'', St B σ'' s₂) ∧ wpAny (model prog B.w) A (call (.ref 85) (.ref x :: vs)) Q E s₂) E s₁) E s) :
    wpAny (model prog B.w) A (eval (.Call (.Attribute o "push_token" apos) args [] pos) env) Q E s := r_imeth hbase hplain hfew hline (kt_push _) (kt_f85 _) rfl rfl (by decide) h
/-- a value of the object's own, called -/
theorem r_m_read (hbase : attributeBase o "read" env (eval o env) = eval o env) (hplain : (backTo pos (starEach args env)).any (·.1) = false)
    (hfew : ((backTo pos (starEach args env)).all (fun x => !x.1) && (backToKw pos (keywordEach [] env)).all (fun x => x.1.isSome) && decide (args.length + ([] : List Keyword).length + (if ([] : List Keyword).isEmpty then 0 else 1) < 30)) = true)
    (hline : (apos.endLine == pos.line) = true)
    (h : wpAny (model prog B.w) A (eval o env) (fun ov s₁ => ∃ y dy lam lo fd m σ', ov = .ref y ∧ St B σ' s₁ ∧ (y, VO.obj (instObj 88 dy)) ∈ σ' ∧ (dy, VO.ins m) ∈ σ' ∧ (("read" : Str), MV.ref lam) ∈ m ∧ lo.data = .func fd ∧ ∀ s₁', St B σ' s₁' → 
      wpAny (model prog B.w) A (spliced (backTo pos (starEach args env))) (fun vs s₂ => (∃ σ'', St B σ'' s₂ ∧ (lam, VO.obj lo) ∈ σ'') ∧ wpAny (model prog B.w) A (call (.ref lam) vs) Q E s₂) E s₁') E s) :
    wpAny (model prog B.w) A (eval (.Call (.Attribute o "read" apos) args [] pos) env) Q E s := by
  rw [arm_eval_Call, hbase]
  refine wpAny_bind (wpAny_mono h (fun ov s₁ h₁ => ?_) fun _ _ e => e)
  refine x7a7 h₁ fun y dy lam lo fd m σ' qz017 S hy hd hm hfd hc => ?_; clear h₁; subst qz017
  refine wpAny_bind (wpAny_standAt ?_)
  have hform : methodCallForm (args.length + ([] : List Keyword).length) (backTo pos (starEach args env)) (backToKw pos (keywordEach [] env)) = true := hfew
  have hpos : methodCallPos true o env apos pos = pure pos := by unfold methodCallPos; simp [hline]
  refine x1a3 (S.inst hy hd) fun od I h1 h2 => ?_
  unfold methodCall
  rw [hform]
  refine wpAny_bind (wpAny_holding (method_usual S.KTIn I (kt_ga _) (kt_gt _) (kt_none5 _) rfl (r_getattr_ref S hy hd hm (kt_none5 _) fun s₁' S₁' => ?_)))
  refine wpAny_bind (wpAny_of_eq hpos (Calls.callWith_function (o := lo) (fd := fd) (evalArgs_of hplain (wpAny_mono (hc s₁' S₁') (fun vs s₂ h₂ => ?_) fun _ _ e => e))))
  refine x0a2 h₂ fun oy210 h₂ => ?_; refine x1a2 oy210 fun σ'' S' hl => ?_; clear oy210
  exact ⟨⟨(S'.at (o := .obj lo) hl).1, hfd⟩, h₂⟩
end
end
end
section
noncomputable abbrev wsp : Str := Str.ofString "\n\t\x0d "
section
variable {B : Base} {σ σ' : Led} {s : Shared} {prog : Program} {A : Around} {E : Value → Shared → Prop} {env : Env} {ln gn : List Str} {cs : List (Str × Addr)} {k : Nat}
theorem St.KKIn (S : St B σ s) : (KK B.w.params).In s.heap := fun b o e => S.KIn e (fun q => by subst q; exact absurd e (by rw [show (KK B.w.params).lookup tabA = none from rfl]; exact fun e => nomatch e))
theorem cd64 {p : Params} {h : Heap} (X : (KK p).In h) : h.CodeRec (.ref 63) "_netrclex.__init__" := codeRec_of X (by kernel_rfl!)
theorem cd71 {p : Params} {h : Heap} (X : (KK p).In h) : h.CodeRec (.ref 70) "_netrclex._read_char" := codeRec_of X (by kernel_rfl!)
theorem cd78 {p : Params} {h : Heap} (X : (KK p).In h) : h.CodeRec (.ref 77) "_netrclex.get_token" := codeRec_of X (by kernel_rfl!)
theorem cd85 {p : Params} {h : Heap} (X : (KK p).In h) : h.CodeRec (.ref 84) "_netrclex.push_token" := codeRec_of X (by kernel_rfl!)
noncomputable def bring : Nat → Led → Led
  | 0, l => l
  | _ + 1, [] => []
  | n + 1, a :: l => match bring n l with
    | [] => [a]
    | b :: r => b :: a :: r
theorem bring_perm : ∀ (n : Nat) (l : Led), (bring n l).Perm l
  | 0, _ => .refl _
  | _ + 1, [] => .refl _
  | n + 1, a :: l => by
    have ih := bring_perm n l
    unfold bring
    cases h : bring n l with
    | nil => rw [h] at ih; simpa [List.nil_perm.mp ih] using List.Perm.refl _
    | cons b r => rw [h] at ih; exact (List.Perm.swap a b r).trans (.cons a ih)
theorem St.bring (S : St B σ s) (n : Nat) : St B (bring n σ) s := S.perm (bring_perm n σ)
theorem make_spec {v : Value} {Q : Value → Shared → Prop} (S : St B σ s) (hA : Ok A (k + 2))
    (h : ∀ x dx pb s', St B ((pb, .list []) :: (x, .obj (instObj 88 dx)) :: (dx, .ins [("lineno", .int 1), ("instream", .val v), ("whitespace", .str wsp), ("pushback", .ref pb)]) :: σ) s' → Q (.ref x) s') :
    wpAny (model prog B.w) A (call (.ref 88) [v]) Q E s := by
  refine r_make S fun x dx s1 S1 => ?_
  refine' r_callX (ln := ["self", "fp"]) (gn := []) (mvs := [.ref x, .val v]) (ps := ["self", "fp"]) (ns := [("self", some (.ref x)), ("fp", some (.val v))]) S1 hA.typeCall (S1.KIn (a := 64) rfl) rfl ⟨rfl, rfl, rfl, rfl⟩ (cd64 S1.KKIn) (.cons rfl (.cons rfl .nil)) ?f2 ?f3 ?f4 ?_
  case f2 => kernel_rfl!
  case f3 => exact all2 fun _ _ => rfl
  case f4 => (refine ⟨rfl, by decide +kernel, by decide +kernel, by decide +kernel, by decide +kernel, by decide +kernel, by decide +kernel, by decide +kernel, rfl, rfl⟩)
  intro env s2 hE S2 hA2
  with_reducible refine wpAny_execs_cons ?_
  with_reducible refine plainObj_wpAny_Assign_Attribute ?_ rfl
  with_reducible refine r_int ‹_› fun _ _ _ => ?_
  with_reducible refine r_local_val ‹_› ‹_› me0 me0 me0 ?_
  with_reducible refine r_setattr_int ‹_› me1 up2 (by with_reducible exact .last) (kt_t1 _) (by simp only [List.length_cons, List.length_nil]; lia) fun _ _ => ?_
  with_reducible refine wpAny_execs_cons ?_
  with_reducible refine plainObj_wpAny_Assign_Attribute ?_ rfl
  with_reducible refine r_local_val ‹_› ‹_› me1 me0 me1 ?_
  with_reducible refine r_local_val ‹_› ‹_› me0 me0 me0 ?_
  refine' r_setattr (mv := .val v) ?q_S ?q_x ?q_u ?q_p ?q_t ?q_z rfl ?_
  case q_S => assumption
  case q_x => exact me1
  case q_u => exact up2
  case q_p => with_reducible exact put_there .last (by decide +kernel)
  case q_t => exact kt_t1 _
  case q_z => simp
  intro s3 S3
  with_reducible refine wpAny_execs_cons ?_
  with_reducible refine plainObj_wpAny_Assign_Attribute ?_ rfl
  with_reducible refine r_str ‹_› fun _ _ _ => ?_
  with_reducible refine r_local_val ‹_› ‹_› me0 me0 me0 ?_
  with_reducible refine r_setattr_str ‹_› me1 up2 (by with_reducible exact put_there (put_there .last (by decide +kernel)) (by decide +kernel)) (kt_t1 _) (by simp only [List.length_cons, List.length_nil]; lia) fun _ _ => ?_
  with_reducible refine execs_one ?_
  with_reducible refine plainObj_wpAny_Assign_Attribute ?_ rfl
  with_reducible refine r_list_lit ?_
  with_reducible refine wpAny_items_nil ?_
  with_reducible refine lit_intro szA ‹_› (by with_reducible exact .nil) fun _ _ _ => ?_
  with_reducible refine r_local_val ‹_› ‹_› me0 me1 me0 ?_
  with_reducible refine r_setattr_ref ‹_› me2 up3 (by with_reducible exact put_there (put_there (put_there .last (by decide +kernel)) (by decide +kernel)) (by decide +kernel)) (kt_t1 _) (by simp only [List.length_cons, List.length_nil]; lia) fun _ _ => ?_
  refine ⟨rfl, ?_⟩
  exact h x dx _ _ (St.drop ‹_› (.cons_cons _ (List.sublist_cons_self _ _)))
noncomputable def sg (c : Nat) : MV := .str ⟨#[c]⟩
structure LexA where
  (x dx pb y dy lam c l pb0 cd : Addr)
  (lo : Obj)
  (q : Str)
noncomputable def lexLed (a : LexA) (T : Int) (r : List Nat) (push : List Str) : Led :=
  [(a.x, .obj (instObj 88 a.dx)), (a.dx, .ins [("lineno", .int (T - (r.count 10 : Nat))), ("instream", .ref a.y), ("whitespace", .str wsp), ("pushback", .ref a.pb)]), (a.pb, .list (push.map MV.str)),
   (a.y, .obj (instObj 88 a.dy)), (a.dy, .ins [("lineno", .int 1), ("instream", .val .none), ("whitespace", .str wsp), ("pushback", .ref a.pb0), ("read", .ref a.lam)]),
   (a.lam, .obj a.lo), (a.cd, .code a.q), (a.c, .cell (some (.ref a.l))), (a.l, .list (r.map sg))]
/-- what a call of the lambda does -/
noncomputable def LamOk (B : Base) (prog : Program) (a : LexA) : Prop := (∃ fd, a.lo.data = .func fd) ∧ ∀ {A : Around} {E : Value → Shared → Prop} {Q : Value → Shared → Prop} {k : Nat} {σ : Led} {s : Shared} {r : List Nat} {t : Tok}, Ok A (k + 1) → r.length < 10000 →
  St B ((a.lam, .obj a.lo) :: (a.cd, .code a.q) :: (a.c, .cell (some (.ref a.l))) :: (a.l, .list (r.map sg)) :: σ) s →
  (∀ c r' t s', r = c :: r' → St B ((a.lam, .obj a.lo) :: (a.cd, .code a.q) :: (a.c, .cell (some (.ref a.l))) :: (a.l, .list (r'.map sg)) :: σ) s' → Q (.str ⟨#[c]⟩ t) s') →
  (∀ t s', r = [] → St B ((a.lam, .obj a.lo) :: (a.cd, .code a.q) :: (a.c, .cell (some (.ref a.l))) :: (a.l, .list (r.map sg)) :: σ) s' → Q (.str (Str.ofString "") t) s') →
  wpAny (model prog B.w) A (call (.ref a.lam) [.int 1 t]) Q E s
theorem count_step (T : Int) (c : Nat) (r : List Nat) (h : c = 10) : T - ((c :: r).count 10 : Nat) + 1 = T - (r.count 10 : Nat) := by
  subst h; rw [List.count_cons_self]; lia
theorem count_same (T : Int) (c : Nat) (r : List Nat) (h : c ≠ 10) : T - ((c :: r).count 10 : Nat) = T - (r.count 10 : Nat) := by
  rw [List.count_cons_of_ne h]
theorem one_eq (c : Nat) (d : Nat) : ((⟨#[c]⟩ : Str) == ⟨#[d]⟩) = decide (c = d) := by
  by_cases h : c = d
  · subst h; simp
  · rw [decide_eq_false h, beq_eq_false_iff_ne]
    intro e; apply h
    have := congrArg (fun x : Str => x.cps[0]?) e
    simpa using this
theorem emp_ne (c : Nat) : ((⟨#[c]⟩ : Str) == Str.ofString "") = false := by
  rw [beq_eq_false_iff_ne]
  intro e
  have := congrArg (fun x : Str => x.length) e
  rw [len_one, len_emp] at this; cases this
theorem s_nl : Str.ofString "\n" = ⟨#[10]⟩ := by decide +kernel
theorem s_q : Str.ofString "\"" = ⟨#[34]⟩ := by decide +kernel
theorem s_bs : Str.ofString "\\" = ⟨#[92]⟩ := by decide +kernel
theorem eq_nl (c : Nat) : ((⟨#[c]⟩ : Str) == Str.ofString "\n") = decide (c = 10) := by rw [s_nl]; exact one_eq c 10
theorem eq_q (c : Nat) : ((⟨#[c]⟩ : Str) == Str.ofString "\"") = decide (c = 34) := by rw [s_q]; exact one_eq c 34
theorem eq_bs (c : Nat) : ((⟨#[c]⟩ : Str) == Str.ofString "\\") = decide (c = 92) := by rw [s_bs]; exact one_eq c 92
theorem emp_nl : (Str.ofString "" == Str.ofString "\n") = false := by decide +kernel
theorem read_char_spec {a : LexA} {T : Int} {r : List Nat} {push : List Str} {R : Result → Shared → Prop} (S : St B (lexLed a T r push ++ σ) s) (hL : LamOk B prog a) (hA : Ok A (k + 2)) (hr : r.length < 10000)
    (h1 : ∀ c r' t s', r = c :: r' → St B (lexLed a T r' push ++ σ) s' → R (.ok (.ret (.str ⟨#[c]⟩ t))) s')
    (h2 : ∀ t s', r = [] → St B (lexLed a T r push ++ σ) s' → R (.ok (.ret (.str (Str.ofString "") t))) s') :
    codeAny (model prog B.w) A (.call (.ref 71) ⟨[.ref a.x], []⟩) R s := by
  refine' r_callX (ln := ["self", "ch"]) (gn := []) (mvs := [.ref a.x]) (ps := ["self"]) (ns := [("self", some (.ref a.x)), ("ch", none)]) S hA (S.KIn (a := 71) rfl) rfl ⟨rfl, rfl, rfl, rfl⟩ (cd71 S.KKIn) (.cons rfl .nil) ?f2 ?f3 ?f4 ?_
  case f2 => kernel_rfl!
  case f3 => exact all1 fun _ => rfl
  case f4 => (refine ⟨rfl, by decide +kernel, by decide +kernel, by decide +kernel, by decide +kernel, by decide +kernel, by decide +kernel, by decide +kernel, rfl, rfl⟩)
  intro env s2 hE S2 hA2
  dsimp only [lexLed, List.cons_append, List.nil_append] at S2
  with_reducible refine wpAny_execs_cons ?_
  with_reducible refine wpAny_Assign_Name ?_ rfl
  with_reducible refine r_m_read rfl rfl rfl rfl ?_
  with_reducible refine Attribute_name ?_
  with_reducible refine r_local_val ‹_› ‹_› me0 me0 me0 ?_
  with_reducible refine r_getattr_ref ‹_› me1 me2 me1 (kt_none2 _) fun _ _ => ?_
  obtain ⟨⟨fd, hfd⟩, hcall⟩ := hL
  refine k7a7 a.y a.dy a.lam a.lo fd _ _ rfl ‹_› (by exact me4) (by exact me5) (by exact me4) hfd (fun s3 S3 => ?_)
  with_reducible refine items_one ?_ rfl
  with_reducible refine r_int ‹_› fun _ _ _ => ?_
  refine ⟨(k1a2 _ ‹_› (by exact me6)), ?_⟩
  rename_i S4
  refine hcall (σ := [(env.locals, _), (a.x, _), (a.dx, _), (a.pb, _), (a.y, _), (a.dy, _)] ++ σ) hA2 hr (St.perm S4 (List.perm_append_comm_assoc [_, _, _, _] [_, _, _, _, _, _] σ)) (fun c r' t s5 hc S5 => ?_) (fun t s5 hc S5 => ?_)
  · have S6 := St.perm S5 (List.perm_append_comm_assoc [_, _, _, _, _, _] [_, _, _, _] σ)
    clear S5 S4 S3 S2
    dsimp only [List.cons_append, List.nil_append] at S6
    subst hc
    with_reducible refine r_store_str ‹_› ‹_› me1 up0 un1 fun _ _ => ?_
    with_reducible refine wpAny_execs_cons ?_
    with_reducible refine wpAny_If ?_
    with_reducible refine r_cmps ‹_› ‹_› (.loc me1 me0 me1) .con (fun _ _ _ _ => ?_) (by with_unfolding_all rfl)
    with_reducible refine PyProof.Rows.eq_str ?_
    with_reducible refine wpAny_truthy_bool ?_
    rw [eq_nl]
    by_cases h10 : c = 10
    · rw [if_pos (by simpa using h10)]
      with_reducible refine execs_one ?_
      with_reducible refine wpAny_AugAssign_AttributeAny ?_
      with_reducible refine r_local_val ‹_› ‹_› me0 me0 me0 ?_
      with_reducible refine r_getattr_int ‹_› me1 me2 me0 (kt_none1 _) fun _ _ _ => ?_
      with_reducible refine r_int ‹_› fun _ _ _ => ?_
      with_reducible refine r_iadd ‹_› fun _ _ _ => ?_
      with_reducible refine r_setattr_int ‹_› me1 up2 (by with_reducible exact .here) (kt_t1 _) (by simp only [List.length_cons, List.length_nil]; lia) fun _ _ => ?_
      with_reducible refine execs_one ?_
      with_reducible refine wpAny_Return_some ?_
      with_reducible refine r_local_str ‹_› ‹_› me1 me0 me1 fun _ => ?_
      simp only [count_step T c r' h10] at *
      exact h1 c r' _ _ rfl (St.drop ‹_› (List.sublist_cons_self _ _))
    · rw [if_neg (by simpa using h10)]
      with_reducible refine wpAny_execs_nil ?_
      with_reducible refine execs_one ?_
      with_reducible refine wpAny_Return_some ?_
      with_reducible refine r_local_str ‹_› ‹_› me1 me0 me1 fun _ => ?_
      simp only [count_same T c r' h10] at *
      exact h1 c r' _ _ rfl (St.drop ‹_› (List.sublist_cons_self _ _))
  · have S6 := St.perm S5 (List.perm_append_comm_assoc [_, _, _, _, _, _] [_, _, _, _] σ)
    clear S5 S4 S3 S2
    dsimp only [List.cons_append, List.nil_append] at S6
    with_reducible refine r_store_str ‹_› ‹_› me1 up0 un1 fun _ _ => ?_
    with_reducible refine wpAny_execs_cons ?_
    with_reducible refine wpAny_If ?_
    with_reducible refine r_cmps ‹_› ‹_› (.loc me1 me0 me1) .con (fun _ _ _ _ => ?_) (by with_unfolding_all rfl)
    with_reducible refine PyProof.Rows.eq_str ?_
    with_reducible refine wpAny_truthy_bool ?_
    rw [emp_nl, if_neg (by decide)]
    with_reducible refine wpAny_execs_nil ?_
    with_reducible refine execs_one ?_
    with_reducible refine wpAny_Return_some ?_
    with_reducible refine r_local_str ‹_› ‹_› me1 me0 me1 fun _ => ?_
    exact h2 _ _ hc (St.drop ‹_› (List.sublist_cons_self _ _))
end
end
section
section
variable {B : Base} {σ σ' : Led} {s : Shared} {prog : Program} {A : Around} {E : Value → Shared → Prop} {env : Env} {ln gn : List Str} {cs : List (Str × Addr)} {k : Nat}
theorem allmv_signs {h : Heap} {x : Str} {vs : List Value} (hi : ItemsOf (SignAt x) vs.toArray x.cps.size) : AllMV h (x.cps.toList.map sg) vs := by
  refine x0a2 hi fun hs hi => ?_
  have key : ∀ (cs : List Nat) (vs : List Value), cs.length = vs.length → (∀ (j : Nat) (v : Value), vs[j]? = some v → ∃ c u, cs[j]? = some c ∧ v = Value.str ⟨#[c]⟩ u) → AllMV h (cs.map sg) vs := by
    intro cs
    induction cs with
    | nil => intro vs hl _; cases vs with
      | nil => exact .nil
      | cons _ _ => cases hl
    | cons c r ih =>
      intro vs hl hv
      cases vs with
      | nil => cases hl
      | cons v ws =>
        refine x2a2 (hv 0 v rfl) fun c' u h1 h2 => ?_
        simp at h1; subst h1
        exact .cons ⟨u, h2⟩ (ih ws (by simpa using hl) fun j w hw => by simpa using hv (j + 1) w (by simpa using hw))
  exact key _ _ (by simpa using hs.symm) fun j v hj => by
    refine x2a2 (hi j v (by simpa using hj)) fun c u h1 h2 => ?_
    exact k2a2 c u (by simpa using h1) h2
theorem r_list_str {x : Str} {t : Tok} {Q : Value → Shared → Prop} (S : St B σ s) (hh : A.handled = none) (hn : x.length ≤ sizeLine) (h : ∀ l s', St B ((l, .list (x.cps.toList.map sg)) :: σ) s' → Q (.ref l) s') :
    wpAny (model prog B.w) A (call (.type "list") [.str x t]) Q E s := by
  refine wpAny_mono (wpAny_toks_of (n := s.toks) (Nat.le_refl _) (call_list_str (Q := fun v s' => ∃ h' tk acc' c', v = .ref s.heap.objs.size ∧ s' = { s with heap := h', toks := tk } ∧ (∀ b o, s.heap.get? b = some o → h'.get? b = some o) ∧
    h'.get? s.heap.objs.size = some { cls := .type "list", dict := none, data := .seq acc' c', slots := #[] } ∧ ItemsOf (SignAt x) acc' x.cps.size) hh x t (fun h' tk acc' c' hk hg hi => ⟨h', tk, acc', c', rfl, rfl, hk, hg, hi⟩) hn)) (fun v s' hq => ?_) fun _ _ x => x.2
  refine x0a2 hq fun htk oz31 => ?_; clear hq; refine x4a5 oz31 fun h' tk acc' c' qz324 qz325 hk hg hi => ?_; clear oz31; subst qz324; subst qz325
  have h0 : s.heap.get? s.heap.objs.size = none := by
    cases q : s.heap.get? s.heap.objs.size with
    | none => rfl
    | some o => exact absurd (Heap.lt_size q) (Nat.lt_irrefl _)
  exact h _ _ (S.new (o := .list (x.cps.toList.map sg)) hk tk h0 S.newAddr ⟨acc'.toList, c', hg, allmv_signs (by simpa using hi)⟩ htk)
theorem push_spec {a : LexA} {T : Int} {r : List Nat} {push : List Str} {y : Str} {t : Tok} {Q : Value → Shared → Prop} (S : St B (lexLed a T r push ++ σ) s) (hA : Ok A (k + 2)) (hp : push.length < 10000)
    (h : ∀ s', St B (lexLed a T r (push ++ [y]) ++ σ) s' → Q .none s') : wpAny (model prog B.w) A (call (.ref 85) [.ref a.x, .str y t]) Q E s := by
  refine wpAny_call ?_
  refine' r_callX (ln := ["self", "token"]) (gn := []) (mvs := [.ref a.x, .str y]) (ps := ["self", "token"]) (ns := [("self", some (.ref a.x)), ("token", some (.str y))]) S hA (S.KIn (a := 85) rfl) rfl ⟨rfl, rfl, rfl, rfl⟩ (cd85 S.KKIn) (.cons rfl (.cons ⟨t, rfl⟩ .nil)) ?f2 ?f3 ?f4 ?_
  case f2 => kernel_rfl!
  case f3 => exact all2 fun _ _ => rfl
  case f4 => (refine ⟨rfl, by decide +kernel, by decide +kernel, by decide +kernel, by decide +kernel, by decide +kernel, by decide +kernel, by decide +kernel, rfl, rfl⟩)
  intro env s2 hE S2 hA2
  simp only [lexLed, List.cons_append, List.nil_append] at S2
  with_reducible refine execs_oneH fun Jz hJz => ?_
  with_reducible refine r_expr ‹_› ?_ rfl
  with_reducible refine r_method rfl rfl rfl rfl ?_
  with_reducible refine Attribute_name ?_
  with_reducible refine r_local_val ‹_› ‹_› me0 me0 me0 ?_
  with_reducible refine r_getattr_ref ‹_› me1 me2 me3 (kt_none4 _) fun _ _ => ?_
  with_reducible refine mList PySem.F.slot_list_append PySem.F.type_list_append ‹_› me3 ?_
  with_reducible refine items_one ?_ rfl
  with_reducible refine r_local_str ‹_› ‹_› me1 me0 me1 fun _ => ?_
  with_reducible refine r_lappend_str ‹_› up3 szA fun _ _ => ?_
  with_reducible refine And.intro rfl ?_
  with_reducible refine Hb.go ‹_› ?_
  refine h _ ?_
  simp only [lexLed, List.cons_append, List.nil_append, List.map_append, List.map_cons, List.map_nil]
  exact St.drop ‹_› (List.sublist_cons_self _ _)
theorem lambda_rule {args : Arguments} {body : Expr} {scope : Scope} {pos : Pos} {cl : List (Str × Addr)} {Q : Value → Shared → Prop}
    (S : St B ((tabA, .obj (tabObj #[])) :: σ) s) (hE : EnvOk env ln cs gn) (hcode : env.code = .ref 98) (hdef : defaultsOf args env = ([], [])) (hcl : closureFor scope env = pure cl)
    (h : ∀ f c' ctv ps s', St B ((f, .obj (kla_obj "<lambda>" (env.qual ++ "<lambda>") args body scope cl ((B.mg "__name__").getD .none) c' ctv)) :: (c', .code (env.qual ++ "<lambda>")) :: (tabA, .obj (tabObj ps)) :: σ) s' → Q (.ref f) s') :
    wpAny (model prog B.w) A (eval (.Lambda args body scope pos) env) Q E s := by
  have hP := (S.at (o := .obj (tabObj #[])) (.head _)).1
  have C : CodeHd s.heap 98 94 := codeHd_of_K S.KKIn (by kernel_rfl!)
  have hb : s.heap.BuiltinsAt B.mg 94 := by
    refine x2a6 B.bm fun bm ob b1 b2 b3 b4 b5 b6 => ?_
    exact k2a6 bm ob b1 b2 b3 b4 (S.old _ _ b5 b4) b6
  refine kla_eval hdef ?_
  refine wpAny_mono (wpAny_toks_of (n := s.toks) (Nat.le_refl _) (kla_makeFunction (Q := fun v s' => ∃ c' ctv h' tk, Heap.ExtBut 94 s.heap h' ∧ s.heap.objs.size ≤ c' ∧ c' < h'.objs.size ∧ h'.CodeRec (.ref c') (env.qual ++ "<lambda>") ∧ h'.get? 94 = some (tabObj (#[] ++ #[rawInt pos.line, rawInt pos.col, .ref c'])) ∧
    v = .ref h'.objs.size ∧ s' = { s with heap := h'.push (kla_obj "<lambda>" (env.qual ++ "<lambda>") args body scope cl ((B.mg "__name__").getD .none) c' ctv), toks := tk })
    hcl hE.globals S.glob hcode C hP trivial rfl (by decide) hb fun c' ctv h' tk hx hge hlt hrec htb => ⟨c', ctv, h', tk, hx, hge, hlt, hrec, htb, rfl, rfl⟩)) (fun v s' hq => ?_) fun _ _ x => x.2
  refine x0a2 hq fun htk oz51 => ?_; clear hq; refine x4a7 oz51 fun c' ctv h' tk hx hge hlt hrec htb qz529 qz5210 => ?_; clear oz51; subst qz529; subst qz5210
  have S1 := S.upd (h' := h') (o' := .obj (tabObj (#[] ++ #[rawInt pos.line, rawInt pos.col, .ref c']))) .here rfl hx tk ⟨htb, fun e => nomatch e⟩ htk
  refine x4a4 hrec fun c₂ oc vs t e2 hoc hd hv => ?_; clear hrec
  cases e2
  have none_of : ∀ b, s.heap.objs.size ≤ b → s.heap.get? b = none := fun b hb => by
    cases q : s.heap.get? b with
    | none => rfl
    | some oo => exact absurd (Heap.lt_size q) (Nat.not_lt_of_le hb)
  have S2 : St B ((c', .code (env.qual ++ "<lambda>")) :: (tabA, .obj (tabObj (#[] ++ #[rawInt pos.line, rawInt pos.col, .ref c']))) :: σ) { s with heap := h', toks := tk } := by
    refine ⟨S1.old, fun p hp => ?_, fun p hp => ?_, ?_, S1.gens, S1.drawn, S1.os, S1.pos⟩
    · rcases List.mem_cons.mp hp with rfl | hp
      · skip
        exact k3a3 oc vs t hoc hd hv
      · exact S1.is p hp
    · rcases List.mem_cons.mp hp with rfl | hp
      · cases q : B.h.get? c' with
        | none => rfl
        | some oo =>
          have := S.old _ _ q (fun e => by rw [e] at q; rw [B.hid] at q; cases q)
          rw [none_of _ hge] at this; cases this
      · exact S1.fresh p hp
    · rw [List.map_cons, List.nodup_cons]
      refine ⟨fun hm => ?_, S1.nd⟩
      have hm : c' ∈ ((tabA, VO.obj (tabObj #[])) :: σ).map (·.1) := hm
      refine x1a2 (List.mem_map.mp hm) fun p hp q => ?_
      have i := S.is p hp
      have lt : ∀ {o : VO} {a : Addr}, o.Is s.heap a → s.heap.get? a ≠ none := by
        intro o a i hn
        cases o with
        | ns m => refine x1a2 i fun _ oy411 _ => ?_; clear i; obtain ⟨o, _, _, ho, _⟩ := oy411; rw [hn] at ho; cases ho
        | cell v => cases v with
          | none => refine x2a2 i fun _ o ho _ => ?_; clear i; rw [hn] at ho; cases ho
          | some mv => refine x1a2 i fun _ oy611 _ => ?_; clear i; obtain ⟨o, ho, _⟩ := oy611; rw [hn] at ho; cases ho
        | list xs => refine x2a2 i fun _ _ ho _ => ?_; clear i; have := hn.symm.trans ho; cases this
        | tuple cs => refine x2a2 i fun _ _ ho _ => ?_; clear i; have := hn.symm.trans ho; cases this
        | listIter l j => refine x1a2 i fun o ho _ => ?_; clear i; rw [hn] at ho; cases ho
        | rangeIter y l s => have i' : _ = _ := i; rw [hn] at i'; cases i'
        | strIter c y j => refine x0a2 i fun _ oz101 => ?_; clear i; refine x2a2 oz101 fun _ o ho _ => ?_; clear oz101; rw [hn] at ho; cases ho
        | obj o => have i' := i.1; rw [hn] at i'; cases i'
        | ins m => refine x1a2 i fun _ oy1111 _ => ?_; clear i; obtain ⟨o, _, _, ho, _⟩ := oy1111; rw [hn] at ho; cases ho
        | code q => refine x3a2 i fun _ _ _ ho _ => ?_; clear i; rw [hn] at ho; cases ho
        | prefs b c => have i' : _ = _ := i; rw [hn] at i'; cases i'
        | pairAny => refine x2a1 i fun _ _ i' => ?_; clear i; have i' : _ = _ := i'; rw [hn] at i'; cases i'
        | zipo TI TO => have i' : _ = _ := i; rw [hn] at i'; cases i'
      exact lt i (q ▸ none_of _ hge)
  exact h _ _ _ _ _ (S2.push (o := .obj _) tk ⟨Heap.get?_push_size _ rfl, ne_tup (by decide)⟩ (Nat.le_refl _))
theorem r_callK {p pos : Pos} {args : List Expr} {Q : Value → Shared → Prop} (q_S : St B σ s) (q_E : EnvOk env ln cs gn) (q_x : ("_netrclex" : Str) ∈ gn) (q_p : (backTo pos (starEach args env)).any (·.1) = false)
    (h : wpAny (model prog B.w) A (spliced (backTo pos (starEach args env))) (fun vs s₂ => (∃ σ', St B σ' s₂) ∧ wpAny (model prog B.w) A (call (.ref 88) vs) Q E s₂) E s) :
    wpAny (model prog B.w) A (eval (.Call (.Name "_netrclex" p) args [] pos) env) Q E s := by
  refine wpAny_Call_Name_kw (r_global q_S q_E q_x (gv_lex B) ?_)
  refine callWith_of (P := fun h => (KK B.w.params).In h) (by rw [q_p]; rfl) (keeps_K (by kernel_rfl!)) (evalArgs_of q_p (wpAny_mono h (fun vs s₂ h₂ => ?_) fun _ _ x => x))
  refine x0a2 h₂ fun oy1810 h₂ => ?_; refine x1a1 oy1810 fun σ' S' => ?_; clear oy1810
  exact ⟨S'.KKIn, h₂⟩
theorem r_none {k : Nat} {pos : Pos} {Q : Value → Shared → Prop} (h : Q .none s) : wpAny (model prog B.w) A (eval (.Constant .none k pos) env) Q E s := wpAny_Constant_none h
theorem r_truthy_list {l : Addr} {xs : List MV} {Q : Bool → Shared → Prop} (S : St B σ s) (hl : (l, VO.list xs) ∈ σ) (hz : xs.length ≤ sizeLine) (h : ∀ s', St B σ s' → Q (!xs.isEmpty) s') : wpAny (model prog B.w) A (truthy (.ref l)) Q E s := by
  refine x2a2 (S.listIs hl) fun vs n hv ha => ?_
  have hlen := ha.length
  refine wpAny_truthy_list hv.isList (by simp [hlen]; unfold sizeLine at hz; omega) ?_
  have e : (!vs.toArray.isEmpty) = !xs.isEmpty := by
    cases xs with
    | nil => simp at hlen; subst hlen; rfl
    | cons a r => cases vs with
      | nil => cases hlen
      | cons _ _ => rfl
  rw [e]; exact h _ (S.tok _ (by show s.toks ≤ s.toks + 1 + 1; omega))
theorem cd99 {p : Params} {h : Heap} (X : (KK p).In h) : h.CodeRec (.ref 98) "_law_stream" := codeRec_of X (by kernel_rfl!)
noncomputable def strLed (a : LexA) (r : List Nat) : Led :=
  [(a.y, .obj (instObj 88 a.dy)), (a.dy, .ins [("lineno", .int 1), ("instream", .val .none), ("whitespace", .str wsp), ("pushback", .ref a.pb0), ("read", .ref a.lam)]),
   (a.lam, .obj a.lo), (a.cd, .code a.q), (a.c, .cell (some (.ref a.l))), (a.l, .list (r.map sg))]
theorem stream_spec {x : Str} {t : Tok} {Q : Value → Shared → Prop} (S : St B ((tabA, .obj (tabObj #[])) :: σ) s) (hA : Ok A (k + 4)) (hx : x.length < 10000)
    (h : ∀ a ps s', LamOk B prog a → St B (strLed a x.cps.toList ++ ((tabA, .obj (tabObj ps)) :: σ)) s' → Q (.ref a.y) s') : wpAny (model prog B.w) A (call (.ref 99) [.str x t]) Q E s := by
  refine wpAny_call ?_
  refine' r_callCells (ln := ["text", "stream"]) (gn := ["list", "_netrclex"]) (cn := ["signs"]) (mvs := [.str x]) (ns := [("text", some (.str x)), ("stream", none)]) S hA (S.KIn (a := 99) rfl) rfl (cd99 S.KKIn) (.cons ⟨t, rfl⟩ .nil) ?f2 ?f3 ?f4 ?f5 ?_
  case f2 => kernel_rfl!
  case f3 => exact all1 fun _ => rfl
  case f4 => exact ⟨rfl, by decide +kernel, by decide +kernel, by decide +kernel, by decide +kernel, by decide +kernel, by decide +kernel, rfl, rfl⟩
  case f5 => exact ⟨rfl, by decide +kernel, by decide +kernel, by decide +kernel⟩
  intro env as s2 has hE he S2 hA2
  obtain ⟨c, rfl⟩ : ∃ c, as = [c] := by
    match as, has with
    | [c], _ => exact ⟨c, rfl⟩
  simp only [cellLed, List.map_cons, List.map_nil, List.cons_append, List.nil_append, List.zip_cons_cons, List.zip_nil_right] at S2 hE
  with_reducible refine execs_consH fun Jz hJz => ?_
  with_reducible refine wpAny_Assign_Name ?_ rfl
  with_reducible refine r_callB rfl ?_
  with_reducible refine r_global ‹_› ‹_› me0 (by exact gv_list _) ?_
  with_reducible refine nr_type ?_
  with_reducible refine items_one ?_ rfl
  with_reducible refine r_local_str ‹_› ‹_› me0 me0 me0 fun _ => ?_
  refine r_list_str ‹_› hA2.handled (by unfold sizeLine; omega) fun l s3 S3 => ?_
  with_reducible refine r_storeC_val ‹_› ‹_› me0 up2 fun _ _ => ?_
  with_reducible refine execs_consB ?_
  with_reducible refine wpAny_Assign_Name ?_ rfl
  with_reducible refine r_callK ‹_› ‹_› me1 rfl ?_
  with_reducible refine items_one ?_ rfl
  with_reducible refine r_none ?_
  (with_reducible refine And.intro ⟨_, by assumption⟩ ?_; with_reducible show wpAny _ _ (call (Value.ref _) _) _ _ _)
  refine make_spec ‹_› hA2 fun y dy pb s4 S4 => ?_
  with_reducible refine r_store_val ‹_› ‹_› me1 up4 un1 fun _ _ => ?_
  with_reducible refine execs_consB ?_
  with_reducible refine plainObj_wpAny_Assign_Attribute ?_ rfl
  rename_i S5
  have S6 := St.bring S5 6
  simp only [bring] at S6
  clear S5 S4 S3 S2 S
  refine lambda_rule (cl := [(("signs" : Str), c)]) S6 hE (by rw [he]; rfl) rfl (closure_of (cl := [(("signs" : Str), c)]) hE rfl (by simp)) fun f c' ctv ps s7 S7 => ?_
  with_reducible refine r_local_val ‹_› ‹_› me1 me7 me1 ?_
  with_reducible refine r_setattr_ref ‹_› me4 up5 (by with_reducible exact put_there (put_there (put_there (put_there .last (by decide +kernel)) (by decide +kernel)) (by decide +kernel)) (by decide +kernel)) (kt_t1 _) (by simp only [List.length_cons, List.length_nil]; omega) fun _ _ => ?_
  with_reducible refine execs_oneB ?_
  with_reducible refine wpAny_Return_some ?_
  with_reducible refine r_local_val ‹_› ‹_› me1 me7 me1 ?_
  with_reducible refine Hb.go ‹_› ?_
  rename_i S8
  have S9 := ((((((S8.bring 2).bring 6).bring 8).bring 4).bring 4).bring 7).bring 7
  simp only [bring] at S9
  clear S8 S7 S6 he hE
  refine h ⟨0, 0, 0, y, dy, f, c, l, pb, c', _, _⟩ ps _ ?_ (St.drop S9 (by simp only [strLed, List.cons_append, List.nil_append]; exact .cons_cons _ (.cons_cons _ (.cons_cons _ (.cons_cons _ (.cons_cons _ (.cons_cons _ (.cons_cons _ (.cons _ (.cons _ (.refl _)))))))))))
  refine ⟨⟨_, rfl⟩, ?_⟩
  intro A E Q k σ s r t hA hr S h1 h2
  dsimp only at S h1 h2 ⊢
  refine x3a3 (S.at (o := .code _) (.tail _ (.head _))) fun oc vs tq e1 e2 e3 => ?_
  refine wpAny_call ?_
  refine' r_callE (ln := ["size"]) (gn := []) (cs := [(("signs" : Str), c)]) (mvs := [.int 1]) (ps := ["size"]) (ns := [("size", some (.int 1))]) S hA (S.at (o := .obj _) (.head _)).1 rfl ⟨rfl, rfl, rfl, rfl, rfl, rfl⟩ ⟨_, _, _, _, rfl, e1, e2, e3⟩ (.cons ⟨_, rfl⟩ .nil) ?f2 ?f3 ?f4 ?f5 ?_
  case f2 => kernel_rfl!
  case f3 => exact all1 fun _ => rfl
  case f4 => dsimp only [kla_fn, List.map]; exact ⟨rfl, by decide +kernel, by decide +kernel, by decide +kernel, by decide +kernel, by decide +kernel, by decide +kernel, by decide +kernel, rfl, rfl⟩
  case f5 => dsimp only [kla_fn, List.map]; exact ⟨by decide +kernel, by decide +kernel, by decide +kernel⟩
  intro env s10 hE S10 hA10
  clear S
  refine wpAny_IfExp ?_
  with_reducible refine wpAny_isTrue_value ?_ rfl
  with_reducible refine r_cell_val ‹_› ‹_› me0 me3 ?_
  refine r_truthy_list ‹_› me4 (by rw [List.length_map]; unfold sizeLine; omega) fun s11 S11 => ?_
  cases r with
  | nil =>
    simp only [List.map_nil, List.isEmpty_nil, Bool.not_true, Bool.false_eq_true, if_false]
    with_reducible refine r_str ‹_› fun _ _ _ => ?_
    exact h2 _ _ rfl (St.drop ‹_› (List.sublist_cons_self _ _))
  | cons ch r' =>
    simp only [List.map_cons, List.isEmpty_cons, Bool.not_false, if_true] at S11 ⊢
    with_reducible refine r_method rfl rfl rfl rfl ?_
    with_reducible refine r_cell_val ‹_› ‹_› me0 me3 ?_
    with_reducible refine mList PySem.F.slot_list_pop PySem.F.type_list_pop ‹_› me4 ?_
    with_reducible refine items_one ?_ rfl
    with_reducible refine r_int ‹_› fun _ _ _ => ?_
    refine' r_pop0 ?q_S ?q_u ?q_z ?_
    case q_S => assumption
    case q_u => exact up4
    case q_z => simp at hr ⊢; unfold sizeLine; omega
    rintro _ s12 or1
    refine x1a1 or1 fun t12 qz1611 => ?_; clear or1; subst qz1611
    rintro S12
    exact h1 _ _ _ _ rfl (St.drop S12 (List.sublist_cons_self _ _))
end
end
section
noncomputable def wsB (c : Nat) : Bool := decide (c ∈ [10, 9, 13, 32])
noncomputable def tokQ : List Nat → Str → Str × List Nat
  | [], acc => (acc, [])
  | [c], acc => if c = 34 then (acc, []) else if c = 92 then (acc ++ Str.ofString "", []) else (acc ++ ⟨#[c]⟩, [])
  | c :: d :: r, acc => if c = 34 then (acc, d :: r) else if c = 92 then tokQ r (acc ++ ⟨#[d]⟩) else tokQ (d :: r) (acc ++ ⟨#[c]⟩)
noncomputable def tokB : List Nat → Str → Str × List Nat
  | [], acc => (acc, [])
  | [c], acc => if wsB c then (acc, []) else if c = 92 then (acc ++ Str.ofString "", []) else (acc ++ ⟨#[c]⟩, [])
  | c :: d :: r, acc => if wsB c then (acc, d :: r) else if c = 92 then tokB r (acc ++ ⟨#[d]⟩) else tokB (d :: r) (acc ++ ⟨#[c]⟩)
noncomputable def tok : List Nat → Str × List Nat
  | [] => (Str.ofString "", [])
  | c :: r => if wsB c then tok r else if c = 34 then tokQ r (Str.ofString "") else if c = 92 then (match r with | [] => (Str.ofString "" ++ Str.ofString "", []) | d :: r' => tokB r' (Str.ofString "" ++ ⟨#[d]⟩)) else tokB r (Str.ofString "" ++ ⟨#[c]⟩)
theorem in_ws (c : Nat) : (!(Builtin.Str.occurrences wsp ⟨#[c]⟩ 0 wsp.length 1).isEmpty) = wsB c := by
  rw [StrLaws.found_one]
  have : wsp.cps.toList = [10, 9, 13, 32] := by decide +kernel
  rw [this]; rfl
section
variable {B : Base} {σ σ' : Led} {s : Shared} {prog : Program} {A : Around} {E : Value → Shared → Prop} {env : Env} {ln gn : List Str} {cs : List (Str × Addr)} {k : Nat}
noncomputable def escQ (r : List Nat) (acc : Str) : Str × List Nat := match r with | [] => (acc ++ Str.ofString "", []) | d :: r' => tokQ r' (acc ++ ⟨#[d]⟩)
noncomputable def escB (r : List Nat) (acc : Str) : Str × List Nat := match r with | [] => (acc ++ Str.ofString "", []) | d :: r' => tokB r' (acc ++ ⟨#[d]⟩)
theorem tokQ_cons (c : Nat) (r : List Nat) (acc : Str) : tokQ (c :: r) acc = if c = 34 then (acc, r) else if c = 92 then escQ r acc else tokQ r (acc ++ ⟨#[c]⟩) := by
  cases r with
  | nil => rfl
  | cons d r' => rfl
theorem tokB_cons (c : Nat) (r : List Nat) (acc : Str) : tokB (c :: r) acc = if wsB c then (acc, r) else if c = 92 then escB r acc else tokB r (acc ++ ⟨#[c]⟩) := by
  cases r with
  | nil => rfl
  | cons d r' => rfl
theorem tok_cons (c : Nat) (r : List Nat) : tok (c :: r) = if wsB c then tok r else if c = 34 then tokQ r (Str.ofString "") else if c = 92 then escB r (Str.ofString "") else tokB r (Str.ofString "" ++ ⟨#[c]⟩) := by
  cases r with
  | nil => rfl
  | cons d r' => rfl
theorem r_in_ws {c : Nat} {t u : Tok} {Q : Value → Shared → Prop} (h : Q (.bool (wsB c)) s) : wpAny (model prog B.w) A (compareOp .In (.str ⟨#[c]⟩ u) (.str wsp t)) Q E s := in_str (by rw [in_ws]; exact h)
noncomputable abbrev lfLed (a : LexA) (T : Int) (r : List Nat) (tokv : Str) (I : Addr) (it : Obj) (q L : Addr) (chm : Option MV) (σ : Led) : Led :=
  lexLed a T r [] ++ ((I, .obj it) :: (q, .obj (rcObj a.x)) :: (L, .ns [("self", some (.ref a.x)), ("token", some (.str tokv)), ("fiter", some (.ref I)), ("ch", chm)]) :: σ)
theorem ci_step {a : LexA} {T : Int} {r : List Nat} {I q : Addr} {t0 : Tok} {Q : Option Value → Shared → Prop} (S : St B (lexLed a T r [] ++ ((I, .obj (ciObj q t0)) :: (q, .obj (rcObj a.x)) :: σ)) s) (hL : LamOk B prog a) (hA : Ok A (k + 3)) (hr : r.length < 10000)
    (h1 : ∀ c r' u s', r = c :: r' → St B (lexLed a T r' [] ++ ((I, .obj (ciObj q t0)) :: (q, .obj (rcObj a.x)) :: σ)) s' → Q (some (.str ⟨#[c]⟩ u)) s')
    (h2 : ∀ s', r = [] → St B (lexLed a T r [] ++ ((I, .obj ciEnd) :: (q, .obj (rcObj a.x)) :: σ)) s' → Q none s') : wpAny (model prog B.w) A (pyNext (.ref I)) Q E s := by
  have m1 : ∀ {r : List Nat} {o : Obj}, (I, VO.obj o) ∈ lexLed a T r [] ++ ((I, .obj o) :: (q, .obj (rcObj a.x)) :: σ) := List.mem_append_right _ (.head _)
  have m2 : ∀ {r : List Nat} {o : Obj}, (q, VO.obj (rcObj a.x)) ∈ lexLed a T r [] ++ ((I, .obj o) :: (q, .obj (rcObj a.x)) :: σ) := List.mem_append_right _ (.tail _ (.head _))
  refine r_next_ci S hA.handled m1 m2 (read_char_spec S hL hA.in1 hr (fun c r' t s' hc S' => ?_) fun t s' hc S' => ?_)
  · skip
    refine k3a5 _ _ _ rfl S' m1 m2 (.inl ⟨fun e => ?_, h1 c r' t s' hc S'⟩)
    have := emp_ne c; rw [e] at this; simp at this
  · skip
    refine k3a5 _ _ _ rfl S' m1 m2 (.inr ⟨rfl, _, .mid, fun s'' S'' => h2 s'' hc S''⟩)
set_option maxHeartbeats 4000000 in
theorem get_token_spec {a : LexA} {T : Int} {r : List Nat} {Q : Value → Shared → Prop} (S : St B (lexLed a T r [] ++ σ) s) (hL : LamOk B prog a) (hA : Ok A (k + 5)) (hr : r.length < 9000)
    (h : ∀ t s', St B (lexLed a T (tok r).2 [] ++ σ) s' → Q (.str (tok r).1 t) s') : wpAny (model prog B.w) A (call (.ref 78) [.ref a.x]) Q E s := by
  refine wpAny_call ?_
  refine' r_callX (ln := ["self", "token", "fiter", "ch"]) (gn := ["iter"]) (mvs := [.ref a.x]) (ps := ["self"]) (ns := [("self", some (.ref a.x)), ("token", none), ("fiter", none), ("ch", none)]) S hA (S.KIn (a := 78) rfl) rfl ⟨rfl, rfl, rfl, rfl⟩ (cd78 S.KKIn) (.cons rfl .nil) ?f2 ?f3 ?f4 ?_
  case f2 => kernel_rfl!
  case f3 => exact all1 fun _ => rfl
  case f4 => (refine ⟨rfl, by decide +kernel, by decide +kernel, by decide +kernel, by decide +kernel, by decide +kernel, by decide +kernel, by decide +kernel, rfl, rfl⟩)
  intro env s2 hE S2 hA2
  clear S
  simp only [lexLed, List.cons_append, List.nil_append, List.map_nil] at S2
  with_reducible refine execs_consH fun Jz hJz => ?_
  with_reducible refine wpAny_If ?_
  with_reducible refine wpAny_isTrue_value ?_ rfl
  with_reducible refine Attribute_name ?_
  with_reducible refine r_local_val ‹_› ‹_› me0 me0 me0 ?_
  with_reducible refine r_getattr_ref ‹_› me1 me2 me3 (kt_none4 _) fun _ _ => ?_
  refine r_truthy_list ‹_› me3 (by simp [sizeLine]) fun s3 S3 => ?_
  simp only [List.isEmpty_nil, Bool.not_true, Bool.false_eq_true, if_false]
  with_reducible refine wpAny_execs_nil ?_
  with_reducible refine execs_consB ?_
  with_reducible refine wpAny_Assign_Name ?_ rfl
  with_reducible refine r_str ‹_› fun _ _ _ => ?_
  with_reducible refine r_store_str ‹_› ‹_› me1 up0 un1 fun _ _ => ?_
  with_reducible refine execs_consB ?_
  with_reducible refine wpAny_Assign_Name ?_ rfl
  with_reducible refine r_callB rfl ?_
  with_reducible refine r_global ‹_› ‹_› me0 (by exact gv_iter _) ?_
  with_reducible refine nr_builtin ?_
  with_reducible refine items_two ?_ rfl rfl
  with_reducible refine Attribute_name ?_
  with_reducible refine r_local_val ‹_› ‹_› me0 me0 me0 ?_
  refine' r_bindRead ?q_S ?q_x ?q_d ?q_n ?_
  case q_S => assumption
  case q_x => exact me1
  case q_d => exact me2
  case q_n => simp; decide +kernel
  intro q s4 S4
  with_reducible refine r_str ‹_› fun _ _ _ => ?_
  rename_i t0 _ _
  refine' r_iter2 ?q_S ?q_m ?_
  case q_S => assumption
  case q_m => exact me0
  intro I s5 S5
  with_reducible refine r_store_val ‹_› ‹_› me2 up2 un2 fun _ _ => ?_
  with_reducible refine execs_consB ?_
  with_reducible refine r_for ?_ (fun _ => rfl)
  with_reducible refine r_local_val ‹_› ‹_› me2 me2 me2 ?_
  refine' i_ci ?q_S ?q_m ?q_c ?_
  case q_S => assumption
  case q_m => exact me0
  case q_c => rfl
  have hr1 : r.length ≤ 9000 := by lia
  rename_i s6 S6
  have S7 : St B (lfLed a T r (Str.ofString "") I (ciObj q t0) q env.locals none σ) s6 := St.perm S6 (List.perm_append_comm_assoc (lexLed a T r []) [_, _, _] σ)
  clear S6 S5 S4 S3 S2
  refine codeAny_mono (R := fun res s' => ∃ it chm tokv, St B (lfLed a T (tok r).2 tokv I it q env.locals chm σ) s' ∧ ((res = .ok .next ∧ tokv = (tok r).1) ∨ ∃ t, res = .ok (.ret (.str (tok r).1 t)))) ?_ ?_
  · refine b_loop (fun n s => (∃ r' chm, n = r'.length + 1 ∧ tok r' = tok r ∧ r'.length ≤ 9000 ∧ St B (lfLed a T r' (Str.ofString "") I (ciObj q t0) q env.locals chm σ) s) ∨
      (n = 0 ∧ (tok r).2 = [] ∧ ∃ chm, St B (lfLed a T [] (tok r).1 I ciEnd q env.locals chm σ) s)) ?_ (r.length + 1) (.inl ⟨r, none, rfl, rfl, hr1, S7⟩)
    clear S7
    rintro n s1 (⟨r', chm, rfl, ht, hl, S8⟩ | ⟨rfl, hnil, chm, S8⟩)
    · intro N J K hJ hK
      refine ci_step S8 hL hA2 (ltB ‹_› rfl) (fun c r1 u s9 hc S9 => ?_) (fun s9 hc S9 => ?_)
      · subst hc
        clear S8
        simp only [List.length_cons] at hl
        simp only [lexLed, List.cons_append, List.nil_append, List.map_nil] at S9
        with_reducible refine wpAny_assign_Name ?_
        with_reducible refine r_store_str ‹_› ‹_› me3 up11 un3 fun _ _ => ?_
        with_reducible refine execs_consB ?_
        with_reducible refine wpAny_If ?_
        with_reducible refine wpAny_isTrue_Compare1 ?_
        with_reducible refine r_local_str ‹_› ‹_› me3 me11 me3 fun _ => ?_
        with_reducible refine Attribute_name ?_
        with_reducible refine r_local_val ‹_› ‹_› me0 me11 me0 ?_
        with_reducible refine r_getattr_str ‹_› me0 me1 me2 (kt_none3 _) fun _ _ _ => ?_
        refine r_in_ws ?_
        with_reducible refine wpAny_truthy_bool ?_
        have htok := ht.symm.trans (tok_cons c r1)
        cases hw : wsB c
        case true =>
          refine ite_t rfl ?_
          rw [hw, if_pos rfl] at htok
          with_reducible refine execs_oneH fun Jz hJz => ?_
          with_reducible refine wpAny_Continue ?_
          with_reducible refine Hb.go ‹_› ?_
          with_reducible refine Hb.go ‹_› ?_
          exact k1a2 (r1.length + 1) (by simp) (.inl ⟨r1, _, rfl, htok.symm, by lia, by assumption⟩)
        refine ite_f (by decide) ?_
        rw [hw, if_neg (by decide)] at htok
        with_reducible refine wpAny_execs_nil ?_
        with_reducible refine execs_oneB ?_
        with_reducible refine wpAny_If ?_
        with_reducible refine r_cmps ‹_› ‹_› (.loc me3 me11 me3) .con (fun _ _ _ _ => ?_) (by with_unfolding_all rfl)
        with_reducible refine PyProof.Rows.eq_str ?_
        with_reducible refine wpAny_truthy_bool ?_
        rw [eq_q]
        by_cases h34 : c = 34
        · refine ite_t (by simpa using h34) ?_
          rw [if_pos h34] at htok
          with_reducible refine execs_oneB ?_
          with_reducible refine r_for ?_ (fun _ => rfl)
          with_reducible refine r_local_val ‹_› ‹_› me2 me11 me2 ?_
          refine' i_ci ?q_S ?q_m ?q_c ?_
          case q_S => assumption
          case q_m => exact me9
          case q_c => rfl
          refine codeAny_mono (R := fun res s' => (res = .ok .next ∧ (tok r).2 = [] ∧ ∃ chm, St B (lfLed a T [] (tok r).1 I ciEnd q env.locals chm σ) s') ∨ (∃ t it chm acc, res = .ok (.ret (.str (tok r).1 t)) ∧ St B (lfLed a T (tok r).2 acc I it q env.locals chm σ) s')) ?_ ?_
          · refine b_loop (fun n s => ∃ r' acc chm, n = r'.length ∧ tokQ r' acc = tok r ∧ acc.length + r'.length ≤ 9001 ∧ St B (lfLed a T r' acc I (ciObj q t0) q env.locals chm σ) s) ?_ _ ⟨r1, Str.ofString "", _, rfl, htok.symm, by rw [len_emp]; lia, by assumption⟩
            rintro n s1 or1
            refine x3a4 or1 fun r' acc chm qz013 ht hl S8 => ?_; clear or1; subst qz013
            intro N J K hJ hK
            refine ci_step S8 hL hA2 (by lia) (fun c r1 u s9 hc S9 => ?_) (fun s9 hc S9 => ?_)
            · subst hc
              clear S8
              simp only [List.length_cons] at hl
              simp only [lexLed, List.cons_append, List.nil_append, List.map_nil] at S9
              have htok := ht.symm.trans (tokQ_cons c r1 acc)
              with_reducible refine wpAny_assign_Name ?_
              with_reducible refine r_store_str ‹_› ‹_› me3 up11 un3 fun _ _ => ?_
              with_reducible refine execs_consB ?_
              with_reducible refine wpAny_If ?_
              with_reducible refine r_cmps ‹_› ‹_› (.loc me3 me11 me3) .con (fun _ _ _ _ => ?_) (by with_unfolding_all rfl)
              with_reducible refine PyProof.Rows.eq_str ?_
              with_reducible refine wpAny_truthy_bool ?_
              rw [eq_q]
              by_cases h34 : c = 34
              · refine ite_t (by simpa using h34) ?_
                rw [if_pos h34] at htok
                with_reducible refine execs_oneH fun Jz hJz => ?_
                with_reducible refine wpAny_Return_some ?_
                with_reducible refine r_local_str ‹_› ‹_› me1 me11 me1 fun _ => ?_
                with_reducible refine Hb.go ‹_› ?_
                with_reducible refine Hb.go ‹_› ?_
                refine .inr ⟨_, ciObj q t0, some (.str ⟨#[c]⟩), acc, by rw [htok], ?_⟩
                rw [htok]; assumption
              refine ite_f (by simpa using h34) ?_
              rw [if_neg h34] at htok
              with_reducible refine execs_oneH fun Jz hJz => ?_
              with_reducible refine wpAny_If ?_
              with_reducible refine r_cmps ‹_› ‹_› (.loc me3 me11 me3) .con (fun _ _ _ _ => ?_) (by with_unfolding_all rfl)
              with_reducible refine PyProof.Rows.eq_str ?_
              with_reducible refine wpAny_truthy_bool ?_
              rw [eq_bs]
              by_cases h92 : c = 92
              · refine ite_t (by simpa using h92) ?_
                rw [if_pos h92] at htok
                with_reducible refine execs_oneB ?_
                with_reducible refine wpAny_Assign_Name ?_ rfl
                with_reducible refine r_m_rc rfl rfl rfl rfl ?_
                with_reducible refine r_local_val ‹_› ‹_› me0 me11 me0 ?_
                with_reducible refine imeth_intro ‹_› me0 me1 (by simp only [List.map_cons, List.map_nil]; decide +kernel) ?_
                with_reducible refine wpAny_items_nil ?_
                (with_reducible refine And.intro ⟨_, by assumption⟩ ?_; with_reducible show wpAny _ _ (call (Value.ref _) _) _ _ _)
                refine wpAny_call (read_char_spec (a := a) (T := T) (r := r1) (push := []) (σ := (I, .obj (ciObj q t0)) :: (q, .obj (rcObj a.x)) :: (env.locals, .ns [("self", some (.ref a.x)), ("token", some (.str acc)), ("fiter", some (.ref I)), ("ch", some (.str ⟨#[c]⟩))]) :: σ) ‹_› hL hA2 (by lia) (fun d r2 t s' hc S' => ?_) (fun t s' hc S' => ?_))
                · subst hc
                  simp only [lexLed, List.cons_append, List.nil_append, List.map_nil] at S'
                  simp only [List.length_cons] at hl
                  with_reducible refine r_store_str ‹_› ‹_› me3 up11 un3 fun _ _ => ?_
                  with_reducible refine Hb.go ‹_› ?_
                  with_reducible refine execs_oneB ?_
                  with_reducible refine wpAny_AugAssign_Name ?_
                  with_reducible refine r_load_str ‹_› ‹_› me1 me11 me1 fun _ => ?_
                  with_reducible refine r_local_str ‹_› ‹_› me3 me11 me3 fun _ => ?_
                  with_reducible refine r_siadd ‹_› szA fun _ _ _ => ?_
                  with_reducible refine r_store_str ‹_› ‹_› me1 up11 un1 fun _ _ => ?_
                  with_reducible refine Hb.go ‹_› ?_
                  exact k1a2 r2.length (by simp only [List.length_cons]; lia) (k3a4 r2 (acc ++ (⟨#[d]⟩ : Str)) _ rfl htok.symm (by rw [Str.length_append, len_one]; lia) ‹_›)
                · subst hc
                  simp only [lexLed, List.cons_append, List.nil_append, List.map_nil] at S'
                  with_reducible refine r_store_str ‹_› ‹_› me3 up11 un3 fun _ _ => ?_
                  with_reducible refine Hb.go ‹_› ?_
                  with_reducible refine execs_oneB ?_
                  with_reducible refine wpAny_AugAssign_Name ?_
                  with_reducible refine r_load_str ‹_› ‹_› me1 me11 me1 fun _ => ?_
                  with_reducible refine r_local_str ‹_› ‹_› me3 me11 me3 fun _ => ?_
                  with_reducible refine r_siadd ‹_› szA fun _ _ _ => ?_
                  with_reducible refine r_store_str ‹_› ‹_› me1 up11 un1 fun _ _ => ?_
                  with_reducible refine Hb.go ‹_› ?_
                  exact k1a2 0 (by simp) (k3a4 ([]) (acc ++ Str.ofString "") _ rfl htok.symm (by rw [Str.length_append, len_emp]; simp; lia) ‹_›)
              refine ite_f (by simpa using h92) ?_
              rw [if_neg h92] at htok
              with_reducible refine wpAny_execs_nil ?_
              with_reducible refine Hb.go ‹_› ?_
              with_reducible refine execs_oneB ?_
              with_reducible refine wpAny_AugAssign_Name ?_
              with_reducible refine r_load_str ‹_› ‹_› me1 me11 me1 fun _ => ?_
              with_reducible refine r_local_str ‹_› ‹_› me3 me11 me3 fun _ => ?_
              with_reducible refine r_siadd ‹_› szA fun _ _ _ => ?_
              with_reducible refine r_store_str ‹_› ‹_› me1 up11 un1 fun _ _ => ?_
              with_reducible refine Hb.go ‹_› ?_
              exact k1a2 r1.length (by simp) (k3a4 r1 (acc ++ (⟨#[c]⟩ : Str)) _ rfl htok.symm (by rw [Str.length_append, len_one]; lia) ‹_›)
            · subst hc
              with_reducible refine wpAny_execs_nil ?_
              refine Hb.go hK ?_
              have e : tok r = (acc, []) := ht.symm.trans rfl
              refine .inl ⟨rfl, by rw [e], ?_⟩
              rw [e]; exact ⟨_, S9⟩
          · rintro res s9 (⟨rfl, h2, chm, S9⟩ | ⟨t, it, chm, acc, rfl, S9⟩)
            · dsimp only
              with_reducible refine Hb.go ‹_› ?_
              exact k1a2 0 (by simp) (.inr ⟨rfl, h2, _, S9⟩)
            · dsimp only
              with_reducible refine Hb.go ‹_› ?_
              exact k3a2 _ _ _ S9 (.inr ⟨_, rfl⟩)
        · refine ite_f (by simpa using h34) ?_
          rw [if_neg h34] at htok
          refine b_join (fun s' => ∃ r2 y, tokB r2 (Str.ofString "" ++ y) = tok r ∧ y.length ≤ 1 ∧ r2.length ≤ r1.length ∧ St B (lfLed a T r2 (Str.ofString "") I (ciObj q t0) q env.locals (some (.str y)) σ) s') ?_ ?_
          · intro K hK
            with_reducible refine wpAny_If ?_
            with_reducible refine r_cmps ‹_› ‹_› (.loc me3 me11 me3) .con (fun _ _ _ _ => ?_) (by with_unfolding_all rfl)
            with_reducible refine PyProof.Rows.eq_str ?_
            with_reducible refine wpAny_truthy_bool ?_
            rw [eq_bs]
            by_cases h92 : c = 92
            · refine ite_t (by simpa using h92) ?_
              rw [if_pos h92] at htok
              with_reducible refine execs_oneB ?_
              with_reducible refine wpAny_Assign_Name ?_ rfl
              with_reducible refine r_m_rc rfl rfl rfl rfl ?_
              with_reducible refine r_local_val ‹_› ‹_› me0 me11 me0 ?_
              with_reducible refine imeth_intro ‹_› me0 me1 (by simp only [List.map_cons, List.map_nil]; decide +kernel) ?_
              with_reducible refine wpAny_items_nil ?_
              (with_reducible refine And.intro ⟨_, by assumption⟩ ?_; with_reducible show wpAny _ _ (call (Value.ref _) _) _ _ _)
              refine wpAny_call (read_char_spec (a := a) (T := T) (r := r1) (push := []) (σ := (I, .obj (ciObj q t0)) :: (q, .obj (rcObj a.x)) :: (env.locals, .ns [("self", some (.ref a.x)), ("token", some (.str (Str.ofString ""))), ("fiter", some (.ref I)), ("ch", some (.str ⟨#[c]⟩))]) :: σ) ‹_› hL hA2 (leB ‹_› rfl) (fun d r2 t s' hc S' => ?_) (fun t s' hc S' => ?_))
              · subst hc
                simp only [lexLed, List.cons_append, List.nil_append, List.map_nil] at S'
                with_reducible refine r_store_str ‹_› ‹_› me3 up11 un3 fun _ _ => ?_
                with_reducible refine Hb.go ‹_› ?_
                exact k2a4 r2 ⟨#[d]⟩ htok.symm (Nat.le_refl _) (by simp) ‹_›
              · subst hc
                simp only [lexLed, List.cons_append, List.nil_append, List.map_nil] at S'
                with_reducible refine r_store_str ‹_› ‹_› me3 up11 un3 fun _ _ => ?_
                with_reducible refine Hb.go ‹_› ?_
                exact k2a4 ([]) (Str.ofString "") htok.symm (by rw [len_emp]; lia) (by simp) ‹_›
            · refine ite_f (by simpa using h92) ?_
              rw [if_neg h92] at htok
              with_reducible refine wpAny_execs_nil ?_
              refine hK _ _ ?_
              exact k2a4 r1 ⟨#[c]⟩ htok.symm (Nat.le_refl _) (Nat.le_refl _) ‹_›
          rintro s10 or2
          refine x2a4 or2 fun r2 y ht2 hy hr2 S10 => ?_; clear or2
          clear htok ht
          simp only [lfLed, lexLed, List.cons_append, List.nil_append, List.map_nil] at S10
          with_reducible refine execs_consB ?_
          with_reducible refine wpAny_AugAssign_Name ?_
          with_reducible refine r_load_str ‹_› ‹_› me1 me11 me1 fun _ => ?_
          with_reducible refine r_local_str ‹_› ‹_› me3 me11 me3 fun _ => ?_
          with_reducible refine r_siadd ‹_› szA fun _ _ _ => ?_
          with_reducible refine r_store_str ‹_› ‹_› me1 up11 un1 fun _ _ => ?_
          with_reducible refine execs_oneB ?_
          with_reducible refine r_for ?_ (fun _ => rfl)
          with_reducible refine r_local_val ‹_› ‹_› me2 me11 me2 ?_
          refine' i_ci ?q_S ?q_m ?q_c ?_
          case q_S => assumption
          case q_m => exact me9
          case q_c => rfl
          refine codeAny_mono (R := fun res s' => (res = .ok .next ∧ (tok r).2 = [] ∧ ∃ chm, St B (lfLed a T [] (tok r).1 I ciEnd q env.locals chm σ) s') ∨ (∃ t it chm acc, res = .ok (.ret (.str (tok r).1 t)) ∧ St B (lfLed a T (tok r).2 acc I it q env.locals chm σ) s')) ?_ ?_
          · refine b_loop (fun n s => ∃ r' acc chm, n = r'.length ∧ tokB r' acc = tok r ∧ acc.length + r'.length ≤ 9001 ∧ St B (lfLed a T r' acc I (ciObj q t0) q env.locals chm σ) s) ?_ _ ⟨r2, Str.ofString "" ++ y, _, rfl, ht2, by rw [Str.length_append, len_emp]; lia, by assumption⟩
            rintro n s1 or3
            refine x3a4 or3 fun r' acc chm qz213 ht hl S8 => ?_; clear or3; subst qz213
            intro N J K hJ hK
            refine ci_step S8 hL hA2 (by lia) (fun c r1 u s9 hc S9 => ?_) (fun s9 hc S9 => ?_)
            · subst hc
              clear S8
              simp only [List.length_cons] at hl
              simp only [lexLed, List.cons_append, List.nil_append, List.map_nil] at S9
              have htok := ht.symm.trans (tokB_cons c r1 acc)
              with_reducible refine wpAny_assign_Name ?_
              with_reducible refine r_store_str ‹_› ‹_› me3 up11 un3 fun _ _ => ?_
              with_reducible refine execs_consB ?_
              with_reducible refine wpAny_If ?_
              with_reducible refine wpAny_isTrue_Compare1 ?_
              with_reducible refine r_local_str ‹_› ‹_› me3 me11 me3 fun _ => ?_
              with_reducible refine Attribute_name ?_
              with_reducible refine r_local_val ‹_› ‹_› me0 me11 me0 ?_
              with_reducible refine r_getattr_str ‹_› me0 me1 me2 (kt_none3 _) fun _ _ _ => ?_
              refine r_in_ws ?_
              with_reducible refine wpAny_truthy_bool ?_
              cases hw : wsB c
              case true =>
                refine ite_t rfl ?_
                rw [hw, if_pos rfl] at htok
                with_reducible refine execs_oneH fun Jz hJz => ?_
                with_reducible refine wpAny_Return_some ?_
                with_reducible refine r_local_str ‹_› ‹_› me1 me11 me1 fun _ => ?_
                with_reducible refine Hb.go ‹_› ?_
                with_reducible refine Hb.go ‹_› ?_
                refine .inr ⟨_, ciObj q t0, some (.str ⟨#[c]⟩), acc, by rw [htok], ?_⟩
                rw [htok]; assumption
              refine ite_f (by decide) ?_
              rw [hw, if_neg (by decide)] at htok
              with_reducible refine execs_oneH fun Jz hJz => ?_
              with_reducible refine wpAny_If ?_
              with_reducible refine r_cmps ‹_› ‹_› (.loc me3 me11 me3) .con (fun _ _ _ _ => ?_) (by with_unfolding_all rfl)
              with_reducible refine PyProof.Rows.eq_str ?_
              with_reducible refine wpAny_truthy_bool ?_
              rw [eq_bs]
              by_cases h92 : c = 92
              · refine ite_t (by simpa using h92) ?_
                rw [if_pos h92] at htok
                with_reducible refine execs_oneB ?_
                with_reducible refine wpAny_Assign_Name ?_ rfl
                with_reducible refine r_m_rc rfl rfl rfl rfl ?_
                with_reducible refine r_local_val ‹_› ‹_› me0 me11 me0 ?_
                with_reducible refine imeth_intro ‹_› me0 me1 (by simp only [List.map_cons, List.map_nil]; decide +kernel) ?_
                with_reducible refine wpAny_items_nil ?_
                (with_reducible refine And.intro ⟨_, by assumption⟩ ?_; with_reducible show wpAny _ _ (call (Value.ref _) _) _ _ _)
                refine wpAny_call (read_char_spec (a := a) (T := T) (r := r1) (push := []) (σ := (I, .obj (ciObj q t0)) :: (q, .obj (rcObj a.x)) :: (env.locals, .ns [("self", some (.ref a.x)), ("token", some (.str acc)), ("fiter", some (.ref I)), ("ch", some (.str ⟨#[c]⟩))]) :: σ) ‹_› hL hA2 (by lia) (fun d r2 t s' hc S' => ?_) (fun t s' hc S' => ?_))
                · subst hc
                  simp only [lexLed, List.cons_append, List.nil_append, List.map_nil] at S'
                  simp only [List.length_cons] at hl
                  with_reducible refine r_store_str ‹_› ‹_› me3 up11 un3 fun _ _ => ?_
                  with_reducible refine Hb.go ‹_› ?_
                  with_reducible refine execs_oneB ?_
                  with_reducible refine wpAny_AugAssign_Name ?_
                  with_reducible refine r_load_str ‹_› ‹_› me1 me11 me1 fun _ => ?_
                  with_reducible refine r_local_str ‹_› ‹_› me3 me11 me3 fun _ => ?_
                  with_reducible refine r_siadd ‹_› szA fun _ _ _ => ?_
                  with_reducible refine r_store_str ‹_› ‹_› me1 up11 un1 fun _ _ => ?_
                  with_reducible refine Hb.go ‹_› ?_
                  exact k1a2 r2.length (by simp only [List.length_cons]; lia) (k3a4 r2 (acc ++ (⟨#[d]⟩ : Str)) _ rfl htok.symm (by rw [Str.length_append, len_one]; lia) ‹_›)
                · subst hc
                  simp only [lexLed, List.cons_append, List.nil_append, List.map_nil] at S'
                  with_reducible refine r_store_str ‹_› ‹_› me3 up11 un3 fun _ _ => ?_
                  with_reducible refine Hb.go ‹_› ?_
                  with_reducible refine execs_oneB ?_
                  with_reducible refine wpAny_AugAssign_Name ?_
                  with_reducible refine r_load_str ‹_› ‹_› me1 me11 me1 fun _ => ?_
                  with_reducible refine r_local_str ‹_› ‹_› me3 me11 me3 fun _ => ?_
                  with_reducible refine r_siadd ‹_› szA fun _ _ _ => ?_
                  with_reducible refine r_store_str ‹_› ‹_› me1 up11 un1 fun _ _ => ?_
                  with_reducible refine Hb.go ‹_› ?_
                  exact k1a2 0 (by simp) (k3a4 ([]) (acc ++ Str.ofString "") _ rfl htok.symm (by rw [Str.length_append, len_emp]; simp; lia) ‹_›)
              refine ite_f (by simpa using h92) ?_
              rw [if_neg h92] at htok
              with_reducible refine wpAny_execs_nil ?_
              with_reducible refine Hb.go ‹_› ?_
              with_reducible refine execs_oneB ?_
              with_reducible refine wpAny_AugAssign_Name ?_
              with_reducible refine r_load_str ‹_› ‹_› me1 me11 me1 fun _ => ?_
              with_reducible refine r_local_str ‹_› ‹_› me3 me11 me3 fun _ => ?_
              with_reducible refine r_siadd ‹_› szA fun _ _ _ => ?_
              with_reducible refine r_store_str ‹_› ‹_› me1 up11 un1 fun _ _ => ?_
              with_reducible refine Hb.go ‹_› ?_
              exact k1a2 r1.length (by simp) (k3a4 r1 (acc ++ (⟨#[c]⟩ : Str)) _ rfl htok.symm (by rw [Str.length_append, len_one]; lia) ‹_›)
            · subst hc
              with_reducible refine wpAny_execs_nil ?_
              refine Hb.go hK ?_
              have e : tok r = (acc, []) := ht.symm.trans rfl
              refine .inl ⟨rfl, by rw [e], ?_⟩
              rw [e]; exact ⟨_, S9⟩
          · rintro res s9 (⟨rfl, h2, chm, S9⟩ | ⟨t, it, chm, acc, rfl, S9⟩)
            · dsimp only
              with_reducible refine Hb.go ‹_› ?_
              exact k1a2 0 (by simp) (.inr ⟨rfl, h2, _, S9⟩)
            · dsimp only
              with_reducible refine Hb.go ‹_› ?_
              exact k3a2 _ _ _ S9 (.inr ⟨_, rfl⟩)
      · subst hc
        have e : tok r = (Str.ofString "", []) := ht.symm.trans rfl
        with_reducible refine wpAny_execs_nil ?_
        refine Hb.go hK ?_
        rw [e]; exact k3a2 _ _ _ S9 (.inl ⟨rfl, rfl⟩)
    · intro N J K hJ hK
      refine r_next_ciEnd S8 hA2.handled (List.mem_append_right _ (.head _)) fun s9 S9 => ?_
      with_reducible refine wpAny_execs_nil ?_
      refine Hb.go hK ?_
      rw [hnil]; exact k3a2 _ _ _ S9 (.inl ⟨rfl, rfl⟩)
  · rintro res s9 ⟨it, chm, tokv, S9, (⟨rfl, rfl⟩ | ⟨t, rfl⟩)⟩
    · dsimp only
      simp only [lfLed, lexLed, List.cons_append, List.nil_append, List.map_nil] at S9
      with_reducible refine execs_oneB ?_
      with_reducible refine wpAny_Return_some ?_
      with_reducible refine r_local_str ‹_› ‹_› me1 me11 me1 fun _ => ?_
      with_reducible refine Hb.go ‹_› ?_
      exact h _ _ (St.drop ‹_› (by simp only [lexLed, List.cons_append, List.nil_append, List.map_nil]; exact .cons_cons _ (.cons_cons _ (.cons_cons _ (.cons_cons _ (.cons_cons _ (.cons_cons _ (.cons_cons _ (.cons_cons _ (.cons_cons _ (.cons _ (.cons _ (.cons _ (.refl _))))))))))))))
    · dsimp only
      with_reducible refine Hb.go ‹_› ?_
      exact h _ _ (St.drop S9 (by simp only [lfLed, lexLed, List.cons_append, List.nil_append, List.map_nil]; exact .cons_cons _ (.cons_cons _ (.cons_cons _ (.cons_cons _ (.cons_cons _ (.cons_cons _ (.cons_cons _ (.cons_cons _ (.cons_cons _ (.cons _ (.cons _ (.cons _ (.refl _))))))))))))))
end
end
section
section
variable {B : Base} {σ σ' : Led} {s : Shared} {prog : Program} {A : Around} {E : Value → Shared → Prop} {env : Env} {ln gn : List Str} {cs : List (Str × Addr)} {k : Nat}
theorem get_push_spec {a : LexA} {T : Int} {r : List Nat} {y : Str} {ys : List Str} {Q : Value → Shared → Prop} (S : St B (lexLed a T r (y :: ys) ++ σ) s) (hA : Ok A (k + 5)) (hy : ys.length < 9000)
    (h : ∀ t s', St B (lexLed a T r ys ++ σ) s' → Q (.str y t) s') : wpAny (model prog B.w) A (call (.ref 78) [.ref a.x]) Q E s := by
  refine wpAny_call ?_
  refine' r_callX (ln := ["self", "token", "fiter", "ch"]) (gn := ["iter"]) (mvs := [.ref a.x]) (ps := ["self"]) (ns := [("self", some (.ref a.x)), ("token", none), ("fiter", none), ("ch", none)]) S hA (S.KIn (a := 78) rfl) rfl ⟨rfl, rfl, rfl, rfl⟩ (cd78 S.KKIn) (.cons rfl .nil) ?f2 ?f3 ?f4 ?_
  case f2 => kernel_rfl!
  case f3 => exact all1 fun _ => rfl
  case f4 => (refine ⟨rfl, by decide +kernel, by decide +kernel, by decide +kernel, by decide +kernel, by decide +kernel, by decide +kernel, by decide +kernel, rfl, rfl⟩)
  intro env s2 hE S2 hA2
  clear S
  simp only [lexLed, List.cons_append, List.nil_append, List.map_cons] at S2
  with_reducible refine wpAny_execs_cons ?_
  with_reducible refine wpAny_If ?_
  with_reducible refine wpAny_isTrue_value ?_ rfl
  with_reducible refine Attribute_name ?_
  with_reducible refine r_local_val ‹_› ‹_› me0 me0 me0 ?_
  with_reducible refine r_getattr_ref ‹_› me1 me2 me3 (kt_none4 _) fun _ _ => ?_
  refine r_truthy_list ‹_› me3 (by simp [sizeLine]; lia) fun s3 S3 => ?_
  simp only [List.isEmpty_cons, Bool.not_false, if_true]
  with_reducible refine execs_one ?_
  with_reducible refine wpAny_Return_some ?_
  with_reducible refine r_method rfl rfl rfl rfl ?_
  with_reducible refine Attribute_name ?_
  with_reducible refine r_local_val ‹_› ‹_› me0 me0 me0 ?_
  with_reducible refine r_getattr_ref ‹_› me1 me2 me3 (kt_none4 _) fun _ _ => ?_
  with_reducible refine mList PySem.F.slot_list_pop PySem.F.type_list_pop ‹_› me3 ?_
  with_reducible refine items_one ?_ rfl
  with_reducible refine r_int ‹_› fun _ _ _ => ?_
  refine' r_pop0 ?q_S ?q_u ?q_z ?_
  case q_S => assumption
  case q_u => exact up3
  case q_z => simp; unfold sizeLine; lia
  rintro _ s12 or1
  refine x1a1 or1 fun t12 qz011 => ?_; clear or1; subst qz011
  rintro S12
  skip
  exact h _ _ (St.drop S12 (List.sublist_cons_self _ _))
/- zip of two lists -/
noncomputable def MV.tupless : MV → Bool
  | .tup _ => false
  | _ => true
noncomputable def VO.tupless : VO → Bool
  | .ns m => m.all fun p => match p.2 with | some mv => mv.tupless | none => true
  | .cell (some mv) => mv.tupless
  | .list xs => xs.all MV.tupless
  | .ins m => m.all fun p => p.2.tupless
  | _ => true
theorem nsT_cons {x : Str} {o : Option MV} {m : List (Str × Option MV)} (h : (VO.ns [(x, o)]).tupless = true) (t : (VO.ns m).tupless = true) : (VO.ns ((x, o) :: m)).tupless = true := by
  simp only [VO.tupless, List.all_cons, List.all_nil, Bool.and_true] at h t ⊢
  rw [h, t]; rfl
theorem nsT_sc {x : Str} {m : List (Str × Option MV)} (o : Option Sc) (t : (VO.ns m).tupless = true) : (VO.ns ((x, o.map .sc) :: m)).tupless = true := nsT_cons (by cases o <;> rfl) t
theorem MV.Is.keep {h h' : Heap} {mv : MV} {v : Value} (m : mv.Is h v) (ht : mv.tupless = true) : mv.Is h' v := by
  cases mv with
  | sc c => exact m
  | tup cs => cases ht
  | val u => exact m
theorem AllMV.keep {h h' : Heap} {xs : List MV} {vs : List Value} (m : AllMV h xs vs) (ht : xs.all MV.tupless = true) : AllMV h' xs vs := by
  induction m with
  | nil => exact .nil
  | cons h1 _ ih =>
    simp only [List.all_cons, Bool.and_eq_true] at ht
    exact .cons (h1.keep ht.1) (ih ht.2)
/-- what is told of an object stands where the object stands, tuples elsewhere or not -/
theorem VO.Is.keep {h h' : Heap} {a : Addr} {o : VO} (m : o.Is h a) (ht : o.tupless = true) (e : ∀ ob, h.get? a = some ob → h'.get? a = some ob) : o.Is h' a := by
  cases o with
  | ns mm =>
    refine x1a3 m fun f oy111 nd hm => ?_; clear m; obtain ⟨o, es, ep, ho, hd, hk, hf⟩ := oy111
    refine k1a3 f (k3a4 o es ep (e _ ho) hd hk hf) nd (fun p hp mv hmv => ?_)
    refine x1a2 (hm p hp mv hmv) fun v h1 h2 => ?_
    have := List.all_eq_true.mp ht p hp
    rw [hmv] at this
    exact k1a2 v h1 (h2.keep this)
  | cell v =>
    cases v with
    | none => refine x2a2 m fun u o' ho' hd' => ?_; clear m; exact k2a2 u o' (e _ ho') hd'
    | some mv => refine x1a2 m fun u oy311 hm => ?_; clear m; obtain ⟨o', ho', hd'⟩ := oy311; exact k1a2 u (k1a2 o' (e _ ho') hd') (hm.keep ht)
  | list xs => refine x2a2 m fun ws n i hm => ?_; clear m; exact k2a2 ws n (e _ i) (hm.keep ht)
  | tuple cs => refine x2a2 m fun vs n i q => ?_; clear m; exact k2a2 vs n (e _ i) q
  | listIter l i => refine x1a2 m fun o ho r => ?_; clear m; exact k1a2 o (e _ ho) r
  | rangeIter y l s => exact e _ m
  | strIter cls y i => refine x0a2 m fun hcl oz71 => ?_; clear m; refine x2a2 oz71 fun t o ho r => ?_; clear oz71; exact ⟨hcl, (k2a2 t o (e _ ho) r)⟩
  | obj o' => exact ⟨e _ m.1, m.2⟩
  | ins mm =>
    refine x1a4 m fun f oy811 nd hm hn => ?_; clear m; obtain ⟨o, es, ep, ho, r⟩ := oy811
    refine k1a4 f (k3a2 o es ep (e _ ho) r) nd (fun p hp => ?_) hn
    refine x1a2 (hm p hp) fun v h1 h2 => ?_
    exact k1a2 v h1 (h2.keep (List.all_eq_true.mp ht p hp))
  | code q => refine x3a2 m fun oc vs t ho r => ?_; clear m; exact k3a2 oc vs t (e _ ho) r
  | prefs b c => exact e _ m
  | pairAny => refine x2a1 m fun x' y' m => ?_; exact k2a1 x' y' (e _ m)
  | zipo TI TO => exact e _ m
noncomputable def zipLed (z TI TO i1 i2 l1 l2 : Addr) (i : Nat) : Led := [(z, .zipo TI TO), (TI, .prefs i1 i2), (TO, .pairAny), (i1, .listIter l1 i), (i2, .listIter l2 i)]
theorem St.zipStep {τ ρ : Led} {z TI TO i1 i2 l1 l2 : Addr} {i j : Nat} {h' : Heap} (S : St B (τ ++ (zipLed z TI TO i1 i2 l1 l2 i ++ ρ)) s) (ht : ∀ p ∈ τ ++ ρ, p.2.tupless = true)
    (e : ∀ c o, c ≠ z → c ≠ TO → c ≠ i1 → c ≠ i2 → s.heap.get? c = some o → h'.get? c = some o)
    (g1 : IsZip h' z TI TO .none) (g2 : ∃ a b, IsPair h' TO a b) (g3 : h'.IsListIter i1 l1 j) (g4 : h'.IsListIter i2 l2 j) (k : Nat) (hk : s.toks ≤ k := by omega) :
    St B (τ ++ (zipLed z TI TO i1 i2 l1 l2 j ++ ρ)) { s with heap := h', toks := k } := by
  have P : (zipLed z TI TO i1 i2 l1 l2 i ++ (τ ++ ρ)).Perm (τ ++ (zipLed z TI TO i1 i2 l1 l2 i ++ ρ)) := List.perm_append_comm_assoc _ _ _
  have P' : (τ ++ (zipLed z TI TO i1 i2 l1 l2 j ++ ρ)).Perm (zipLed z TI TO i1 i2 l1 l2 j ++ (τ ++ ρ)) := List.perm_append_comm_assoc _ _ _
  have S1 := S.perm P
  refine St.perm ?_ P'
  have nd := S1.nd
  have hne : ∀ p ∈ τ ++ ρ, p.1 ≠ z ∧ p.1 ≠ TO ∧ p.1 ≠ i1 ∧ p.1 ≠ i2 := fun p hp => by
    simp only [zipLed, List.cons_append, List.nil_append, List.map_cons, List.nodup_cons, List.mem_cons, not_or] at nd
    refine x0a6 nd fun oy1310 oy1311 oy1312 oy1313 n5 _ => ?_; clear nd; refine x0a5 oy1310 fun _ _ _ _ n1 => ?_; clear oy1310; refine x0a4 oy1311 fun _ _ _ n2 => ?_; clear oy1311; refine x0a3 oy1312 fun _ _ n3 => ?_; clear oy1312; refine x0a2 oy1313 fun _ n4 => ?_; clear oy1313
    have hm := List.mem_map_of_mem (f := (·.1)) hp
    exact ⟨fun q => n1 (q ▸ hm), fun q => n3 (q ▸ hm), fun q => n4 (q ▸ hm), fun q => n5 (q ▸ hm)⟩
  have hTI : TI ≠ z ∧ TI ≠ TO ∧ TI ≠ i1 ∧ TI ≠ i2 := by
    simp only [zipLed, List.cons_append, List.nil_append, List.map_cons, List.nodup_cons, List.mem_cons, not_or] at nd
    refine x0a3 nd fun oy1410 oy1411 _ => ?_; clear nd; refine x0a5 oy1410 fun n1 _ _ _ _ => ?_; clear oy1410; refine x0a4 oy1411 fun n2 n3 n4 _ => ?_; clear oy1411
    exact ⟨fun q => n1 q.symm, n2, n3, n4⟩
  refine ⟨fun b ob hb ht' => ?_, fun p hp => ?_, fun p hp => ?_, ?_, S.gens, S.drawn, S.os, Nat.lt_of_lt_of_le S.pos hk⟩
  · exact e b ob (S1.neOf (.head _) hb) (S1.neOf (.tail _ (.tail _ (.head _))) hb) (S1.neOf (.tail _ (.tail _ (.tail _ (.head _)))) hb) (S1.neOf (.tail _ (.tail _ (.tail _ (.tail _ (.head _))))) hb) (S1.old b ob hb ht')
  · rcases List.mem_append.mp hp with hp | hp
    · simp only [zipLed, List.mem_cons, List.not_mem_nil, or_false] at hp
      rcases hp with rfl | rfl | rfl | rfl | rfl
      · exact g1
      · exact e _ _ hTI.1 hTI.2.1 hTI.2.2.1 hTI.2.2.2 (S1.at (o := .prefs i1 i2) (.tail _ (.head _)))
      · exact g2
      · exact g3
      · exact g4
    · refine x0a4 (hne p hp) fun n1 n2 n3 n4 => ?_
      exact (S1.is p (List.mem_append_right _ hp)).keep (ht p hp) fun ob ho => e _ _ n1 n2 n3 n4 ho
  · rcases List.mem_append.mp hp with hp | hp
    · simp only [zipLed, List.mem_cons, List.not_mem_nil, or_false] at hp
      rcases hp with rfl | rfl | rfl | rfl | rfl
      · exact S1.fresh (z, .zipo TI TO) (.head _)
      · exact S1.fresh (TI, .prefs i1 i2) (.tail _ (.head _))
      · exact S1.fresh (TO, .pairAny) (.tail _ (.tail _ (.head _)))
      · exact S1.fresh (i1, .listIter l1 i) (.tail _ (.tail _ (.tail _ (.head _))))
      · exact S1.fresh (i2, .listIter l2 i) (.tail _ (.tail _ (.tail _ (.tail _ (.head _)))))
    · exact S1.fresh p (List.mem_append_right _ hp)
  · exact nd
theorem zip_apart {τ ρ : Led} {z TI TO i1 i2 l1 l2 : Addr} {i : Nat} {xs ys : List MV} (S : St B (τ ++ (zipLed z TI TO i1 i2 l1 l2 i ++ ρ)) s) (h1 : (l1, VO.list xs) ∈ τ ++ ρ) (h2 : (l2, VO.list ys) ∈ τ ++ ρ) : ZipApart z TI TO i1 i2 l1 l2 := by
  have P : (zipLed z TI TO i1 i2 l1 l2 i ++ (τ ++ ρ)).Perm (τ ++ (zipLed z TI TO i1 i2 l1 l2 i ++ ρ)) := List.perm_append_comm_assoc _ _ _
  have nd := (S.perm P).nd
  simp only [zipLed, List.cons_append, List.nil_append, List.map_cons, List.nodup_cons, List.mem_cons, not_or] at nd
  refine x0a6 nd fun oy1610 oy1611 oy1612 oy1613 n5 _ => ?_; clear nd; refine x0a5 oy1610 fun a1 a2 a3 a4 n1 => ?_; clear oy1610; refine x0a4 oy1611 fun b2 b3 b4 n2 => ?_; clear oy1611; refine x0a3 oy1612 fun c3 c4 n3 => ?_; clear oy1612; refine x0a2 oy1613 fun d4 n4 => ?_; clear oy1613
  have m1 := List.mem_map_of_mem (f := (·.1)) h1
  have m2 := List.mem_map_of_mem (f := (·.1)) h2
  exact ⟨Ne.symm a1, Ne.symm a2, Ne.symm a3, Ne.symm a4, b2, b3, b4, c3, c4, d4, fun q => n1 (q ▸ m1), fun q => n3 (q ▸ m1), fun q => n4 (q ▸ m1), fun q => n5 (q ▸ m1), fun q => n1 (q ▸ m2), fun q => n3 (q ▸ m2), fun q => n4 (q ▸ m2), fun q => n5 (q ▸ m2)⟩
end
end
section
theorem VO.Is.lt {h : Heap} {a : Addr} {o : VO} (i : o.Is h a) : a < h.objs.size := by
  cases o with
  | ns m => exact i.choose_spec.1.lt
  | cell v => cases v with
    | none => exact i.choose_spec.lt
    | some mv => exact i.choose_spec.1.lt
  | list xs => refine x2a2 i fun _ _ ho _ => ?_; clear i; exact Heap.lt_size ho
  | tuple cs => refine x2a2 i fun _ _ ho _ => ?_; clear i; exact Heap.lt_size ho
  | listIter l j => refine x1a2 i fun o ho _ => ?_; clear i; exact Heap.lt_size ho
  | rangeIter y l s => exact Heap.lt_size i
  | strIter c y j => refine x0a2 i fun _ oz31 => ?_; clear i; refine x2a2 oz31 fun _ o ho _ => ?_; clear oz31; exact Heap.lt_size ho
  | obj o => exact Heap.lt_size i.1
  | ins m => exact i.choose_spec.1.ns.lt
  | code q => refine x3a2 i fun _ _ _ ho _ => ?_; clear i; exact Heap.lt_size ho
  | prefs b c => exact Heap.lt_size (show h.get? _ = some _ from i)
  | pairAny => refine x2a1 i fun _ _ ho => ?_; clear i; exact Heap.lt_size (show h.get? _ = some _ from ho)
  | zipo TI TO => exact Heap.lt_size (show h.get? _ = some _ from i)
section
variable {B : Base} {σ σ' : Led} {s : Shared} {prog : Program} {A : Around} {E : Value → Shared → Prop} {env : Env} {ln gn : List Str} {cs : List (Str × Addr)} {k : Nat}
theorem St.lt (S : St B σ s) : ∀ p ∈ σ, p.1 < s.heap.objs.size := fun p hp => (S.is p hp).lt
theorem St.none_of (S : St B σ s) : ∀ b, s.heap.objs.size ≤ b → B.h.get? b = none := fun b hb => by
  cases q : B.h.get? b with
  | none => rfl
  | some oo =>
    have := S.old _ _ q (fun e => by rw [e] at q; rw [B.hid] at q; cases q)
    exact absurd (Heap.lt_size this) (Nat.not_lt_of_le hb)
/-- several new objects at once -/
theorem St.news {h' : Heap} {τ : Led} (S : St B σ s) (e : ∀ b o, s.heap.get? b = some o → h'.get? b = some o) (k : Nat) (hn : (τ.map (·.1)).Nodup) (hg : ∀ p ∈ τ, s.heap.objs.size ≤ p.1) (hi : ∀ p ∈ τ, p.2.Is h' p.1) (hk : s.toks ≤ k := by lia) : St B (τ ++ σ) { s with heap := h', toks := k } := by
  have G := S.grow e k hk
  refine ⟨G.old, fun p hp => ?_, fun p hp => ?_, ?_, S.gens, S.drawn, S.os, G.pos⟩
  · rcases List.mem_append.mp hp with hp | hp
    · exact hi p hp
    · exact G.is p hp
  · rcases List.mem_append.mp hp with hp | hp
    · exact S.none_of _ (hg p hp)
    · exact S.fresh p hp
  · rw [List.map_append, List.nodup_append]
    refine ⟨hn, S.nd, fun x hx y hy q => ?_⟩
    refine x1a2 (List.mem_map.mp hx) fun p hp qz612 => ?_; subst qz612
    refine x1a2 (List.mem_map.mp hy) fun p' hp' qz712 => ?_; subst qz712
    have h1 := hg p hp
    have h2 := S.lt p' hp'
    rw [q] at h1
    exact absurd h2 (Nat.not_lt_of_le h1)
theorem r_zip {l1 l2 : Addr} {xs ys : List MV} {Q : Value → Shared → Prop} (S : St B σ s) (h1 : (l1, VO.list xs) ∈ σ) (h2 : (l2, VO.list ys) ∈ σ)
    (h : ∀ z TI TO i1 i2 s', St B (zipLed z TI TO i1 i2 l1 l2 0 ++ σ) s' → Q (.ref z) s') : wpAny (model prog B.w) A (call (.type "zip") [.ref l1, .ref l2]) Q E s := by
  refine x2a2 (S.listIs h1) fun vs n hv ha => ?_
  refine x2a2 (S.listIs h2) fun ws m hw hb => ?_
  refine call_zip_2 hv.isList hw.isList fun h' g1 g2 g3 g4 g5 gz gk => ?_
  refine h (s.heap.objs.size + 4) (s.heap.objs.size + 2) (s.heap.objs.size + 3) s.heap.objs.size (s.heap.objs.size + 1) _ (S.news gk s.toks ?_ ?_ ?_)
  · simp only [zipLed, List.map_cons, List.map_nil, List.nodup_cons, List.mem_cons, List.not_mem_nil, or_false, not_or, List.nodup_nil, and_true, not_false_eq_true]
    have key : ∀ n : Nat, (n + 4 ≠ n + 2 ∧ n + 4 ≠ n + 3 ∧ n + 4 ≠ n ∧ n + 4 ≠ n + 1) ∧ (n + 2 ≠ n + 3 ∧ n + 2 ≠ n ∧ n + 2 ≠ n + 1) ∧ (n + 3 ≠ n ∧ n + 3 ≠ n + 1) ∧ n ≠ n + 1 := by intro n; lia
    exact key _
  · intro p hp
    simp only [zipLed, List.mem_cons, List.not_mem_nil, or_false] at hp
    rcases hp with rfl | rfl | rfl | rfl | rfl <;> first | exact Nat.le_refl _ | exact Nat.le_add_right _ _
  · intro p hp
    simp only [zipLed, List.mem_cons, List.not_mem_nil, or_false] at hp
    rcases hp with rfl | rfl | rfl | rfl | rfl
    · exact g1
    · exact g2
    · exact k2a1 _ _ g3
    · exact g4
    · exact g5
theorem AllMV.scGet {h : Heap} {xs : List Sc} {vs : List Value} {i : Nat} {x : Sc} (a : AllMV h (xs.map MV.sc) vs) (hx : xs[i]? = some x) : ∃ v, vs[i]? = some v ∧ x.Is v := by
  refine x1a2 (a.get (i := i) (mv := .sc x) (by simp [hx])) fun v h1 h2 => ?_
  exact k1a2 v h1 h2
theorem Src.zip {elts : List Expr} {x1 : Nat} {pos : Pos} {z TI TO i1 i2 l1 l2 : Addr} {xs ys : List Sc} : Src B prog (.Tuple elts x1 pos) z ((xs.zip ys).map fun p => MV.tup [p.1, p.2]) (zipLed z TI TO i1 i2 l1 l2)
    (fun σ => (l1, VO.list (xs.map MV.sc)) ∈ σ ∧ (l2, VO.list (ys.map MV.sc)) ∈ σ ∧ ∀ p ∈ σ, p.2.tupless = true) where
  item := fun {A E τ σ s i mv K} hA hi hC S h => by
    refine x0a3 hC fun c1 c2 c3 => ?_; clear hC
    have D := zip_apart S c1 c2
    have sub : ∀ {p}, p ∈ τ ++ σ → p ∈ τ ++ (zipLed z TI TO i1 i2 l1 l2 i ++ σ) := fun {p} hp => by
      rcases List.mem_append.mp hp with h | h
      · exact List.mem_append_left _ h
      · exact List.mem_append_right _ (List.mem_append_right _ h)
    have zin : ∀ {p}, p ∈ zipLed z TI TO i1 i2 l1 l2 i → p ∈ τ ++ (zipLed z TI TO i1 i2 l1 l2 i ++ σ) := fun {p} hp => List.mem_append_right _ (List.mem_append_left _ hp)
    refine x2a2 (S.listIs (sub c1)) fun vs n hv ha => ?_
    refine x2a2 (S.listIs (sub c2)) fun ws m hw hb => ?_
    refine x1a2 (by simpa using hi : ∃ p, (xs.zip ys)[i]? = some p ∧ MV.tup [p.1, p.2] = mv) fun oy1410 hxy qz1412 => ?_; obtain ⟨x, y⟩ := oy1410; subst qz1412
    obtain ⟨hx, hy⟩ : xs[i]? = some x ∧ ys[i]? = some y := by
      rw [List.getElem?_zip_eq_some] at hxy; exact hxy
    refine x1a2 (ha.scGet hx) fun v hv1 hv2 => ?_
    refine x1a2 (hb.scGet hy) fun u hu1 hu2 => ?_
    have hz : IsZip s.heap z TI TO .none := S.at (o := .zipo TI TO) (zin (.head _))
    have hTI : IsPair s.heap TI (.ref i1) (.ref i2) := S.at (o := .prefs i1 i2) (zin (.tail _ (.head _)))
    refine x2a1 (S.at (o := .pairAny) (zin (.tail _ (.tail _ (.head _)))) : ∃ a b, IsPair s.heap TO a b) fun a b hTO => ?_
    have hi1 : s.heap.IsListIter i1 l1 i := S.at (o := .listIter l1 i) (zin (.tail _ (.tail _ (.tail _ (.head _)))))
    have hi2 : s.heap.IsListIter i2 l2 i := S.at (o := .listIter l2 i) (zin (.tail _ (.tail _ (.tail _ (.tail _ (.head _))))))
    refine wpAny_pyNext_zip_item D hz hTI hTO hi1 hi2 hv.isList hw.isList (x := v) (y := u) (by simpa using hv1) (by simpa using hu1) fun h' a1 a2 a3 a4 a5 a6 hk => ⟨_, rfl, ?_⟩
    have hTz : s.heap.objs.size ≠ z := Nat.ne_of_gt (Heap.lt_size hz)
    refine wpAny_letOwnedTupleGo_zip a1 fun h'' hz'' hs'' => ?_
    refine h _ _ ⟨_, rfl, [v, u], 0, hs''.extBut _ _ hTz a5, .cons hv2 (.cons hu2 .nil)⟩ (S.zipStep c3 (fun c o n1 n2 n3 n4 e => hs''.extBut _ _ n1 (hk c o n1 n2 n3 n4 e)) hz'' ⟨_, _, hs''.extBut _ _ D.TOz a2⟩ (a3.extBut hs''.extBut D.i1z) (a4.extBut hs''.extBut D.i2z) s.toks)
  done := fun {A E τ σ s Q} hA hC S h => by
    refine x0a3 hC fun c1 c2 c3 => ?_; clear hC
    have D := zip_apart S c1 c2
    have S : St B (τ ++ (zipLed z TI TO i1 i2 l1 l2 ((xs.zip ys).map fun p => MV.tup [p.1, p.2]).length ++ σ)) s := S
    generalize hN : ((xs.zip ys).map fun p => MV.tup [p.1, p.2]).length = N at S
    have sub : ∀ {p}, p ∈ τ ++ σ → p ∈ τ ++ (zipLed z TI TO i1 i2 l1 l2 N ++ σ) := fun {p} hp => by
      rcases List.mem_append.mp hp with h | h
      · exact List.mem_append_left _ h
      · exact List.mem_append_right _ (List.mem_append_right _ h)
    have zin : ∀ {p}, p ∈ zipLed z TI TO i1 i2 l1 l2 N → p ∈ τ ++ (zipLed z TI TO i1 i2 l1 l2 N ++ σ) := fun {p} hp => List.mem_append_right _ (List.mem_append_left _ hp)
    refine x2a2 (S.listIs (sub c1)) fun vs n hv ha => ?_
    refine x2a2 (S.listIs (sub c2)) fun ws m hw hb => ?_
    have hz : IsZip s.heap z TI TO .none := S.at (o := .zipo TI TO) (zin (.head _))
    have hTI : IsPair s.heap TI (.ref i1) (.ref i2) := S.at (o := .prefs i1 i2) (zin (.tail _ (.head _)))
    refine x2a1 (S.at (o := .pairAny) (zin (.tail _ (.tail _ (.head _)))) : ∃ a b, IsPair s.heap TO a b) fun a b hTO => ?_
    have hi1 : s.heap.IsListIter i1 l1 N := S.at (o := .listIter l1 N) (zin (.tail _ (.tail _ (.tail _ (.head _)))))
    have hi2 : s.heap.IsListIter i2 l2 N := S.at (o := .listIter l2 N) (zin (.tail _ (.tail _ (.tail _ (.tail _ (.head _))))))
    have hlen1 := ha.length
    have hlen2 := hb.length
    have hend : vs.toArray[N]? = none ∨ ws.toArray[N]? = none := by
      simp only [List.length_map, List.length_zip] at hN hlen1 hlen2
      rcases Nat.le_total xs.length ys.length with h | h
      · exact .inl (by simp; lia)
      · exact .inr (by simp; grind)
    refine wpAny_pyNext_zip_end hA D hz hTI hTO hi1 hi2 hv.isList hw.isList hend fun h' hk => h _ ?_
    have P : (zipLed z TI TO i1 i2 l1 l2 N ++ (τ ++ σ)).Perm (τ ++ (zipLed z TI TO i1 i2 l1 l2 N ++ σ)) := List.perm_append_comm_assoc _ _ _
    have S1 := S.perm P
    have nd := S1.nd
    have hne : ∀ p ∈ τ ++ σ, p.1 ≠ z ∧ p.1 ≠ TO ∧ p.1 ≠ i1 ∧ p.1 ≠ i2 := fun p hp => by
      simp only [zipLed, List.cons_append, List.nil_append, List.map_cons, List.nodup_cons, List.mem_cons, not_or] at nd
      refine x0a6 nd fun oy2210 oy2211 oy2212 oy2213 n5 _ => ?_; clear nd; refine x0a5 oy2210 fun _ _ _ _ n1 => ?_; clear oy2210; refine x0a4 oy2211 fun _ _ _ n2 => ?_; clear oy2211; refine x0a3 oy2212 fun _ _ n3 => ?_; clear oy2212; refine x0a2 oy2213 fun _ n4 => ?_; clear oy2213
      have hm := List.mem_map_of_mem (f := (·.1)) hp
      exact ⟨fun q => n1 (q ▸ hm), fun q => n3 (q ▸ hm), fun q => n4 (q ▸ hm), fun q => n5 (q ▸ hm)⟩
    refine ⟨fun b ob hb ht' => ?_, fun p hp => ?_, fun p hp => S1.fresh p (List.mem_append_right _ hp), ?_, S.gens, S.drawn, S.os, S.pos⟩
    · exact hk b ob (S1.neOf (.head _) hb) (S1.neOf (.tail _ (.tail _ (.head _))) hb) (S1.neOf (.tail _ (.tail _ (.tail _ (.head _)))) hb) (S1.neOf (.tail _ (.tail _ (.tail _ (.tail _ (.head _))))) hb) (S1.old b ob hb ht')
    · refine x0a4 (hne p hp) fun n1 n2 n3 n4 => ?_
      exact (S1.is p (List.mem_append_right _ hp)).keep (c3 p hp) fun ob ho => hk _ _ n1 n2 n3 n4 ho
    · rw [List.map_append] at nd
      exact (List.nodup_append.mp nd).2.1
  self := fun {A E τ σ s Q} S h => by
    have hz : IsZip s.heap z TI TO .none := S.at (o := .zipo TI TO) (List.mem_append_right _ (.head _))
    exact wpAny_pyIter_zip hz h
theorem i_zip {z TI TO i1 i2 l1 l2 : Addr} {j : Nat} {Q : Value → Shared → Prop} (S : St B (zipLed z TI TO i1 i2 l1 l2 j ++ σ) s) (h : Q (.ref z) s) : wpAny (model prog B.w) A (pyIter (.ref z)) Q E s := by
  have hz : IsZip s.heap z TI TO .none := S.at (o := .zipo TI TO) (.head _)
  exact wpAny_pyIter_zip hz h
end
end
section
noncomputable abbrev lawLn : List Str := ["script", "cells", "count", "k", "drawn", "share", "value", "ends", "hue", "words", "manners", "word", "text", "heard", "colours", "number", "red", "green", "blue", "told", "rows", "turn", "due", "choices", "rings", "chosen", "flags", "held", "odd", "kept", "total"]
noncomputable abbrev lawGn : List Str := ["len", "range", "zip", "_netrclex", "_law_stream", "_parse_varint", "iter", "hsv_to_rgb", "int", "rgb_to_hsv", "pretty_flags", "sum", "_law_once", "_law_holds", "_law_round", "_law_pattern"]
/-- σ is x and σ1 -/
inductive Rem (x : Addr × VO) : Led → Led → Prop
  | here {σ} : Rem x (x :: σ) σ
  | there {y σ σ1} : Rem x σ σ1 → Rem x (y :: σ) (y :: σ1)
theorem Rem.perm {x σ σ1} (r : Rem x σ σ1) : (x :: σ1).Perm σ := by
  induction r with
  | here => exact .refl _
  | there _ ih => exact (List.Perm.swap _ _ _).trans (.cons _ ih)
/-- σ' tells less than σ, in any order -/
inductive Wk : Led → Led → Prop
  | refl {σ} : Wk σ σ
  | pick {x σ σ1 σ'} : Rem x σ σ1 → Wk σ' σ1 → Wk (x :: σ') σ
  | ns {a m m' σ σ1 σ'} : Rem (a, .ns m) σ σ1 → (∀ p ∈ m', p.2 = none ∨ p ∈ m) → (m'.map (·.1)).Nodup → Wk σ' σ1 → Wk ((a, .ns m') :: σ') σ
  | drop {x σ σ'} : Wk σ' σ → Wk σ' (x :: σ)
theorem Wk.st {B : Base} {s : Shared} {σ' σ : Led} (w : Wk σ' σ) : ∀ {τ : Led}, St B (τ ++ σ) s → St B (τ ++ σ') s := by
  induction w with
  | refl => intro τ S; exact S
  | @pick x σ σ1 σ' r _ ih =>
    intro τ S
    have S1 : St B ((τ ++ [x]) ++ σ1) s := St.perm S (by rw [List.append_assoc]; exact List.Perm.append_left τ r.perm)
    have := ih S1
    rwa [List.append_assoc] at this
  | @ns a m m' σ σ1 σ' r hs hn _ ih =>
    intro τ S
    have S1 : St B (τ ++ (a, .ns m) :: σ1) s := St.perm S (List.Perm.append_left τ r.perm)
    have S2 : St B (τ ++ (a, .ns m') :: σ1) s := S1.repl .mid fun n => by
      refine x1a3 n fun f n nd hm => ?_
      exact k1a3 f n hn (fun p hp mv e => (hs p hp).elim (fun q => by rw [q] at e; cases e) fun q => hm p q mv e)
    have S3 : St B ((τ ++ [(a, .ns m')]) ++ σ1) s := by rw [List.append_assoc]; exact S2
    have := ih S3
    rwa [List.append_assoc] at this
  | @drop x σ σ' _ ih =>
    intro τ S
    exact ih (S.drop (List.Sublist.append_left (List.sublist_cons_self _ _) τ))
theorem St.wk {B : Base} {s : Shared} {σ' σ : Led} (S : St B σ s) (w : Wk σ' σ) : St B σ' s := w.st (τ := []) S
section
variable {B : Base} {σ σ' : Led} {s : Shared} {prog : Program} {A : Around} {E : Value → Shared → Prop} {env : Env} {ln ln' gn gn' : List Str} {cs cs' : List (Str × Addr)} {k : Nat}
theorem execs_append (env : Env) : ∀ xs ys : List Stmt, execs (xs ++ ys) env = (do match ← execs xs env with | .next => execs ys env | f => pure f)
  | [], ys => by rw [arm_execs_nil, pure_bind]; rfl
  | x :: r, ys => by
    rw [List.cons_append, PySem.execs_cons, PySem.execs_cons, bind_assoc]
    congr 1; funext f
    cases f with
    | next => exact execs_append env r ys
    | _ => simp only [pure_bind]
theorem r_seg {xs ys : List Stmt} {Q : Flow → Shared → Prop} (J : Shared → Prop) (h1 : wpAny (model prog B.w) A (execs xs env) (fun f s' => f = .next ∧ J s') E s)
    (h2 : ∀ s', J s' → wpAny (model prog B.w) A (execs ys env) Q E s') : wpAny (model prog B.w) A (execs (xs ++ ys) env) Q E s := by
  rw [execs_append]
  refine wpAny_bind (wpAny_mono h1 (fun f s' hq => ?_) fun _ _ x => x)
  refine x0a2 hq fun qz110 hj => ?_; clear hq; subst qz110
  exact h2 s' hj
/-- a name that the ledger does not tell of -/
theorem r_storeN {x : Str} {v : Value} {m} {mv : MV} {Q : Unit → Shared → Prop} (S : St B σ s) (hE : EnvOk env ln cs gn) (hx : x ∈ ln) (hv : mv.Is s.heap v) (u1 : Upd env.locals (.ns m) (.ns ((x, some mv) :: m)) σ σ') (hn : x ∉ m.map (·.1))
    (h : ∀ s', St B σ' s' → Q () s') : wpAny (model prog B.w) A (storeName env x v) Q E s := by
  refine x1a3 (S.at u1.mem) fun f n nd hf => ?_
  have nt := VO.notTup (S.at u1.mem) rfl
  refine wpAny_storeName_local (hE.loc x hx) n (fun h' hn' hs => h _ (S.upd u1 rfl hs.extBut (s.toks + 1) ⟨_, hn', ?_, fun p hp mw hw => ?_⟩)) ?_
  · rw [List.map_cons, List.nodup_cons]; exact ⟨hn, nd⟩
  · rcases List.mem_cons.mp hp with rfl | hp
    · cases hw; exact k1a2 v (by simp) (hv.extBut hs.extBut nt)
    · refine x1a2 (hf p hp mw hw) fun v' h1 h2 => ?_
      have hne : p.1 ≠ x := fun q => hn (q ▸ List.mem_map_of_mem (f := (·.1)) hp)
      exact k1a2 v' (by simp [hne, h1]) (h2.extBut hs.extBut nt)
  · show (env.scope.kind == .class || (env.scope.kind == .module && env.locals != env.globals)) = false
    rw [hE.kind]; rfl
theorem r_storeN_int {x : Str} {i : Int} {t : Tok} {m} {Q : Unit → Shared → Prop} (S : St B σ s) (hE : EnvOk env ln cs gn) (hx : x ∈ ln) (u1 : Upd env.locals (.ns m) (.ns ((x, some (.sc (.int i))) :: m)) σ σ') (hn : x ∉ m.map (·.1))
    (h : ∀ s', St B σ' s' → Q () s') : wpAny (model prog B.w) A (storeName env x (.int i t)) Q E s := r_storeN (mv := .sc (.int i)) S hE hx (show MV.Is s.heap (.sc (.int i)) (.int i t) from ⟨t, rfl⟩) u1 hn h
theorem r_storeN_str {x : Str} {i : Str} {t : Tok} {m} {Q : Unit → Shared → Prop} (S : St B σ s) (hE : EnvOk env ln cs gn) (hx : x ∈ ln) (u1 : Upd env.locals (.ns m) (.ns ((x, some (.sc (.str i))) :: m)) σ σ') (hn : x ∉ m.map (·.1))
    (h : ∀ s', St B σ' s' → Q () s') : wpAny (model prog B.w) A (storeName env x (.str i t)) Q E s := r_storeN (mv := .sc (.str i)) S hE hx (show MV.Is s.heap (.sc (.str i)) (.str i t) from ⟨t, rfl⟩) u1 hn h
theorem r_storeN_float {x : Str} {i : UInt64} {t : Tok} {m} {Q : Unit → Shared → Prop} (S : St B σ s) (hE : EnvOk env ln cs gn) (hx : x ∈ ln) (u1 : Upd env.locals (.ns m) (.ns ((x, some (.sc (.float i))) :: m)) σ σ') (hn : x ∉ m.map (·.1))
    (h : ∀ s', St B σ' s' → Q () s') : wpAny (model prog B.w) A (storeName env x (.float i t)) Q E s := r_storeN (mv := .sc (.float i)) S hE hx (show MV.Is s.heap (.sc (.float i)) (.float i t) from ⟨t, rfl⟩) u1 hn h
theorem r_storeN_val {x : Str} {a : Addr} {m} {Q : Unit → Shared → Prop} (S : St B σ s) (hE : EnvOk env ln cs gn) (hx : x ∈ ln) (u1 : Upd env.locals (.ns m) (.ns ((x, some (.val (.ref a))) :: m)) σ σ') (hn : x ∉ m.map (·.1))
    (h : ∀ s', St B σ' s' → Q () s') : wpAny (model prog B.w) A (storeName env x (.ref a)) Q E s := r_storeN (mv := .val (.ref a)) S hE hx (show MV.Is s.heap (.val (.ref a)) (.ref a) from rfl) u1 hn h
theorem hcl_rev {cl : List (Str × Addr)} (hnd : (cl.map (·.1)).Nodup) : ∀ p ∈ cl, cl.reverse.lookup p.1 = some p.2 := fun p hp => by
  rw [lookup_rev hnd]; exact lookup_of_mem_nodup hnd hp
structure CompSc (scope : Scope) (ln' fv gn' : List Str) : Prop where
  ok : ScopeOk scope ln' fv gn'
  free : ((scope.names.filter fun p => p.2 == NameKind.free).map (·.1)) = fv
  nd : fv.Nodup
theorem r_compE {elt target iter : Expr} {ifs : List Expr} {scope : Scope} {pos : Pos} {fv : List Str} {Q : Value → Shared → Prop}
    (hE : EnvOk env ln cs gn) (hsc : CompSc scope ln' fv gn') (hfv : cs'.map (·.1) = fv) (hsub : ∀ p ∈ cs', p ∈ cs)
    (hs : ∀ x, foldedSetIterable iter env x = pure x)
    (h : wpAny (model prog B.w) A (eval iter env) (fun x s₁ => wpAny (model prog B.w) A (pyIter x) (CompPack B prog A E target ifs elt ln' cs' gn' env scope cs'.reverse (fun _ D acc σ _ => ∀ s', St B ((D, .list acc) :: σ) s' → Q (.ref D) s')) E s₁) E s) :
    wpAny (model prog B.w) A (eval (.ListComp elt [⟨target, iter, ifs, 0⟩] scope pos) env) Q E s := by
  subst hfv
  exact r_comp hE hsc.ok (closure_of hE hsc.free hsub) (hcl_rev hsc.nd) hs h
theorem swaps_loc {elt : Expr} {gens : List Comprehension} {scope : Scope} {pos py : Pos} {y : Str} {line : Nat} (hE : EnvOk env ln cs gn) (hy : y ∈ ln) (hl : (py.line == pos.line) = true) (hn : (!(scope.names.any fun (n, k) => n == y && (k == .local || k == .cell))) = true) :
    swapsWith (.ListComp elt gens scope pos) (some (.Name y py)) line env = pure true := by
  have e : (env.blockKind == ScopeKind.function) = true := by unfold Env.blockKind; rw [hE.kind]; rfl
  show (pure (env.blockKind == .function && env.kindOf y == some .local && py.line == pos.line && !(scope.names.any fun (n, k) => n == y && (k == .local || k == .cell))) : Sem Bool) = pure true
  rw [e, hE.loc y hy, hl, hn]; rfl
theorem swaps_cell {elt : Expr} {gens : List Comprehension} {scope : Scope} {pos py : Pos} {y : Str} {c : Addr} {line : Nat} (hE : EnvOk env ln cs gn) (hy : (y, c) ∈ cs) :
    swapsWith (.ListComp elt gens scope pos) (some (.Name y py)) line env = pure false := by
  have e : (env.kindOf y == some NameKind.local) = false := by
    rcases (hE.cell _ hy).1 with h | h <;> (rw [h]; rfl)
  show (pure (env.blockKind == .function && env.kindOf y == some .local && py.line == pos.line && !(scope.names.any fun (n, k) => n == y && (k == .local || k == .cell))) : Sem Bool) = pure false
  rw [e, Bool.and_false]; rfl
theorem r_compA {elt target iter : Expr} {ifs : List Expr} {scope : Scope} {pos spos py : Pos} {y : Str} {fv : List Str} {Q : Flow → Shared → Prop}
    (hE : EnvOk env ln cs gn) (hy : y ∈ ln) (hl : (py.line == pos.line) = true) (hn : (!(scope.names.any fun (n, k) => n == y && (k == .local || k == .cell))) = true)
    (hsc : CompSc scope ln' fv gn') (hfv : cs'.map (·.1) = fv) (hsub : ∀ p ∈ cs', p ∈ cs)
    (hs : ∀ x, foldedSetIterable iter env x = pure x)
    (h : wpAny (model prog B.w) A (eval iter env) (fun x s₁ => wpAny (model prog B.w) A (pyIter x) (CompPack B prog A E target ifs elt ln' cs' gn' env scope cs'.reverse (fun C D _ _ s => 
        wpAny (model prog B.w) A (storeName env y (.ref D)) (fun _ s'' => ∃ m' σ'', St B ((C, .ns m') :: σ'') s'' ∧ ∀ s''', St B σ'' s''' → Q .next s''') E s)) E s₁) E s) :
    wpAny (model prog B.w) A (exec (.Assign [.Name y py] (.ListComp elt [⟨target, iter, ifs, 0⟩] scope pos) spos) env) Q E s := by
  subst hfv
  exact r_comp_assign (swaps_loc hE hy hl hn) hE hsc.ok (closure_of hE hsc.free hsub) (hcl_rev hsc.nd) hs h
theorem r_compAC {elt target iter : Expr} {ifs : List Expr} {scope : Scope} {pos spos py : Pos} {y : Str} {c : Addr} {fv : List Str} {Q : Flow → Shared → Prop}
    (hE : EnvOk env ln cs gn) (hy : (y, c) ∈ cs)
    (hsc : CompSc scope ln' fv gn') (hfv : cs'.map (·.1) = fv) (hsub : ∀ p ∈ cs', p ∈ cs)
    (hs : ∀ x, foldedSetIterable iter env x = pure x)
    (h : wpAny (model prog B.w) A (eval iter env) (fun x s₁ => wpAny (model prog B.w) A (pyIter x) (CompPack B prog A E target ifs elt ln' cs' gn' env scope cs'.reverse (fun _ D acc σ _ => ∀ s', St B ((D, .list acc) :: σ) s' → wpAny (model prog B.w) A (storeName env y (.ref D)) (fun _ s'' => Q .next s'') E s')) E s₁) E s) :
    wpAny (model prog B.w) A (exec (.Assign [.Name y py] (.ListComp elt [⟨target, iter, ifs, 0⟩] scope pos) spos) env) Q E s := by
  refine wpAny_Assign_Name (r_compE hE hsc hfv hsub hs ?_) (swaps_cell hE hy)
  exact h
theorem r_slice_lit {elts : List Expr} {lp : Pos} {lower upper : Option Expr} {p pos : Pos} {Q : Value → Shared → Prop}
    (h : wpAny (model prog B.w) A (eval (.List elts lp) env) (fun o s₁ => wpAny (model prog B.w) A (evalPart lower env) (fun vl s₂ => wpAny (model prog B.w) A (evalPart upper env) (fun vu s₃ =>
      ∃ l σ xs lo hi ys, o = .ref l ∧ St B σ s₃ ∧ (l, VO.list xs) ∈ σ ∧ xs.length ≤ sizeLine ∧ IsPart vl lo ∧ IsPart vu hi ∧ PickIs xs lo hi ys ∧ ∀ D s', St B ((D, .list ys) :: σ) s' → Q (.ref D) s') E s₂) E s₁) E s) :
    wpAny (model prog B.w) A (eval (.Subscript (.List elts lp) (.Slice lower upper none p) pos) env) Q E s := by
  refine r_subscr (wpAny_mono h (fun o s₁ h₁ => wpAny_Slice (wpAny_mono h₁ (fun vl s₂ h₂ => wpAny_mono h₂ (fun vu s₃ h₃ => ?_) fun _ _ x => x) fun _ _ x => x)) fun _ _ x => x)
  refine x6a8 h₃ fun l σ xs lo hi ys qz416 S hl hsz pl pu pk hq => ?_; clear h₃; subst qz416
  refine x2a2 (S.listIs hl) fun vs n hv ha => ?_
  refine x1a2 (pk _ _ ha) fun ws e hw => ?_
  rw [evalPart_none]
  refine wpAny_pure ⟨⟨_, _, (hv.isList.push _).typeIs, listGet⟩, wpAny_getItem_list_slice (hv.isList.push _) (Heap.IsSliceOf.new ..) pl pu .none (by simp) ?_ (by simpa [ha.length] using hsz)⟩
  have S1 := S.grow (h' := s₃.heap.push { cls := .type "slice", data := .fields #[vl, vu, .none] }) (fun b o e => Heap.get?_push_of_some _ e) s₃.toks
  rw [e]
  have h2 : AllMV ((s₃.heap.push { cls := .type "slice", data := .fields #[vl, vu, .none] }).push { cls := .type "list", data := .seq ws.toArray }) ys ws := by
    have e : Heap.ExtBut s₃.heap.objs.size s₃.heap ((s₃.heap.push { cls := .type "slice", data := .fields #[vl, vu, .none] }).push { cls := .type "list", data := .seq ws.toArray }) := fun b o _ e => Heap.get?_push_of_some _ (Heap.get?_push_of_some _ e)
    exact hw.extBut e fun cs ⟨_, _, ho, _⟩ => absurd (Heap.lt_size ho) (Nat.lt_irrefl _)
  exact hq _ _ (S1.push (ob := { cls := .type "list", data := .seq ws.toArray }) (o := .list ys) s₃.toks ⟨ws, 0, Heap.get?_push_size _ rfl, h2⟩ (Nat.le_refl _))
/-- a slice of a list that stood before the call -/
theorem r_slice_base {value : Expr} {lower upper : Option Expr} {p pos : Pos} {l : Addr} {vs : List Value} {xs : List Int} {lo hi : Option Int} {ys : List MV} {Q : Value → Shared → Prop} (hv : B.h.IsList l vs.toArray) (ha : IntsAre vs xs) (hsz : xs.length ≤ sizeLine) (pk : PickIs (xs.map MV.int) lo hi ys)
    (h : wpAny (model prog B.w) A (eval value env) (fun o s₁ => wpAny (model prog B.w) A (evalPart lower env) (fun vl s₂ => wpAny (model prog B.w) A (evalPart upper env) (fun vu s₃ =>
      ∃ σ, o = .ref l ∧ St B σ s₃ ∧ IsPart vl lo ∧ IsPart vu hi ∧ ∀ D s', St B ((D, .list ys) :: σ) s' → Q (.ref D) s') E s₂) E s₁) E s) :
    wpAny (model prog B.w) A (eval (.Subscript value (.Slice lower upper none p) pos) env) Q E s := by
  refine r_subscr (wpAny_mono h (fun o s₁ h₁ => wpAny_Slice (wpAny_mono h₁ (fun vl s₂ h₂ => wpAny_mono h₂ (fun vu s₃ h₃ => ?_) fun _ _ x => x) fun _ _ x => x)) fun _ _ x => x)
  refine x1a5 h₃ fun σ qz711 S pl pu hq => ?_; clear h₃; subst qz711
  have hne : l ≠ tabA := fun q => by subst q; refine x1a2 hv fun o ho _ => ?_; clear hv; rw [B.hid] at ho; cases ho
  have hv' : s₃.heap.IsList l vs.toArray := let ⟨o, ho, r⟩ := hv; ⟨o, S.old _ _ ho hne, r⟩
  have ha' : AllMV s₃.heap (xs.map MV.int) vs := by
    clear hsz pk hv hv'
    induction ha with
    | nil => exact .nil
    | cons n t _ ih => exact .cons ⟨t, rfl⟩ ih
  have hlen := ha'.length
  refine x1a2 (pk _ _ ha') fun ws e hw => ?_
  rw [evalPart_none]
  refine wpAny_pure ⟨⟨_, _, (hv'.push _).typeIs, listGet⟩, wpAny_getItem_list_slice (hv'.push _) (Heap.IsSliceOf.new ..) pl pu .none (by simp) ?_ (by simpa [hlen] using hsz)⟩
  have S1 := S.grow (h' := s₃.heap.push { cls := .type "slice", data := .fields #[vl, vu, .none] }) (fun b o e => Heap.get?_push_of_some _ e) s₃.toks
  rw [e]
  have h2 : AllMV ((s₃.heap.push { cls := .type "slice", data := .fields #[vl, vu, .none] }).push { cls := .type "list", data := .seq ws.toArray }) ys ws := by
    have e : Heap.ExtBut s₃.heap.objs.size s₃.heap ((s₃.heap.push { cls := .type "slice", data := .fields #[vl, vu, .none] }).push { cls := .type "list", data := .seq ws.toArray }) := fun b o _ e => Heap.get?_push_of_some _ (Heap.get?_push_of_some _ e)
    exact hw.extBut e fun cs ⟨_, _, ho, _⟩ => absurd (Heap.lt_size ho) (Nat.lt_irrefl _)
  exact hq _ _ (S1.push (ob := { cls := .type "list", data := .seq ws.toArray }) (o := .list ys) s₃.toks ⟨ws, 0, Heap.get?_push_size _ rfl, h2⟩ (Nat.le_refl _))
end
end
section
theorem rm0 {x : Addr × VO} {l : Led} : Rem x (x :: l) (l) := .here
theorem rm1 {e0 x : Addr × VO} {l : Led} : Rem x (e0 :: x :: l) (e0 :: l) := .there rm0
theorem rm2 {e0 e1 x : Addr × VO} {l : Led} : Rem x (e0 :: e1 :: x :: l) (e0 :: e1 :: l) := .there rm1
theorem rm3 {e0 e1 e2 x : Addr × VO} {l : Led} : Rem x (e0 :: e1 :: e2 :: x :: l) (e0 :: e1 :: e2 :: l) := .there rm2
theorem rm4 {e0 e1 e2 e3 x : Addr × VO} {l : Led} : Rem x (e0 :: e1 :: e2 :: e3 :: x :: l) (e0 :: e1 :: e2 :: e3 :: l) := .there rm3
theorem rm5 {e0 e1 e2 e3 e4 x : Addr × VO} {l : Led} : Rem x (e0 :: e1 :: e2 :: e3 :: e4 :: x :: l) (e0 :: e1 :: e2 :: e3 :: e4 :: l) := .there rm4
theorem rm6 {e0 e1 e2 e3 e4 e5 x : Addr × VO} {l : Led} : Rem x (e0 :: e1 :: e2 :: e3 :: e4 :: e5 :: x :: l) (e0 :: e1 :: e2 :: e3 :: e4 :: e5 :: l) := .there rm5
theorem rm7 {e0 e1 e2 e3 e4 e5 e6 x : Addr × VO} {l : Led} : Rem x (e0 :: e1 :: e2 :: e3 :: e4 :: e5 :: e6 :: x :: l) (e0 :: e1 :: e2 :: e3 :: e4 :: e5 :: e6 :: l) := .there rm6
theorem rm8 {e0 e1 e2 e3 e4 e5 e6 e7 x : Addr × VO} {l : Led} : Rem x (e0 :: e1 :: e2 :: e3 :: e4 :: e5 :: e6 :: e7 :: x :: l) (e0 :: e1 :: e2 :: e3 :: e4 :: e5 :: e6 :: e7 :: l) := .there rm7
end
section
noncomputable abbrev lawCs (c1 c2 c3 c4 c5 c6 c7 c8 c9 c10 c11 c12 c13 : Addr) : List (Str × Addr) :=
  [("most", c13), ("touched", c12), ("mask", c11), ("broken", c10), ("t", c9), ("spot", c8), ("row", c7), ("ties", c6), ("size", c5), ("sign", c4), ("line", c3), ("second", c2), ("places", c1)]
noncomputable def cellsOf (script : List Int) : List Int := script.take 7 ++ ([498, 1443518242, 3, 12, 1, 4, 5] : List Int).drop (script.take 7).length
theorem cellsOf_len (script : List Int) : (cellsOf script).length = 7 := by
  unfold cellsOf; simp only [List.length_append, List.length_drop, List.length_take, List.length_cons, List.length_nil]; omega
section
variable {B : Base} {σ σ' : Led} {s : Shared} {prog : Program} {A : Around} {E : Value → Shared → Prop} {env : Env} {k : Nat} {c1 c2 c3 c4 c5 c6 c7 c8 c9 c10 c11 c12 c13 : Addr}
theorem r_local0 {x : Str} {pos : Pos} {m} {u : Value} {j : Nat} {cs : List (Str × Addr)} {ln gn : List Str} {Q : Value → Shared → Prop} (S : St B σ { s with toks := j }) (hE : EnvOk env ln cs gn) (hx : x ∈ ln) (hm : (env.locals, VO.ns m) ∈ σ) (hv : (x, some (MV.val u)) ∈ m)
    (h : Q u s) : wpAny (model prog B.w) A (eval (.Name x pos) env) Q E s := by
  refine x1a3 (S.at hm) fun f n _ hf => ?_
  refine x1a2 (hf _ hv _ rfl) fun v h1 h2 => ?_
  obtain rfl : v = u := h2
  exact wpAny_Name (wpAny_loadName_local hE.kind (hE.loc x hx) n h1 h) (hE.nodebug x (by simp [hx]))
theorem segA_walk {script : List Int} {ls : Addr} {vs : List Value} {ρ : Led} {J : Shared → Prop} (hE : EnvOk env lawLn (lawCs c1 c2 c3 c4 c5 c6 c7 c8 c9 c10 c11 c12 c13) lawGn) (hA : Ok A (k + 5))
    (S0 : St0 B ((env.locals, .ns [("script", some (.ref ls))]) :: ρ) s) (hn : script.length ≤ 63) (hv : B.h.IsList ls vs.toArray) (ha : IntsAre vs script)
    (h : ∀ D s', St B ((D, .list ((cellsOf script).map MV.int)) :: (env.locals, .ns [("cells", some (.ref D))]) :: ρ) s' → J s') : wpAny (model prog B.w) A (execs (lawBody.take 2) env) (fun f s' => f = .next ∧ J s') E s := by
  show wpAny _ _ (execs [_, _] _) _ _ _
  with_reducible refine execs_consH fun Jz hJz => ?_
  with_reducible refine wpAny_Assign_Name ?_ rfl
  refine r_slice_base hv ha (by unfold sizeLine; omega) (PickIs.upto 7) ?_
  have S : St B ((env.locals, .ns [("script", some (.ref ls))]) :: ρ) { s with toks := s.toks + 1 } := S0 _ (Nat.lt_succ_self _)
  refine r_local0 S hE me0 me0 me0 ?_
  refine evalPart_none_step ?_
  refine evalPart_some_step (wpAny_Constant_int ?_)
  refine k1a5 _ rfl S .none (.int _ _) (fun D s1 S1 => ?_)
  rw [← List.map_take] at S1
  with_reducible refine r_storeN_val ‹_› ‹_› me1 up1 (nw (by kernel_rfl!)) fun _ _ => ?_
  with_reducible refine execs_oneB ?_
  with_reducible refine wpAny_Assign_Name ?_ rfl
  with_reducible refine wpAny_BinOp ?_
  with_reducible refine r_local_val ‹_› ‹_› me1 me1 me0 ?_
  with_reducible refine r_slice_lit ?_
  with_reducible refine r_list_lit ?_
  with_reducible refine wpAny_items_cons ?_ rfl
  with_reducible refine r_int ‹_› fun _ _ _ => ?_
  with_reducible refine wpAny_items_cons ?_ rfl
  with_reducible refine r_int ‹_› fun _ _ _ => ?_
  with_reducible refine wpAny_items_cons ?_ rfl
  with_reducible refine r_int ‹_› fun _ _ _ => ?_
  with_reducible refine wpAny_items_cons ?_ rfl
  with_reducible refine r_int ‹_› fun _ _ _ => ?_
  with_reducible refine wpAny_items_cons ?_ rfl
  with_reducible refine r_int ‹_› fun _ _ _ => ?_
  with_reducible refine items_two ?_ rfl rfl
  with_reducible refine r_int ‹_› fun _ _ _ => ?_
  with_reducible refine r_int ‹_› fun _ _ _ => ?_
  with_reducible refine lit_intro szA ‹_› (by with_reducible exact .aint (.aint (.aint (.aint (.aint (.aint (.aint .nil))))))) fun _ _ _ => ?_
  with_reducible refine evalPart_some_step ?_
  with_reducible refine r_callB rfl ?_
  with_reducible refine r_global ‹_› ‹_› me0 (by exact gv_len _) ?_
  with_reducible refine nr_builtin ?_
  with_reducible refine items_one ?_ rfl
  with_reducible refine r_local_val ‹_› ‹_› me1 me2 me0 ?_
  with_reducible refine r_len_list ‹_› me1 szA fun _ _ _ => ?_
  with_reducible refine evalPart_none_step ?_
  with_reducible refine slice_intro ‹_› me0 szA (by first | exact IsPart.none | exact IsPart.int _ _) (by first | exact IsPart.none | exact IsPart.int _ _) (by first | exact PickIs.from _ | exact PickIs.upto _) fun _ _ _ => ?_
  with_reducible refine r_ladd ‹_› me2 me0 szA fun _ _ _ => ?_
  with_reducible refine r_store_val ‹_› ‹_› me1 up4 un0 fun _ _ => ?_
  with_reducible refine Hb.go ‹_› ?_
  with_reducible refine And.intro rfl ?_
  rename_i D2 _ _ sF SF
  refine h D2 _ ?_
  have e : (cellsOf script).map MV.int = (script.take 7).map MV.int ++ ([498, 1443518242, 3, 12, 1, 4, 5].map MV.int).drop ((script.take 7).map MV.int).length := by
    unfold cellsOf; rw [List.map_append, List.map_drop, List.length_map]
  rw [e]
  simp only [List.map_cons, List.map_nil]
  exact St.wk SF (.pick rm0 (.ns rm3 (fc (.inr me0) fn) (nd (by kernel_rfl!)) (.drop (.drop (.drop .refl)))))
end
end
section
noncomputable abbrev nMV (n : Nat) : MV := .int (n : Int)
section
variable {B : Base} {σ σ' : Led} {s : Shared} {prog : Program} {A : Around} {E : Value → Shared → Prop} {env : Env} {k : Nat} {c1 c2 c3 c4 c5 c6 c7 c8 c9 c10 c11 c12 c13 : Addr}
theorem segB_walk {cs : List Int} {D : Addr} {ρ : Led} {J : Shared → Prop} (hE : EnvOk env lawLn (lawCs c1 c2 c3 c4 c5 c6 c7 c8 c9 c10 c11 c12 c13) lawGn) (hA : Ok A (k + 5)) (hcs : cs.length = 7)
    (S : St B ((D, .list (cs.map MV.int)) :: (env.locals, .ns [("cells", some (.ref D))]) :: (c1, .cell none) :: (c2, .cell none) :: ρ) s)
    (h : ∀ (cnt : Nat) (pl : List Nat) (sec : Nat) (P : Addr) (s' : Shared), (cnt = 4 ∨ cnt = 5) → pl.length = cnt → pl.Pairwise (· < ·) → (∀ p ∈ pl, p < 20) → sec < 2147483648 →
      St B ((P, .list (pl.map nMV)) :: (D, .list (cs.map MV.int)) :: (env.locals, .ns [("count", some (.int cnt)), ("cells", some (.ref D))]) :: (c1, .cell (some (.ref P))) :: (c2, .cell (some (.int sec))) :: ρ) s' → J s') :
    wpAny (model prog B.w) A (execs ((lawBody.drop 2).take 4) env) (fun f s' => f = .next ∧ J s') E s := by
  obtain ⟨x0, x1, cr, rfl⟩ : ∃ x0 x1 cr, cs = x0 :: x1 :: cr := by
    match cs, hcs with
    | x0 :: x1 :: cr, _ => exact k3a1 x0 x1 cr rfl
  refine x1a2 (⟨(4 + x0 % 2).toNat, by grind, by lia⟩ : ∃ cnt : Nat, (4 : Int) + x0 % 2 = cnt ∧ (cnt = 4 ∨ cnt = 5)) fun cnt hcnt hc4 => ?_
  have hcr : cr.length = 5 := by simpa using hcs
  show wpAny _ _ (execs [_, _, _, _] _) _ _ _
  with_reducible refine execs_consH fun Jz hJz => ?_
  with_reducible refine wpAny_Assign_Name ?_ rfl
  with_reducible refine wpAny_BinOp ?_
  with_reducible refine r_int ‹_› fun _ _ _ => ?_
  with_reducible refine wpAny_BinOp ?_
  with_reducible refine r_subscr ?_
  with_reducible refine r_local_val ‹_› ‹_› me1 me1 me0 ?_
  with_reducible refine r_int ‹_› fun _ _ _ => ?_
  with_reducible refine g_list ‹_› me0 ?_
  refine r_item_list (i := 0) ‹_› me0 rfl rfl (by simp; unfold sizeLine; lia) ?_
  rintro _ or1
  refine x1a1 or1 fun tw qz011 => ?_; clear or1; subst qz011
  with_reducible refine r_int ‹_› fun _ _ _ => ?_
  with_reducible refine r_mod ‹_› (by decide) fun _ _ _ => ?_
  with_reducible refine r_add ‹_› fun _ _ _ => ?_
  with_reducible refine r_storeN_int ‹_› ‹_› me2 up1 (nw (by kernel_rfl!)) fun _ _ => ?_
  with_reducible refine execs_consB ?_
  with_reducible refine wpAny_Assign_Name ?_ rfl
  with_reducible refine r_list_lit ?_
  with_reducible refine items_one ?_ rfl
  with_reducible refine wpAny_BinOp ?_
  with_reducible refine wpAny_BinOp ?_
  with_reducible refine r_subscr ?_
  with_reducible refine r_local_val ‹_› ‹_› me1 me1 me1 ?_
  with_reducible refine r_int ‹_› fun _ _ _ => ?_
  with_reducible refine g_list ‹_› me0 ?_
  rw [hcnt] at *
  refine r_item_list (i := 0) ‹_› me0 rfl rfl (by simp; unfold sizeLine; lia) ?_
  rintro _ or2
  refine x1a1 or2 fun tw qz111 => ?_; clear or2; subst qz111
  with_reducible refine r_int ‹_› fun _ _ _ => ?_
  with_reducible refine r_fdiv ‹_› (by decide) (by decide) fun _ _ _ => ?_
  with_reducible refine r_int ‹_› fun _ _ _ => ?_
  with_reducible refine r_mod ‹_› (by decide) fun _ _ _ => ?_
  with_reducible refine lit_intro szA ‹_› (by with_reducible exact .aint .nil) fun _ _ _ => ?_
  with_reducible refine r_storeC_val ‹_› ‹_› me12 up3 fun _ _ => ?_
  with_reducible refine execs_consB ?_
  with_reducible refine r_for ?_ (fun _ => rfl)
  with_reducible refine r_callB rfl ?_
  with_reducible refine r_global ‹_› ‹_› me1 (by exact gv_range _) ?_
  with_reducible refine nr_type ?_
  with_reducible refine items_two ?_ rfl rfl
  with_reducible refine r_int ‹_› fun _ _ _ => ?_
  with_reducible refine r_local_int ‹_› ‹_› me2 me2 me0 fun _ => ?_
  with_reducible refine r_range2 ‹_› fun _ _ _ _ _ _ _ => ?_
  rename_i P _ _ _ _ _ _ _ _ rr _ _ _ _ hR S5
  refine x1a2 (⟨(x0 / 2 % 4).toNat, by lia, by lia⟩ : ∃ p0 : Nat, x0 / 2 % 4 = p0 ∧ p0 < 4) fun p0 hp0 hp0' => ?_
  refine i_range (n := cnt - 1) S5 hR (by lia) (by lia) (by omega) fun I s6 S6 => ?_
  rw [hp0] at S6
  refine codeAny_mono (R := fun r s' => r = .ok .next ∧ ∃ (pl : List Nat) (o : Option MV), pl.length = cnt ∧ pl.Pairwise (· < ·) ∧ (∀ p ∈ pl, p < 20) ∧ 
    St B ((P, .list (pl.map nMV)) :: (D, .list ((x0 :: x1 :: cr).map MV.int)) :: (env.locals, .ns [("k", o), ("count", some (.int cnt)), ("cells", some (.ref D))]) :: (c1, .cell (some (.ref P))) :: (c2, .cell none) :: ρ) s') ?_ ?_
  · refine b_range (k := k + 5) (fun i σ' => ∃ (pl : List Nat) (l : Nat) (o : Option MV), pl.length = i ∧ (pl ++ [l]).Pairwise (· < ·) ∧ l ≤ 3 + 4 * i ∧
      σ' = (P, .list ((pl ++ [l]).map nMV)) :: (D, .list ((x0 :: x1 :: cr).map MV.int)) :: (env.locals, .ns [("k", o), ("count", some (.int cnt)), ("cells", some (.ref D))]) :: (c1, .cell (some (.ref P))) :: (c2, .cell none) :: ρ) hA ?_ ?_ ⟨[], p0, none, rfl, by simp, by lia, rfl⟩ (St.wk S6 (by simp only [List.nil_append, List.map_cons, List.map_nil]; exact .pick rm0 (.pick rm0 (.pick rm0 (.ns rm0 (fc (.inl rfl) (fc (.inr me0) (fc (.inr me1) fn))) (nd (by kernel_rfl!)) .refl)))))
    · rintro i _ s t hi or3
      refine x3a4 or3 fun pl l o hpl hpw hl qz416 => ?_; clear or3; subst qz416
      rintro S7 N
      clear S6 S5 S
      intro J hJ
      with_reducible refine wpAny_assign_Name ?_
      with_reducible refine r_store_int ‹_› ‹_› me3 up3 un0 fun _ _ => ?_
      with_reducible refine execs_oneB ?_
      with_reducible refine r_expr ‹_› ?_ rfl
      with_reducible refine r_method rfl rfl rfl rfl ?_
      with_reducible refine r_cell_val ‹_› ‹_› me12 me4 ?_
      with_reducible refine mList PySem.F.slot_list_append PySem.F.type_list_append ‹_› me1 ?_
      with_reducible refine items_one ?_ rfl
      with_reducible refine wpAny_BinOp ?_
      with_reducible refine wpAny_BinOp ?_
      with_reducible refine r_subscr ?_
      with_reducible refine r_cell_val ‹_› ‹_› me12 me4 ?_
      with_reducible refine wpAny_UnaryOp ?_
      with_reducible refine r_int ‹_› fun _ _ _ => ?_
      with_reducible refine r_neg ‹_› fun _ _ _ => ?_
      with_reducible refine g_list ‹_› me1 ?_
      refine r_item_last ‹_› me1 (mv := nMV l) (by simp) (by simp; unfold sizeLine; lia) ?_
      rintro _ or4
      refine x1a1 or4 fun tl qz211 => ?_; clear or4; subst qz211
      with_reducible refine r_int ‹_› fun _ _ _ => ?_
      with_reducible refine r_add ‹_› fun _ _ _ => ?_
      with_reducible refine wpAny_BinOp ?_
      with_reducible refine wpAny_BinOp ?_
      with_reducible refine wpAny_BinOp ?_
      with_reducible refine r_subscr ?_
      with_reducible refine r_local_val ‹_› ‹_› me1 me3 me2 ?_
      with_reducible refine r_int ‹_› fun _ _ _ => ?_
      with_reducible refine g_list ‹_› me2 ?_
      refine r_item_list (i := 0) ‹_› me2 rfl rfl (by simp; unfold sizeLine; lia) ?_
      rintro _ or5
      refine x1a1 or5 fun tw qz311 => ?_; clear or5; subst qz311
      with_reducible refine r_int ‹_› fun _ _ _ => ?_
      with_reducible refine r_fdiv ‹_› (by decide) (by decide) fun _ _ _ => ?_
      with_reducible refine wpAny_BinOp ?_
      with_reducible refine r_int ‹_› fun _ _ _ => ?_
      with_reducible refine r_local_int ‹_› ‹_› me3 me3 me0 fun _ => ?_
      refine r_pow (n := i + 1) ‹_› (by lia) (by decide) (by lia) fun t9 s9 S9 => ?_
      have hp4 : ∀ i, i < 5 → (0 : Int) < 4 ^ (i + 1) ∧ ((4 : Int) ^ (i + 1)).natAbs < 2 ^ 64 := by decide
      refine r_fdiv ‹_› (hp4 i (by omega)).1 (hp4 i (by omega)).2 fun t10 s10 S10 => ?_
      with_reducible refine r_int ‹_› fun _ _ _ => ?_
      with_reducible refine r_mod ‹_› (by decide) fun _ _ _ => ?_
      with_reducible refine r_add ‹_› fun _ _ _ => ?_
      with_reducible refine r_lappend_int ‹_› up1 szA fun _ _ => ?_
      with_reducible refine And.intro rfl ?_
      with_reducible refine Hb.go ‹_› ?_
      refine x1a2 (⟨(x0 / 2 / 4 ^ (i + 1) % 4).toNat, by lia, by grind⟩ : ∃ d : Nat, x0 / 2 / 4 ^ (i + 1) % 4 = d ∧ d < 4) fun d hd hd' => ?_
      simp only [hd] at *
      refine k1a2 _ (k3a4 (pl ++ [l]) (l + 1 + d) (some (.int (1 + (i : Int)))) (by simp; omega) ?_ (by lia) rfl) ?_
      · rw [List.pairwise_append]
        refine ⟨hpw, by simp, fun x hx y hy => ?_⟩
        simp at hy; subst hy
        rcases List.mem_append.mp hx with hx | hx
        · have := (List.pairwise_append.mp hpw).2.2 x hx l (by simp); lia
        · simp at hx; subst hx; lia
      · rename_i S11
        have e : ((l : Int) + 1 + d) = ((l + 1 + d : Nat) : Int) := by lia
        simp only [e] at S11
        simp only [List.map_append, List.map_cons, List.map_nil] at S11 ⊢
        exact St.wk S11 .refl
    · rintro _ s or6
      refine x3a4 or6 fun pl l o hpl hpw hl qz816 => ?_; clear or6; subst qz816
      rintro S7 N
      with_reducible refine wpAny_execs_nil ?_
      with_reducible refine And.intro rfl ?_
      refine k2a4 (pl ++ [l]) o (by simp; lia) hpw (fun p hp => ?_) S7
      rcases List.mem_append.mp hp with hp | hp
      · have := (List.pairwise_append.mp hpw).2.2 p hp l (by simp); lia
      · simp at hp; subst hp; lia
  · rintro r s7 or7
    refine x0a2 or7 fun qz910 oz91 => ?_; clear or7; subst qz910; refine x2a4 oz91 fun pl o h1 h2 h3 S7 => ?_; clear oz91
    dsimp only
    clear S6 S5 S
    with_reducible refine execs_oneB ?_
    with_reducible refine wpAny_Assign_Name ?_ rfl
    with_reducible refine wpAny_BinOp ?_
    with_reducible refine r_subscr ?_
    with_reducible refine r_local_val ‹_› ‹_› me1 me2 me2 ?_
    with_reducible refine r_int ‹_› fun _ _ _ => ?_
    with_reducible refine g_list ‹_› me1 ?_
    refine r_item_list (i := 1) ‹_› me1 rfl rfl (by simp; unfold sizeLine; lia) ?_
    rintro _ or8
    refine x1a1 or8 fun tw qz411 => ?_; clear or8; subst qz411
    with_reducible refine wpAny_BinOp ?_
    with_reducible refine r_int ‹_› fun _ _ _ => ?_
    with_reducible refine r_int ‹_› fun _ _ _ => ?_
    refine r_pow (n := 31) ‹_› rfl (by decide) (by decide) fun t9 s9 S9 => ?_
    rw [show (2 : Int) ^ 31 = 2147483648 by decide]
    with_reducible refine r_mod ‹_› (by decide) fun _ _ _ => ?_
    with_reducible refine r_storeC_int ‹_› ‹_› me11 up4 fun _ _ => ?_
    with_reducible refine Hb.go ‹_› ?_
    with_reducible refine And.intro rfl ?_
    refine x1a2 (⟨(x1 % 2147483648).toNat, by lia, by lia⟩ : ∃ sec : Nat, x1 % 2147483648 = sec ∧ sec < 2147483648) fun sec hsec hsec' => ?_
    simp only [hsec] at *
    exact h cnt pl sec P _ hc4 h1 h2 h3 hsec' (St.wk ‹_› (.pick rm0 (.pick rm0 (.ns rm0 (fc (.inr me1) (fc (.inr me2) fn)) (nd (by kernel_rfl!)) .refl))))
end
end
section
open Float64
noncomputable def tupLed (qs : List (Addr × Nat × Nat)) : Led := qs.map fun q => (q.1, .tuple [.int q.2.1, .int q.2.2])
section
variable {B : Base} {σ σ' : Led} {s : Shared} {prog : Program} {A : Around} {E : Value → Shared → Prop} {env : Env} {k : Nat} {c1 c2 c3 c4 c5 c6 c7 c8 c9 c10 c11 c12 c13 : Addr}
theorem segC_walk {cs : List Int} {D P : Addr} {cnt sec : Nat} {pl : List Nat} {ρ : Led} {J : Shared → Prop} (hE : EnvOk env lawLn (lawCs c1 c2 c3 c4 c5 c6 c7 c8 c9 c10 c11 c12 c13) lawGn) (hA : Ok A (k + 5)) (hcs : cs.length = 7)
    (hcnt : cnt = 4 ∨ cnt = 5) (hsec : sec < 2147483648)
    (S : St B ((D, .list (cs.map MV.int)) :: (env.locals, .ns [("count", some (.int cnt)), ("cells", some (.ref D))]) :: (c2, .cell (some (.int sec))) :: ρ) s)
    (h : ∀ (hues : List Nat) (sh va : Nat) (Dr : Addr) (s' : Shared), hues.length = 3 → (∀ n ∈ hues, n < 256) → sh < 4 → va < 4 → 
      St B ((Dr, .list (hues.map nMV)) :: (D, .list (cs.map MV.int)) :: (env.locals, .ns [("drawn", some (.ref Dr)), ("share", some (.float (fl (1 + sh) 4))), ("value", some (.float (fl (1 + va) 4))), ("count", some (.int cnt)), ("cells", some (.ref D))]) :: (c2, .cell (some (.int sec))) :: ρ) s' → J s') :
    wpAny (model prog B.w) A (execs ((lawBody.drop 6).take 3) env) (fun f s' => f = .next ∧ J s') E s := by
  show wpAny _ _ (execs [_, _, _] _) _ _ _
  with_reducible refine execs_consH fun Jz hJz => ?_
  refine' r_compA (ln' := ["k"]) (cs' := [("second", c2)]) (fv := ["second"]) (gn' := []) hE ?q_c4 rfl ?q_c5 ?q_c1 rfl ?q_c2 ?q_c3 ?_
  case q_c1 => exact ⟨scO rfl (by decide +kernel), by decide +kernel, by decide +kernel⟩
  case q_c2 => exact fc me11 fn
  case q_c3 => intro _; rfl
  case q_c4 => exact me4
  case q_c5 => decide +kernel
  with_reducible refine r_callB rfl ?_
  with_reducible refine r_global ‹_› ‹_› me1 (by exact gv_range _) ?_
  with_reducible refine nr_type ?_
  with_reducible refine items_one ?_ rfl
  with_reducible refine r_int ‹_› fun _ _ _ => ?_
  with_reducible refine r_range1 ‹_› fun _ _ _ _ _ _ _ => ?_
  rename_i hR S5
  refine i_range (n := 3) S5 hR (by decide) (by decide) (by decide) fun I s6 S6 => ?_
  refine CompPack.of_range (fun i => some (nMV (sec / 256 ^ i % 256))) S6 hA.handled (by decide) ?_ ?_
  · rintro C D' cenv hE' hc i x acc s2 v rfl hx S2 or1
    refine x1a1 or1 fun tv qz011 => ?_; clear or1; subst qz011
    rintro N
    simp only [noneNs, List.map_cons, List.map_nil] at S2
    with_reducible refine wpAny_assign_Name ?_
    with_reducible refine r_store_int ‹_› ‹_› me0 up0 un0 fun _ _ => ?_
    with_reducible refine wpAny_tests_nil ?_
    with_reducible refine go_true ?_
    with_reducible refine wpAny_BinOp ?_
    with_reducible refine wpAny_BinOp ?_
    with_reducible refine r_cell_int ‹_› ‹_› me0 me5 fun _ => ?_
    with_reducible refine wpAny_BinOp ?_
    with_reducible refine r_int ‹_› fun _ _ _ => ?_
    with_reducible refine r_local_int ‹_› ‹_› me0 me0 me0 fun _ => ?_
    refine r_pow (n := x) ‹_› (by lia) (by decide) (leB ‹_› rfl) fun t9 s9 S9 => ?_
    have hp : ∀ i, i < 3 → (0 : Int) < 256 ^ i ∧ ((256 : Int) ^ i).natAbs < 2 ^ 64 := by decide
    refine r_fdiv ‹_› (hp x hx).1 (hp x hx).2 fun t10 s10 S10 => ?_
    with_reducible refine r_int ‹_› fun _ _ _ => ?_
    with_reducible refine r_mod ‹_› (by decide) fun _ _ _ => ?_
    rename_i S11
    exact ⟨_, _, rfl, ⟨_, by rw [show (((sec / 256 ^ x % 256 : Nat)) : Int) = (sec : Int) / 256 ^ x % 256 by simp]⟩, rfl, S11⟩
  · intro C D' s2 S2
    clear S6 S5
    have hl : (List.range 3).filterMap (fun i => some (nMV (sec / 256 ^ i % 256))) = ([sec % 256, sec / 256 % 256, sec / 65536 % 256] : List Nat).map nMV := by
      simp [List.range, List.range.loop, nMV]
    rw [hl] at S2
    with_reducible refine r_storeN_val ‹_› ‹_› me4 up3 (nw (by kernel_rfl!)) fun _ _ => ?_
    rename_i S3
    refine k2a2 _ _ S3 (fun s3 S3 => ?_)
    with_reducible refine execs_consB ?_
    with_reducible refine wpAny_Assign_Name ?_ rfl
    with_reducible refine wpAny_BinOp ?_
    with_reducible refine wpAny_BinOp ?_
    with_reducible refine r_int ‹_› fun _ _ _ => ?_
    with_reducible refine wpAny_BinOp ?_
    with_reducible refine wpAny_BinOp ?_
    with_reducible refine r_cell_int ‹_› ‹_› me11 me3 fun _ => ?_
    with_reducible refine wpAny_BinOp ?_
    with_reducible refine r_int ‹_› fun _ _ _ => ?_
    with_reducible refine r_int ‹_› fun _ _ _ => ?_
    refine r_pow (n := 24) ‹_› rfl (by decide) (by decide) fun t9 s9 S9 => ?_
    rw [show (2 : Int) ^ 24 = 16777216 by decide]
    with_reducible refine r_fdiv ‹_› (by decide) (by decide) fun _ _ _ => ?_
    with_reducible refine r_int ‹_› fun _ _ _ => ?_
    with_reducible refine r_mod ‹_› (by decide) fun _ _ _ => ?_
    with_reducible refine r_add ‹_› fun _ _ _ => ?_
    with_reducible refine r_int ‹_› fun _ _ _ => ?_
    refine r_idivi (m := 1 + sec / 16777216 % 4) (n := 4) ‹_› (by lia) rfl (by decide) (quarter_ok _ (by grind)) fun t10 s10 S10 => ?_
    with_reducible refine r_storeN_float ‹_› ‹_› me5 up2 (nw (by kernel_rfl!)) fun _ _ => ?_
    with_reducible refine execs_oneB ?_
    with_reducible refine wpAny_Assign_Name ?_ rfl
    with_reducible refine wpAny_BinOp ?_
    with_reducible refine wpAny_BinOp ?_
    with_reducible refine r_int ‹_› fun _ _ _ => ?_
    with_reducible refine wpAny_BinOp ?_
    with_reducible refine wpAny_BinOp ?_
    with_reducible refine r_cell_int ‹_› ‹_› me11 me3 fun _ => ?_
    with_reducible refine wpAny_BinOp ?_
    with_reducible refine r_int ‹_› fun _ _ _ => ?_
    with_reducible refine r_int ‹_› fun _ _ _ => ?_
    refine r_pow (n := 26) ‹_› rfl (by decide) (by decide) fun t9 s9 S9 => ?_
    rw [show (2 : Int) ^ 26 = 67108864 by decide]
    with_reducible refine r_fdiv ‹_› (by decide) (by decide) fun _ _ _ => ?_
    with_reducible refine r_int ‹_› fun _ _ _ => ?_
    with_reducible refine r_mod ‹_› (by decide) fun _ _ _ => ?_
    with_reducible refine r_add ‹_› fun _ _ _ => ?_
    with_reducible refine r_int ‹_› fun _ _ _ => ?_
    refine r_idivi (m := 1 + sec / 67108864 % 4) (n := 4) ‹_› (by lia) rfl (by decide) (quarter_ok _ (by grind)) fun t10 s10 S10 => ?_
    with_reducible refine r_storeN_float ‹_› ‹_› me6 up2 (nw (by kernel_rfl!)) fun _ _ => ?_
    with_reducible refine Hb.go ‹_› ?_
    with_reducible refine And.intro rfl ?_
    refine h [sec % 256, sec / 256 % 256, sec / 65536 % 256] (sec / 16777216 % 4) (sec / 67108864 % 4) D' _ rfl (by simp; grind) (by grind) (by grind) (St.wk ‹_› (.pick rm0 (.pick rm0 (.ns rm0 (fc (.inr me2) (fc (.inr me1) (fc (.inr me0) (fc (.inr me3) (fc (.inr me4) fn))))) (nd (by kernel_rfl!)) .refl))))
end
end
section
open Float64
section
variable {B : Base} {σ σ' : Led} {s : Shared} {prog : Program} {A : Around} {E : Value → Shared → Prop} {env : Env} {k : Nat} {c1 c2 c3 c4 c5 c6 c7 c8 c9 c10 c11 c12 c13 : Addr}
theorem forIn_nil_true {cenv : Env} : (forIn ([] : List Expr) true fun c r => if r = true then do let ok ← isTrue c cenv (eval c cenv); pure (ForInStep.yield ok) else pure (ForInStep.yield r) : Sem Bool) = pure true := by rw [List.forIn_nil]
theorem CompPack.of_list_tup {ln' gn' : List Str} {cs' : List (Str × Addr)} {target elt : Expr} {scope : Scope} {cl : List (Str × Addr)} {fin : Addr → Addr → List MV → Led → Shared → Prop} {I l : Addr} {items : List MV} {α : Type} (xs : List α) (emb : α → MV) (f : α → Nat × Nat)
    (S : St B ((I, .listIter l 0) :: σ) s) (hl : (l, VO.list items) ∈ σ) (hit : items = xs.map emb) (hA : A.handled = none) (hsz : xs.length ≤ sizeLine)
    (turn : ∀ C D cenv, EnvOk cenv ln' cs' gn' → cenv = compEnvC scope cl C env → ∀ (i : Nat) (x : α) (acc : List MV) (qs : List (Addr × Nat × Nat)) (s : Shared) (v : Value), xs[i]? = some x → St B ((cenv.locals, .ns (noneNs ln')) :: (D, .list acc) :: (I, .listIter l (i + 1)) :: (tupLed qs ++ σ)) s → (emb x).Is s.heap v → ∀ N : Value → Shared → Prop,
      wpAny (model prog B.w) A (assign target cenv v) (fun _ s₂ => wpAny (model prog B.w) A (eval elt cenv) (fun y s₄ => ∃ a m', y = .ref a ∧ m'.map (·.1) = ln' ∧ St B ((cenv.locals, .ns m') :: (D, .list acc) :: (I, .listIter l (i + 1)) :: (a, .tuple [.int (f x).1, .int (f x).2]) :: (tupLed qs ++ σ)) s₄) N s₂) N s)
    (done : ∀ C D qs s, qs.map (·.2) = (xs.map f).reverse → St B ((C, .ns (noneNs ln')) :: (D, .list (qs.reverse.map fun q => MV.ref q.1)) :: (tupLed qs ++ σ)) s → fin C D (qs.reverse.map fun q => MV.ref q.1) (tupLed qs ++ σ) s) :
    CompPack B prog A E target [] elt ln' cs' gn' env scope cl fin (.ref I) s := by
  refine ⟨I, items, fun i => [(I, .listIter l i)], fun σ => (l, VO.list items) ∈ σ, fun i acc σ' => ∃ qs, qs.map (·.2) = ((xs.take i).map f).reverse ∧ acc = (qs.reverse.map fun q => MV.ref q.1) ∧ σ' = tupLed qs ++ σ, σ, rfl, Src.list, by rw [hit]; simpa using hsz, hA, ?_, S, ⟨[], rfl, rfl, rfl⟩, ?_, ?_⟩
  · rintro C D i acc σ' or1
    refine x1a3 or1 fun qs _ _ qz013 => ?_; clear or1; subst qz013
    exact List.mem_append_right _ (List.mem_append_right _ hl)
  · rintro C D cenv hE' hc i mv acc σ' s v hi or2
    refine x1a3 or2 fun qs hq qz112 qz113 => ?_; clear or2; subst qz112; subst qz113
    rintro S hv N
    subst hit
    refine x1a2 (by simpa using hi : ∃ x, xs[i]? = some x ∧ emb x = mv) fun x hx qz212 => ?_; subst qz212
    refine wpAny_mono (turn C D cenv hE' hc i x _ qs s v hx S hv N) (fun _ s₂ h₂ => ?_) fun _ _ x => x
    rw [forIn_nil_true]
    refine wpAny_pure ?_
    rw [if_pos rfl]
    refine wpAny_mono h₂ (fun y s₃ h₃ => ?_) fun _ _ x => x
    refine x2a3 h₃ fun a m' qz312 hk S' => ?_; clear h₃; subst qz312
    refine k3a4 (MV.ref a) m' _ (k1a3 ((a, f x) :: qs) ?_ ?_ rfl) rfl hk S'
    · rw [List.map_cons, hq, List.take_add_one, hx]; simp
    · simp
  · rintro C D acc σ' s or3
    refine x1a3 or3 fun qs hq qz412 qz413 => ?_; clear or3; subst qz412; subst qz413
    rintro S
    subst hit
    refine done C D qs s (by rw [hq]; simp) S
noncomputable def tieOf (x : Int) : Nat × Nat := ((x % 4).toNat, ((x % 4 + 1 + x / 4 % 3) % 4).toNat)
theorem tieOf_ok (x : Int) : (tieOf x).1 < 4 ∧ (tieOf x).2 < 4 ∧ (tieOf x).1 ≠ (tieOf x).2 := by unfold tieOf; lia
theorem segD_walk {cs : List Int} {D Dr : Addr} {fS fV : UInt64} {cnt : Nat} {m : List (Str × Option MV)} {ρ : Led} {J : Shared → Prop} (hE : EnvOk env lawLn (lawCs c1 c2 c3 c4 c5 c6 c7 c8 c9 c10 c11 c12 c13) lawGn) (hA : Ok A (k + 5)) (hcs : cs.length = 7)
    (hcnt : cnt = 4 ∨ cnt = 5)
    (S : St B ((D, .list (cs.map MV.int)) :: (env.locals, .ns [("count", some (.int cnt)), ("cells", some (.ref D)), ("drawn", some (.ref Dr)), ("share", some (.float fS)), ("value", some (.float fV))]) :: ρ) s)
    (h : ∀ (qs : List (Addr × Nat × Nat)) (Ed : Addr) (s' : Shared), qs.length = cnt → (∀ q ∈ qs, q.2.1 < 4 ∧ q.2.2 < 4 ∧ q.2.1 ≠ q.2.2) → 
      St B ((Ed, .list (qs.map fun q => MV.ref q.1)) :: (D, .list (cs.map MV.int)) :: (env.locals, .ns [("ends", some (.ref Ed)), ("count", some (.int cnt)), ("cells", some (.ref D)), ("drawn", some (.ref Dr)), ("share", some (.float fS)), ("value", some (.float fV))]) :: (tupLed qs ++ ρ)) s' → J s') :
    wpAny (model prog B.w) A (execs ((lawBody.drop 9).take 1) env) (fun f s' => f = .next ∧ J s') E s := by
  show wpAny _ _ (execs [_] _) _ _ _
  with_reducible refine execs_one ?_
  refine' r_compA (ln' := ["x"]) (cs' := []) (fv := []) (gn' := []) hE ?q_c4 rfl ?q_c5 ?q_c1 rfl ?q_c2 ?q_c3 ?_
  case q_c1 => exact ⟨scO rfl (by decide +kernel), by decide +kernel, by decide +kernel⟩
  case q_c2 => exact fn
  case q_c3 => intro _; rfl
  case q_c4 => exact me7
  case q_c5 => decide +kernel
  with_reducible refine r_slice_list ?_ (fun _ _ => rfl)
  with_reducible refine r_local_val ‹_› ‹_› me1 me1 me1 ?_
  with_reducible refine evalPart_some_step ?_
  with_reducible refine r_int ‹_› fun _ _ _ => ?_
  with_reducible refine evalPart_some_step ?_
  with_reducible refine wpAny_BinOp ?_
  with_reducible refine r_int ‹_› fun _ _ _ => ?_
  with_reducible refine r_local_int ‹_› ‹_› me2 me1 me0 fun _ => ?_
  with_reducible refine r_add ‹_› fun _ _ _ => ?_
  have h27 : 2 + cnt ≤ cs.length := by lia
  refine' slice_intro ?q_S ?q_m ?q_z (IsPart.int 2 _) (IsPart.int _ _) (lo := some ((2 : Nat) : Int)) (hi := some ((2 + cnt : Nat) : Int)) (PickIs.run (xs := cs.map MV.int) (a := 2) (b := 2 + cnt) (by lia) (by simpa using h27)) ?_
  case q_S => assumption
  case q_m => exact me0
  case q_z => simp [hcs]; decide
  intro D2 s3 S3
  have hsl : (List.drop 2 (List.map MV.int cs)).take (2 + cnt - 2) = ((cs.drop 2).take cnt).map MV.int := by rw [← List.map_drop, ← List.map_take]; congr 2; lia
  rw [hsl] at S3
  with_reducible refine i_list ‹_› me0 fun _ _ _ => ?_
  rename_i I s4 S4
  refine CompPack.of_list_tup ((cs.drop 2).take cnt) MV.int tieOf S4 me0 rfl hA.handled (by simp; unfold sizeLine; omega) ?_ ?_
  · rintro C D' cenv hE' hc i x acc qs s2 v hx S2 or4
    obtain ⟨tv, rfl⟩ := or4
    rintro N
    simp only [noneNs, List.map_cons, List.map_nil] at S2
    clear S4 S3
    with_reducible refine wpAny_assign_Name ?_
    with_reducible refine r_store_int ‹_› ‹_› me0 up0 un0 fun _ _ => ?_
    with_reducible refine r_tuple_lit ?_
    with_reducible refine items_two ?_ rfl rfl
    with_reducible refine wpAny_BinOp ?_
    with_reducible refine r_local_int ‹_› ‹_› me0 me0 me0 fun _ => ?_
    with_reducible refine r_int ‹_› fun _ _ _ => ?_
    with_reducible refine r_mod ‹_› (by decide) fun _ _ _ => ?_
    with_reducible refine wpAny_BinOp ?_
    with_reducible refine wpAny_BinOp ?_
    with_reducible refine wpAny_BinOp ?_
    with_reducible refine wpAny_BinOp ?_
    with_reducible refine r_local_int ‹_› ‹_› me0 me0 me0 fun _ => ?_
    with_reducible refine r_int ‹_› fun _ _ _ => ?_
    with_reducible refine r_mod ‹_› (by decide) fun _ _ _ => ?_
    with_reducible refine r_int ‹_› fun _ _ _ => ?_
    with_reducible refine r_add ‹_› fun _ _ _ => ?_
    with_reducible refine wpAny_BinOp ?_
    with_reducible refine wpAny_BinOp ?_
    with_reducible refine r_local_int ‹_› ‹_› me0 me0 me0 fun _ => ?_
    with_reducible refine r_int ‹_› fun _ _ _ => ?_
    with_reducible refine r_fdiv ‹_› (by decide) (by decide) fun _ _ _ => ?_
    with_reducible refine r_int ‹_› fun _ _ _ => ?_
    with_reducible refine r_mod ‹_› (by decide) fun _ _ _ => ?_
    with_reducible refine r_add ‹_› fun _ _ _ => ?_
    with_reducible refine r_int ‹_› fun _ _ _ => ?_
    with_reducible refine r_mod ‹_› (by decide) fun _ _ _ => ?_
    with_reducible refine lit_intro szA ‹_› (by with_reducible exact .int (.int .nil)) fun _ _ _ => ?_
    have e1 : (((tieOf x).1 : Nat) : Int) = x % 4 := by unfold tieOf; lia
    have e2 : (((tieOf x).2 : Nat) : Int) = (x % 4 + 1 + x / 4 % 3) % 4 := by unfold tieOf; lia
    rename_i a3 s5 S5
    refine k2a3 a3 ([("x", some (.int x))]) rfl rfl ?_
    rw [e1, e2]
    exact St.wk S5 (.pick rm1 (.pick rm1 (.pick rm1 .refl)))
  · intro C D' qs s2 hqs S2
    clear S4 S3
    have S3 := St.perm S2 (.cons _ (.cons _ (List.perm_append_comm_assoc [_, _, _] (tupLed qs) ρ)))
    simp only [List.cons_append, List.nil_append] at S3
    clear S2
    with_reducible refine r_storeN_val ‹_› ‹_› me7 up4 (nw (by kernel_rfl!)) fun _ _ => ?_
    rename_i S5
    refine k2a2 _ _ S5 (fun s6 S6 => ?_)
    with_reducible refine And.intro rfl ?_
    have hlen := congrArg List.length hqs
    simp only [List.length_map, List.length_reverse, List.length_take, List.length_drop, hcs] at hlen
    refine h qs.reverse D' _ (by simp; lia) (fun q hq => ?_) ?_
    · have : q.2 ∈ qs.map (·.2) := List.mem_map_of_mem (by simpa using hq)
      rw [hqs] at this
      refine x1a2 (List.mem_map.mp (List.mem_reverse.mp this)) fun x _ hx => ?_
      rw [← hx]; exact tieOf_ok x
    · have S7 := St.wk S6 (σ' := (D', .list (qs.reverse.map fun q => MV.ref q.1)) :: (D, .list (cs.map MV.int)) :: (env.locals, .ns [("ends", some (.ref D')), ("count", some (.int cnt)), ("cells", some (.ref D)), ("drawn", some (.ref Dr)), ("share", some (.float fS)), ("value", some (.float fV))]) :: (tupLed qs ++ ρ)) (.pick rm0 (.pick rm1 (.pick rm1 (.drop .refl))))
      refine St.perm S7 (.cons _ (.cons _ (.cons _ (List.Perm.append_right ρ ?_))))
      unfold tupLed
      rw [List.map_reverse]; exact List.reverse_perm _
end
end
section
open Float64
noncomputable def tieW (q : Nat × Nat) : Str := ⟨#[119 + q.1]⟩ ++ ⟨#[119 + q.2]⟩
theorem wx_at : ∀ a, a < 4 → ((seqIndex? ((a : Nat) : Int) (Str.ofString "wxyz").length).bind fun j => (Str.ofString "wxyz").cps[j]?) = some (119 + a) := by decide +kernel
section
variable {B : Base} {σ σ' : Led} {s : Shared} {prog : Program} {A : Around} {E : Value → Shared → Prop} {env : Env} {k : Nat} {c1 c2 c3 c4 c5 c6 c7 c8 c9 c10 c11 c12 c13 : Addr}
theorem tup_at {qs : List (Addr × Nat × Nat)} {q : Addr × Nat × Nat} (S : St B σ s) (hs : ∀ p ∈ tupLed qs, p ∈ σ) (hq : q ∈ qs) : TupAt s.heap q.1 [.int q.2.1, .int q.2.2] :=
  S.at (o := .tuple _) (hs _ (List.mem_map_of_mem (f := fun q : Addr × Nat × Nat => (q.1, VO.tuple [.int q.2.1, .int q.2.2])) hq))
theorem filterMap_some {α β : Type} (f : α → β) : ∀ l : List α, l.filterMap (fun x => some (f x)) = l.map f
  | [] => rfl
  | x :: r => by simp
theorem segE_walk {cs : List Int} {D Dr Ed : Addr} {fS fV : UInt64} {cnt sec : Nat} {hues : List Nat} {qs : List (Addr × Nat × Nat)} {ρ : Led} {J : Shared → Prop} (hE : EnvOk env lawLn (lawCs c1 c2 c3 c4 c5 c6 c7 c8 c9 c10 c11 c12 c13) lawGn) (hA : Ok A (k + 5)) (hcs : cs.length = 7)
    (hcnt : cnt = 4 ∨ cnt = 5) (hsec : sec < 2147483648) (hh : hues.length = 3) (hh2 : ∀ n ∈ hues, n < 256) (hq : qs.length = cnt) (hq2 : ∀ q ∈ qs, q.2.1 < 4 ∧ q.2.2 < 4 ∧ q.2.1 ≠ q.2.2)
    (S : St B ((Ed, .list (qs.map fun q => MV.ref q.1)) :: (D, .list (cs.map MV.int)) :: (Dr, .list (hues.map nMV)) :: (env.locals, .ns [("ends", some (.ref Ed)), ("drawn", some (.ref Dr)), ("count", some (.int cnt)), ("cells", some (.ref D)), ("share", some (.float fS)), ("value", some (.float fV))]) :: (c2, .cell (some (.int sec))) :: (tupLed qs ++ ρ)) s)
    (h : ∀ (mans : List Int) (Wd Md : Addr) (s' : Shared), mans.length = 3 + cnt → 
      St B ((Md, .list (mans.map MV.int)) :: (Wd, .list ((hues.map octets ++ qs.map fun q => tieW q.2).map MV.str)) :: (Ed, .list (qs.map fun q => MV.ref q.1)) :: (Dr, .list (hues.map nMV)) :: (env.locals, .ns [("manners", some (.ref Md)), ("words", some (.ref Wd)), ("ends", some (.ref Ed)), ("drawn", some (.ref Dr)), ("count", some (.int cnt)), ("share", some (.float fS)), ("value", some (.float fV))]) :: (tupLed qs ++ ρ)) s' → J s') :
    wpAny (model prog B.w) A (execs ((lawBody.drop 10).take 2) env) (fun f s' => f = .next ∧ J s') E s := by
  show wpAny _ _ (execs [_, _] _) _ _ _
  with_reducible refine execs_consH fun Jz hJz => ?_
  with_reducible refine wpAny_Assign_Name ?_ rfl
  with_reducible refine wpAny_BinOp ?_
  refine' r_compE (ln' := ["hue"]) (cs' := []) (fv := []) (gn' := ["_law_octets"]) hE ?q_c1 rfl ?q_c2 ?q_c3 ?_
  case q_c1 => exact ⟨scO rfl (by decide +kernel), by decide +kernel, by decide +kernel⟩
  case q_c2 => exact fn
  case q_c3 => intro _; rfl
  with_reducible refine r_local_val ‹_› ‹_› me4 me3 me1 ?_
  with_reducible refine i_list ‹_› me2 fun _ _ _ => ?_
  rename_i I s4 S4
  refine CompPack.of_list hues nMV (fun n => some (MV.str (octets n))) S4 me2 rfl hA.handled (by (unfold sizeLine; lia)) ?_ ?_
  · rintro C D' cenv hE' hc i x acc s2 v hx S2 or1
    refine x1a1 or1 fun tv qz011 => ?_; clear or1; subst qz011
    rintro N
    simp only [noneNs, List.map_cons, List.map_nil] at S2
    have hx' := hh2 x (List.mem_of_getElem? hx)
    clear S4
    with_reducible refine wpAny_assign_Name ?_
    with_reducible refine r_store_int ‹_› ‹_› me0 up0 un0 fun _ _ => ?_
    with_reducible refine wpAny_tests_nil ?_
    with_reducible refine go_true ?_
    with_reducible refine r_callF ‹_› ‹_› me0 (gv_octets _) rfl rfl rfl (by decide) ?_
    with_reducible refine items_one ?_ rfl
    with_reducible refine r_local_int ‹_› ‹_› me0 me0 me0 fun _ => ?_
    (with_reducible refine And.intro ⟨_, by assumption⟩ ?_; with_reducible show wpAny _ _ (call (Value.ref _) _) _ _ _)
    refine octets_spec ‹_› hA (leB ‹_› rfl) fun t5 s5 S5 => ?_
    exact ⟨_, _, rfl, ⟨_, rfl⟩, rfl, S5⟩
  intro C D1 s2 _ s3 S3
  rw [filterMap_some] at S3
  clear S4
  refine' r_compE (ln' := ["a", "b"]) (cs' := []) (fv := []) (gn' := []) hE ?q_c1 rfl ?q_c2 ?q_c3 ?_
  case q_c1 => exact ⟨scO rfl (by decide +kernel), by decide +kernel, by decide +kernel⟩
  case q_c2 => exact fn
  case q_c3 => intro _; rfl
  with_reducible refine r_local_val ‹_› ‹_› me7 me4 me0 ?_
  with_reducible refine i_list ‹_› me1 fun _ _ _ => ?_
  rename_i I s4 S4
  refine CompPack.of_list qs (fun q => MV.ref q.1) (fun q => some (MV.str (tieW q.2))) S4 me1 rfl hA.handled (by (unfold sizeLine; lia)) ?_ ?_
  · rintro C D' cenv hE' hc i x acc s2 v hx S2 hv N
    obtain rfl : v = .ref x.1 := hv
    have hxq := List.mem_of_getElem? hx
    have hx' := hq2 x hxq
    have ht : TupAt s2.heap x.1 [.int x.2.1, .int x.2.2] := tup_at S2 (fun p hp => by simp [hp]) hxq
    simp only [noneNs, List.map_cons, List.map_nil] at S2
    clear S4
    ((with_reducible refine' r_unpack2 ?q_uS_57 ?q_uA_57 ?q_ut_57 ?_); (case q_uS_57 => assumption); (case q_uA_57 => exact Ok.handled ‹_›); (case q_ut_57 => assumption); (intro _ _ _ _); (dsimp only [Sc.val]))
    with_reducible refine r_store_int ‹_› ‹_› me0 up0 un0 fun _ _ => ?_
    with_reducible refine r_store_int ‹_› ‹_› me1 up0 un1 fun _ _ => ?_
    with_reducible refine wpAny_tests_nil ?_
    with_reducible refine go_true ?_
    with_reducible refine wpAny_BinOp ?_
    with_reducible refine r_subscr ?_
    with_reducible refine r_str ‹_› fun _ _ _ => ?_
    with_reducible refine r_local_int ‹_› ‹_› me0 me0 me0 fun _ => ?_
    with_reducible refine g_str ?_
    refine r_getc ‹_› (by omega) (wx_at _ hx'.1) fun t5 s5 S5 => ?_
    with_reducible refine r_subscr ?_
    with_reducible refine r_str ‹_› fun _ _ _ => ?_
    with_reducible refine r_local_int ‹_› ‹_› me1 me0 me1 fun _ => ?_
    with_reducible refine g_str ?_
    refine r_getc ‹_› (by omega) (wx_at _ hx'.2.1) fun t5 s5 S5 => ?_
    with_reducible refine r_sadd ‹_› szA fun _ _ _ => ?_
    rename_i S6
    exact ⟨_, _, rfl, ⟨_, rfl⟩, rfl, S6⟩
  intro C D2 s2 _ s5 S5
  rw [filterMap_some] at S5
  clear S4
  with_reducible refine r_ladd ‹_› me1 me0 szA fun _ _ _ => ?_
  with_reducible refine r_storeN_val ‹_› ‹_› me9 up6 (nw (by kernel_rfl!)) fun _ _ => ?_
  with_reducible refine execs_oneB ?_
  with_reducible refine wpAny_Assign_Name ?_ rfl
  with_reducible refine wpAny_BinOp ?_
  rename_i Wd s6 S6 s7 S7
  have hW : hues.map (fun x => MV.str (octets x)) ++ qs.map (fun q => MV.str (tieW q.2)) = (hues.map octets ++ qs.map fun q => tieW q.2).map MV.str := by simp [Function.comp_def]
  rw [hW] at S7
  have S8 := St.wk S7 (σ' := (Wd, .list ((hues.map octets ++ qs.map fun q => tieW q.2).map MV.str)) :: (Ed, .list (qs.map fun q => MV.ref q.1)) :: (D, .list (cs.map MV.int)) :: (Dr, .list (hues.map nMV)) :: (env.locals, .ns [("words", some (.ref Wd)), ("ends", some (.ref Ed)), ("drawn", some (.ref Dr)), ("count", some (.int cnt)), ("cells", some (.ref D)), ("share", some (.float fS)), ("value", some (.float fV))]) :: (c2, .cell (some (.int sec))) :: (tupLed qs ++ ρ)) (.pick rm0 (.pick rm2 (.pick rm2 (.pick rm2 (.pick rm2 (.pick rm2 (.drop (.drop .refl))))))))
  clear S7 S6 S5 S3 S hW
  refine' r_compE (ln' := ["k"]) (cs' := [("second", c2)]) (fv := ["second"]) (gn' := []) hE ?q_c1 rfl ?q_c2 ?q_c3 ?_
  case q_c1 => exact ⟨scO rfl (by decide +kernel), by decide +kernel, by decide +kernel⟩
  case q_c2 => exact fc me11 fn
  case q_c3 => intro _; rfl
  with_reducible refine r_callB rfl ?_
  with_reducible refine r_global ‹_› ‹_› me1 (by exact gv_range _) ?_
  with_reducible refine nr_type ?_
  with_reducible refine items_one ?_ rfl
  with_reducible refine r_int ‹_› fun _ _ _ => ?_
  with_reducible refine r_range1 ‹_› fun _ _ _ _ _ _ _ => ?_
  rename_i hR S5
  refine i_range (n := 3) S5 hR (by decide) (by decide) (by decide) fun I s6 S6 => ?_
  refine CompPack.of_range (fun i => some (MV.int (((sec / 2 ^ (28 + i) % 2 : Nat)) : Int))) S6 hA.handled (by decide) ?_ ?_
  · rintro C D' cenv hE' hc i x acc s2 v rfl hx S2 or2
    refine x1a1 or2 fun tv qz111 => ?_; clear or2; subst qz111
    rintro N
    simp only [noneNs, List.map_cons, List.map_nil] at S2
    clear S6 S5
    with_reducible refine wpAny_assign_Name ?_
    with_reducible refine r_store_int ‹_› ‹_› me0 up0 un0 fun _ _ => ?_
    with_reducible refine wpAny_tests_nil ?_
    with_reducible refine go_true ?_
    with_reducible refine wpAny_BinOp ?_
    with_reducible refine wpAny_BinOp ?_
    with_reducible refine r_cell_int ‹_› ‹_› me0 me8 fun _ => ?_
    with_reducible refine wpAny_BinOp ?_
    with_reducible refine r_int ‹_› fun _ _ _ => ?_
    with_reducible refine wpAny_BinOp ?_
    with_reducible refine r_int ‹_› fun _ _ _ => ?_
    with_reducible refine r_local_int ‹_› ‹_› me0 me0 me0 fun _ => ?_
    with_reducible refine r_add ‹_› fun _ _ _ => ?_
    refine r_pow (n := 28 + x) ‹_› (by lia) (by decide) (by lia) fun t9 s9 S9 => ?_
    have hp : ∀ i, i < 3 → (0 : Int) < 2 ^ (28 + i) ∧ ((2 : Int) ^ (28 + i)).natAbs < 2 ^ 64 := by decide
    refine r_fdiv ‹_› (hp x hx).1 (hp x hx).2 fun t10 s10 S10 => ?_
    with_reducible refine r_int ‹_› fun _ _ _ => ?_
    with_reducible refine r_mod ‹_› (by decide) fun _ _ _ => ?_
    rename_i S11
    exact ⟨_, _, rfl, ⟨_, by rw [show (((sec / 2 ^ (28 + x) % 2 : Nat)) : Int) = (sec : Int) / 2 ^ (28 + x) % 2 by simp]⟩, rfl, S11⟩
  intro C D3 s2 _ s9 S9
  rw [filterMap_some] at S9
  clear S6 S5
  refine' r_compE (ln' := ["x"]) (cs' := []) (fv := []) (gn' := []) hE ?q_c1 rfl ?q_c2 ?q_c3 ?_
  case q_c1 => exact ⟨scO rfl (by decide +kernel), by decide +kernel, by decide +kernel⟩
  case q_c2 => exact fn
  case q_c3 => intro _; rfl
  with_reducible refine r_slice_list ?_ (fun _ _ => rfl)
  with_reducible refine r_local_val ‹_› ‹_› me1 me5 me4 ?_
  with_reducible refine evalPart_some_step ?_
  with_reducible refine r_int ‹_› fun _ _ _ => ?_
  with_reducible refine evalPart_some_step ?_
  with_reducible refine wpAny_BinOp ?_
  with_reducible refine r_int ‹_› fun _ _ _ => ?_
  with_reducible refine r_local_int ‹_› ‹_› me2 me5 me3 fun _ => ?_
  with_reducible refine r_add ‹_› fun _ _ _ => ?_
  have h27 : 2 + cnt ≤ cs.length := by lia
  refine' slice_intro ?q_S ?q_m ?q_z (IsPart.int 2 _) (IsPart.int _ _) (lo := some ((2 : Nat) : Int)) (hi := some ((2 + cnt : Nat) : Int)) (PickIs.run (xs := cs.map MV.int) (a := 2) (b := 2 + cnt) (by lia) (by simpa using h27)) ?_
  case q_S => assumption
  case q_m => exact me3
  case q_z => simp [hcs]; decide
  intro D4 s10 S10
  have hsl : (List.drop 2 (List.map MV.int cs)).take (2 + cnt - 2) = ((cs.drop 2).take cnt).map MV.int := by rw [← List.map_drop, ← List.map_take]; congr 2; lia
  rw [hsl] at S10
  with_reducible refine i_list ‹_› me0 fun _ _ _ => ?_
  rename_i I s4 S4
  refine CompPack.of_list ((cs.drop 2).take cnt) MV.int (fun x => some (MV.int (x / 12 % 2))) S4 me0 rfl hA.handled (by simp; (unfold sizeLine; grind)) ?_ ?_
  · rintro C D' cenv hE' hc i x acc s2 v hx S2 or3
    refine x1a1 or3 fun tv qz211 => ?_; clear or3; subst qz211
    rintro N
    simp only [noneNs, List.map_cons, List.map_nil] at S2
    clear S4 S10
    with_reducible refine wpAny_assign_Name ?_
    with_reducible refine r_store_int ‹_› ‹_› me0 up0 un0 fun _ _ => ?_
    with_reducible refine wpAny_tests_nil ?_
    with_reducible refine go_true ?_
    with_reducible refine wpAny_BinOp ?_
    with_reducible refine wpAny_BinOp ?_
    with_reducible refine r_local_int ‹_› ‹_› me0 me0 me0 fun _ => ?_
    with_reducible refine r_int ‹_› fun _ _ _ => ?_
    with_reducible refine r_fdiv ‹_› (by decide) (by decide) fun _ _ _ => ?_
    with_reducible refine r_int ‹_› fun _ _ _ => ?_
    with_reducible refine r_mod ‹_› (by decide) fun _ _ _ => ?_
    rename_i S11
    exact ⟨_, _, rfl, ⟨_, rfl⟩, rfl, S11⟩
  intro C D5 s11 _ s12 S12
  rw [filterMap_some] at S12
  clear S4 S10
  have hl1 : ((List.range 3).map fun i => MV.int (((sec / 2 ^ (28 + i) % 2 : Nat)) : Int)).length = 3 := by simp
  have hl2 : (((cs.drop 2).take cnt).map fun x => MV.int (x / 12 % 2)).length = cnt := by simp [hcs]; lia
  refine r_ladd S12 me2 me0 (by rw [hl1, hl2]; (unfold sizeLine; lia)) fun Md s13 S13 => ?_
  with_reducible refine r_storeN_val ‹_› ‹_› me10 up8 (nw (by kernel_rfl!)) fun _ _ => ?_
  with_reducible refine Hb.go ‹_› ?_
  with_reducible refine And.intro rfl ?_
  rename_i s14 S14
  refine h (((List.range 3).map fun i => (((sec / 2 ^ (28 + i) % 2 : Nat)) : Int)) ++ ((cs.drop 2).take cnt).map fun x => x / 12 % 2) Wd Md _ (by simp [hcs]; lia) (St.wk S14 ?_)
  have e : (((List.range 3).map fun i => (((sec / 2 ^ (28 + i) % 2 : Nat)) : Int)) ++ ((cs.drop 2).take cnt).map fun x => x / 12 % 2).map MV.int = ((List.range 3).map fun i => MV.int (((sec / 2 ^ (28 + i) % 2 : Nat)) : Int)) ++ (((cs.drop 2).take cnt).map fun x => MV.int (x / 12 % 2)) := by
    rw [List.map_append, List.map_map, List.map_map]; rfl
  rw [e]
  exact .pick rm0 (.pick rm3 (.pick rm3 (.pick rm4 (.ns rm4 (fc (.inr me0) (fc (.inr me1) (fc (.inr me2) (fc (.inr me3) (fc (.inr me4) (fc (.inr me6) (fc (.inr me7) fn))))))) (nd (by kernel_rfl!)) (.drop (.drop (.drop (.drop (.drop .refl)))))))))
end
end
section
open Float64
section
variable {B : Base} {σ σ' : Led} {s : Shared} {prog : Program} {A : Around} {E : Value → Shared → Prop} {env : Env} {k : Nat} {c1 c2 c3 c4 c5 c6 c7 c8 c9 c10 c11 c12 c13 : Addr}
theorem CompPack.zip {ln' gn' : List Str} {cs' : List (Str × Addr)} {elts : List Expr} {x1 : Nat} {tpos : Pos} {elt : Expr} {scope : Scope} {cl : List (Str × Addr)} {fin : Addr → Addr → List MV → Led → Shared → Prop} {z TI TO i1 i2 l1 l2 : Addr} (xs ys : List Sc) (g : Sc × Sc → MV)
    (S : St B (zipLed z TI TO i1 i2 l1 l2 0 ++ σ) s) (h1 : (l1, VO.list (xs.map MV.sc)) ∈ σ) (h2 : (l2, VO.list (ys.map MV.sc)) ∈ σ) (ht : ∀ p ∈ σ, p.2.tupless = true) (hg : ∀ p, (g p).tupless = true) (hA : A.handled = none) (hsz : (xs.zip ys).length ≤ sizeLine)
    (turn : ∀ C D cenv, EnvOk cenv ln' cs' gn' → cenv = compEnvC scope cl C env → ∀ (i : Nat) (x : Sc × Sc) (acc : List MV) (s : Shared) (v : Value), (xs.zip ys)[i]? = some x → St B ((cenv.locals, .ns (noneNs ln')) :: (D, .list acc) :: (zipLed z TI TO i1 i2 l1 l2 (i + 1) ++ σ)) s → (MV.tup [x.1, x.2]).Is s.heap v → ∀ N : Value → Shared → Prop,
      wpAny (model prog B.w) A (assign (.Tuple elts x1 tpos) cenv v) (fun _ s₂ => wpAny (model prog B.w) A (eval elt cenv) (fun y s₄ => ∃ m', (g x).Is s₄.heap y ∧ m'.map (·.1) = ln' ∧ St B ((cenv.locals, .ns m') :: (D, .list acc) :: (zipLed z TI TO i1 i2 l1 l2 (i + 1) ++ σ)) s₄) N s₂) N s)
    (done : ∀ C D s, St B ((C, .ns (noneNs ln')) :: (D, .list ((xs.zip ys).map g)) :: σ) s → fin C D ((xs.zip ys).map g) σ s) :
    CompPack B prog A E (.Tuple elts x1 tpos) [] elt ln' cs' gn' env scope cl fin (.ref z) s := by
  refine ⟨z, (xs.zip ys).map fun p => MV.tup [p.1, p.2], zipLed z TI TO i1 i2 l1 l2, _, fun i acc σ' => σ' = σ ∧ acc = ((xs.zip ys).take i).map g, σ, rfl, Src.zip (xs := xs) (ys := ys), by rw [List.length_map]; exact hsz, hA, ?_, S, ⟨rfl, rfl⟩, ?_, ?_⟩
  · rintro C D i acc σ' or1
    refine x0a2 or1 fun qz010 qz011 => ?_; clear or1; subst qz010; subst qz011
    refine ⟨List.mem_append_right _ h1, List.mem_append_right _ h2, fun p hp => ?_⟩
    simp only [List.cons_append, List.nil_append, List.mem_cons] at hp
    rcases hp with rfl | rfl | hp
    · show (noneNs ln').all _ = true
      rw [List.all_eq_true]
      intro q hq
      rw [noneNs_none ln' q hq]
    · show (((xs.zip ys).take i).map g).all MV.tupless = true
      rw [List.all_map, List.all_eq_true]
      intro q _; exact hg q
    · skip
      exact ht p hp
  · rintro C D cenv hE' hc i mv acc σ' s v hi or2
    refine x0a2 or2 fun qz110 qz111 => ?_; clear or2; subst qz110; subst qz111
    rintro S hv N
    obtain ⟨x, hx, rfl⟩ : ∃ x, (xs.zip ys)[i]? = some x ∧ MV.tup [x.1, x.2] = mv := by
      rw [List.getElem?_map] at hi; exact Option.map_eq_some_iff.mp hi
    refine wpAny_mono (turn C D cenv hE' hc i x _ s v hx S hv N) (fun _ s₂ h₂ => ?_) fun _ _ x => x
    rw [forIn_nil_true]
    refine wpAny_pure ?_
    rw [if_pos rfl]
    refine wpAny_mono h₂ (fun y s₃ h₃ => ?_) fun _ _ x => x
    refine x1a3 h₃ fun m' hy hk S' => ?_; clear h₃
    refine k3a4 (g x) m' _ ⟨rfl, ?_⟩ hy hk S'
    rw [List.take_add_one, hx]; simp
  · rintro C D acc σ' s or3
    refine x0a2 or3 fun qz310 qz311 => ?_; clear or3; subst qz310; subst qz311
    rintro S
    rw [List.length_map, List.take_length] at S ⊢
    exact done C D s S
theorem octets_len {n : Nat} : (octets n).length ≤ 2 := by
  unfold octets; split
  · rw [len_one]; lia
  · rw [Str.length_append, len_one, len_one]; lia
theorem tieW_len {q : Nat × Nat} : (tieW q).length = 2 := by unfold tieW; rw [Str.length_append, len_one, len_one]
theorem written_len {w : Str} {q : Int} (h : w.length ≤ 2) : (written w q).length ≤ 100 := by
  unfold written
  split
  · unfold writtenQ
    have l1 := replace_length w (Str.ofString "\\") (Str.ofString "\\\\")
    have l2 := replace_length (Txt.replace w (Str.ofString "\\") (Str.ofString "\\\\")) (Str.ofString "\"") (Str.ofString "\\\"")
    rw [len_bsbs] at l1
    rw [len_bsq] at l2
    rw [Str.length_append, Str.length_append, len_q, len_qs]
    lia
  · unfold writtenB
    have hj := join_len (Str.ofString "") (w.cps.toList.map fun c => Str.ofString "\\" ++ (⟨#[c]⟩ : Str))
    rw [len_emp, Nat.mul_zero] at hj
    have hln : (w.cps.toList.map fun c => Str.ofString "\\" ++ (⟨#[c]⟩ : Str)).length = w.length := by rw [List.length_map]; rfl
    have hsum : ((w.cps.toList.map fun c => Str.ofString "\\" ++ (⟨#[c]⟩ : Str)).map (·.length)).sum ≤ w.length * 2 := by
      have := sum_le_mul ((w.cps.toList.map fun c => Str.ofString "\\" ++ (⟨#[c]⟩ : Str)).map (·.length)) 2 (by
        intro x hx
        simp only [List.mem_map] at hx
        refine x1a2 hx fun _ oy411 qz412 => ?_; clear hx; refine x1a2 oy411 fun c _ qz012 => ?_; clear oy411; subst qz012; subst qz412
        rw [Str.length_append, len_bs, len_one]; lia)
      rw [List.length_map, hln] at this
      exact this
    rw [Str.length_append, len_nl]
    lia
noncomputable def textOf (ws : List Str) (ms : List Int) : Str := Txt.join (Str.ofString "") ((ws.zip ms).map fun p => written p.1 p.2)
theorem textOf_len {ws : List Str} {ms : List Int} (h : ∀ w ∈ ws, w.length ≤ 2) (hl : ws.length ≤ 8) : (((ws.zip ms).map fun p => written p.1 p.2).map (·.length)).sum ≤ 800 ∧ (textOf ws ms).length ≤ 800 := by
  have h1 : (((ws.zip ms).map fun p => written p.1 p.2).map (·.length)).sum ≤ 800 := by
    have := sum_le_mul (((ws.zip ms).map fun p => written p.1 p.2).map (·.length)) 100 (by
      intro x hx
      simp only [List.mem_map] at hx
      refine x1a2 hx fun _ oy511 qz512 => ?_; clear hx; refine x1a2 oy511 fun p hp qz112 => ?_; clear oy511; subst qz112; subst qz512
      exact written_len (h _ (List.of_mem_zip hp).1))
    refine Nat.le_trans this ?_
    simp only [List.length_map, List.length_zip]
    have : min ws.length ms.length ≤ 8 := by lia
    lia
  refine ⟨h1, ?_⟩
  have := join_len (Str.ofString "") ((ws.zip ms).map fun p => written p.1 p.2)
  rw [len_emp, Nat.mul_zero] at this
  unfold textOf; lia
noncomputable def gWr : Sc × Sc → MV
  | (.str w, .int q) => .str (written w q)
  | _ => .str (Str.ofString "")
theorem gWr_tl : ∀ p, (gWr p).tupless = true := by rintro ⟨a, b⟩; cases a <;> cases b <;> rfl
theorem segF_walk {Dr Ed Wd Md : Addr} {fS fV : UInt64} {cnt : Nat} {hues : List Nat} {ws : List Str} {mans : List Int} {qs : List (Addr × Nat × Nat)} {ρ : Led} {J : Shared → Prop} (hE : EnvOk env lawLn (lawCs c1 c2 c3 c4 c5 c6 c7 c8 c9 c10 c11 c12 c13) lawGn) (hA : Ok A (k + 5))
    (hcnt : cnt = 4 ∨ cnt = 5) (hw : ws.length = 3 + cnt) (hw2 : ∀ w ∈ ws, w.length ≤ 2) (hm : mans.length = 3 + cnt) (hρ : ∀ p ∈ ρ, p.2.tupless = true)
    (S : St B ((tabA, .obj (tabObj #[])) :: (Md, .list (mans.map MV.int)) :: (Wd, .list (ws.map MV.str)) :: (Ed, .list (qs.map fun q => MV.ref q.1)) :: (Dr, .list (hues.map nMV)) :: (env.locals, .ns [("manners", some (.ref Md)), ("words", some (.ref Wd)), ("ends", some (.ref Ed)), ("drawn", some (.ref Dr)), ("count", some (.int cnt)), ("share", some (.float fS)), ("value", some (.float fV))]) :: (c3, .cell none) :: (tupLed qs ++ ρ)) s)
    (h : ∀ (a : LexA) (ps : Array Value) (s' : Shared), LamOk B prog a →
      St B (lexLed a (1 + ((textOf ws mans).cps.toList.count 10 : Nat)) (textOf ws mans).cps.toList [] ++ ((Wd, .list (ws.map MV.str)) :: (Ed, .list (qs.map fun q => MV.ref q.1)) :: (Dr, .list (hues.map nMV)) :: (env.locals, .ns [("text", some (.str (textOf ws mans))), ("words", some (.ref Wd)), ("ends", some (.ref Ed)), ("drawn", some (.ref Dr)), ("count", some (.int cnt)), ("share", some (.float fS)), ("value", some (.float fV))]) :: (c3, .cell (some (.ref a.x))) :: (tabA, .obj (tabObj ps)) :: (tupLed qs ++ ρ))) s' → J s') :
    wpAny (model prog B.w) A (execs ((lawBody.drop 12).take 2) env) (fun f s' => f = .next ∧ J s') E s := by
  refine x0a2 (textOf_len (ms := mans) hw2 (by lia)) fun hl1 hl2 => ?_
  show wpAny _ _ (execs [_, _] _) _ _ _
  with_reducible refine execs_consH fun Jz hJz => ?_
  with_reducible refine wpAny_Assign_Name ?_ rfl
  with_reducible refine r_method rfl rfl rfl rfl ?_
  with_reducible refine r_str ‹_› fun _ _ _ => ?_
  with_reducible refine mStr PySem.F.slot_str_join PySem.F.type_str_join ?_
  with_reducible refine items_one ?_ rfl
  refine' r_compE (ln' := ["word", "manner"]) (cs' := []) (fv := []) (gn' := ["_law_written"]) hE ?q_c1 rfl ?q_c2 ?q_c3 ?_
  case q_c1 => exact ⟨scO rfl (by decide +kernel), by decide +kernel, by decide +kernel⟩
  case q_c2 => exact fn
  case q_c3 => intro _; rfl
  with_reducible refine r_callB rfl ?_
  with_reducible refine r_global ‹_› ‹_› me2 (by exact gv_zip _) ?_
  with_reducible refine nr_type ?_
  with_reducible refine items_two ?_ rfl rfl
  with_reducible refine r_local_val ‹_› ‹_› me9 me5 me1 ?_
  with_reducible refine r_local_val ‹_› ‹_› me10 me5 me0 ?_
  rename_i s1 S1
  have hz1 : ws.map MV.str = (ws.map Sc.str).map MV.sc := by rw [List.map_map]; rfl
  have hz2 : mans.map MV.int = (mans.map Sc.int).map MV.sc := by rw [List.map_map]; rfl
  have hzip : (ws.map Sc.str).zip (mans.map Sc.int) = (ws.zip mans).map fun p => (Sc.str p.1, Sc.int p.2) := by
    rw [List.zip_map]; rfl
  refine' r_zip ?q_S ?q_m1 ?q_m2 ?_
  case q_S => assumption
  case q_m1 => exact me2
  case q_m2 => exact me1
  intro z TI TO i1 i2 s2 S2
  refine i_zip S2 ?_
  refine CompPack.zip (ws.map Sc.str) (mans.map Sc.int) gWr S2 (by rw [← hz1]; exact me2) (by rw [← hz2]; exact me1) ?_ gWr_tl hA.handled (by rw [hzip]; simp; (unfold sizeLine; grind)) ?_ ?_
  · intro p hp
    simp only [List.mem_cons, List.mem_append] at hp
    rcases hp with rfl | rfl | rfl | rfl | rfl | rfl | rfl | hp | hp
    · rfl
    · show (mans.map MV.int).all _ = true
      simp [MV.tupless]
    · show (ws.map MV.str).all _ = true
      simp [MV.tupless]
    · show (qs.map _).all _ = true
      simp [MV.tupless]
    · show (hues.map nMV).all _ = true
      simp [MV.tupless]
    · rfl
    · rfl
    · refine x1a2 (List.mem_map.mp hp) fun q _ qz712 => ?_; subst qz712
      rfl
    · skip
      exact hρ p hp
  · rintro C D' cenv hE' hc i or4
    obtain ⟨x1, x2⟩ := or4
    rintro acc s3 v hx S3 or5
    refine x1a2 or5 fun tz qz111 ht => ?_; clear or5; subst qz111
    rintro N
    rw [hzip, List.getElem?_map] at hx
    refine x1a2 (Option.map_eq_some_iff.mp hx) fun oy1010 hwq e => ?_; obtain ⟨w, q⟩ := oy1010
    cases e
    have hwm := hw2 w (List.of_mem_zip (List.mem_of_getElem? hwq)).1
    simp only [noneNs, List.map_cons, List.map_nil] at S3
    clear S2 S1 S
    ((with_reducible refine' r_unpack2 ?q_uS_13 ?q_uA_13 ?q_ut_13 ?_); (case q_uS_13 => assumption); (case q_uA_13 => exact Ok.handled ‹_›); (case q_ut_13 => assumption); (intro _ _ _ _); (dsimp only [Sc.val]))
    with_reducible refine r_store_str ‹_› ‹_› me0 up0 un0 fun _ _ => ?_
    with_reducible refine r_store_int ‹_› ‹_› me1 up0 un1 fun _ _ => ?_
    with_reducible refine r_callF ‹_› ‹_› me0 (gv_written _) rfl rfl rfl (by decide) ?_
    with_reducible refine items_two ?_ rfl rfl
    with_reducible refine r_local_str ‹_› ‹_› me0 me0 me0 fun _ => ?_
    with_reducible refine r_local_int ‹_› ‹_› me1 me0 me1 fun _ => ?_
    (with_reducible refine And.intro ⟨_, by assumption⟩ ?_; with_reducible show wpAny _ _ (call (Value.ref _) _) _ _ _)
    refine written_spec ‹_› hA (leB ‹_› rfl) fun t5 s5 S5 => ?_
    exact k1a3 _ ⟨_, rfl⟩ rfl S5
  intro C D2 s3 _ s4 S4
  have hg : ((ws.map Sc.str).zip (mans.map Sc.int)).map gWr = ((ws.zip mans).map fun p => written p.1 p.2).map MV.str := by
    rw [hzip, List.map_map, List.map_map]; rfl
  rw [hg] at S4
  clear S2 S1 S
  refine r_sjoin (xs := (ws.zip mans).map fun p => written p.1 p.2) ‹_› me0 (by rw [len_emp]; exact leB ‹_› rfl) fun t7 s7 S7 => ?_
  have S7b := St.wk S7 (σ' := (tabA, .obj (tabObj #[])) :: (Wd, .list (ws.map MV.str)) :: (Ed, .list (qs.map fun q => MV.ref q.1)) :: (Dr, .list (hues.map nMV)) :: (env.locals, .ns [("words", some (.ref Wd)), ("ends", some (.ref Ed)), ("drawn", some (.ref Dr)), ("count", some (.int cnt)), ("share", some (.float fS)), ("value", some (.float fV))]) :: (c3, .cell none) :: (tupLed qs ++ ρ)) (.pick rm1 (.pick rm2 (.pick rm2 (.pick rm2 (.ns rm2 (fc (.inr me1) (fc (.inr me2) (fc (.inr me3) (fc (.inr me4) (fc (.inr me5) (fc (.inr me6) fn)))))) (nd (by kernel_rfl!)) (.pick rm2 (.drop (.drop .refl))))))))
  clear S7 S4
  change St B _ _ at S7b
  with_reducible refine r_storeN_str ‹_› ‹_› me12 up4 (nw (by kernel_rfl!)) fun _ _ => ?_
  with_reducible refine execs_oneB ?_
  with_reducible refine wpAny_Assign_Name ?_ rfl
  with_reducible refine r_callK ‹_› ‹_› me3 rfl ?_
  with_reducible refine items_one ?_ rfl
  with_reducible refine r_callF ‹_› ‹_› me4 (gv_stream _) rfl rfl rfl (by decide) ?_
  with_reducible refine items_one ?_ rfl
  with_reducible refine r_local_str ‹_› ‹_› me12 me4 me0 fun _ => ?_
  (with_reducible refine And.intro ⟨_, by assumption⟩ ?_; with_reducible show wpAny _ _ (call (Value.ref _) _) _ _ _)
  refine stream_spec ‹_› hA (by show (textOf ws mans).length < 10000; exact ltB ‹_› rfl) fun a0 ps s8 hL S8 => ?_
  simp only [strLed, List.cons_append, List.nil_append] at S8
  (with_reducible refine And.intro ⟨_, by assumption⟩ ?_; with_reducible show wpAny _ _ (call (Value.ref _) _) _ _ _)
  refine make_spec ‹_› hA fun x dx pb s9 S9 => ?_
  clear S8
  with_reducible refine r_storeC_val ‹_› ‹_› me10 up14 fun _ _ => ?_
  with_reducible refine Hb.go ‹_› ?_
  with_reducible refine And.intro rfl ?_
  rename_i s10 S10
  refine h { a0 with x := x, dx := dx, pb := pb } ps _ hL ?_
  have e1 : (1 + ((textOf ws mans).cps.toList.count 10 : Nat) : Int) - ((textOf ws mans).cps.toList.count 10 : Nat) = 1 := by lia
  simp only [lexLed, e1, List.cons_append, List.nil_append, List.map_nil]
  simp only [textOf]
  exact St.wk S10 (.pick rm1 (.pick rm1 (.pick rm0 (.pick rm0 (.pick rm0 (.pick rm0 (.pick rm0 (.pick rm0 (.pick rm0 (.pick rm1 (.pick rm1 (.pick rm1 (.pick rm1 (.pick rm1 .refl))))))))))))))
end
end
section
open Float64
inductive LexRun : List Str → List Nat → Prop
  | nil {r} : tok r = (Str.ofString "", []) → LexRun [] r
  | cons {w ws r r'} : tok r = (w, r') → LexRun ws r' → LexRun (w :: ws) r
theorem tokQ_len : ∀ (r : List Nat) (acc : Str), (tokQ r acc).2.length ≤ r.length
  | [], _ => Nat.le_refl _
  | [c], acc => by unfold tokQ; split <;> (try split) <;> simp
  | c :: d :: r, acc => by
    have h1 := tokQ_len r (acc ++ ⟨#[d]⟩)
    have h2 := tokQ_len (d :: r) (acc ++ ⟨#[c]⟩)
    unfold tokQ
    simp only [List.length_cons] at h2 ⊢
    split
    · simp
    · split <;> lia
theorem tokB_len : ∀ (r : List Nat) (acc : Str), (tokB r acc).2.length ≤ r.length
  | [], _ => Nat.le_refl _
  | [c], acc => by unfold tokB; split <;> (try split) <;> simp
  | c :: d :: r, acc => by
    have h1 := tokB_len r (acc ++ ⟨#[d]⟩)
    have h2 := tokB_len (d :: r) (acc ++ ⟨#[c]⟩)
    unfold tokB
    simp only [List.length_cons] at h2 ⊢
    split
    · simp
    · split <;> lia
theorem tok_len : ∀ (r : List Nat), (tok r).2.length ≤ r.length
  | [] => Nat.le_refl _
  | c :: r => by
    rw [tok_cons]
    have h1 := tok_len r
    have h2 := tokQ_len r (Str.ofString "")
    have h3 := tokB_len r (Str.ofString "" ++ ⟨#[c]⟩)
    simp only [List.length_cons]
    split
    · lia
    · split
      · lia
      · split
        · cases r with
          | nil => simp [escB]
          | cons d r' => have := tokB_len r' (Str.ofString "" ++ ⟨#[d]⟩); simp only [escB, List.length_cons]; lia
        · lia
section
variable {B : Base} {σ σ' : Led} {s : Shared} {prog : Program} {A : Around} {E : Value → Shared → Prop} {env : Env} {k : Nat} {c1 c2 c3 c4 c5 c6 c7 c8 c9 c10 c11 c12 c13 : Addr}
theorem segG_walk {a : LexA} {T : Int} {Wd Dr Ed : Addr} {cnt : Nat} {fS fV : UInt64} {ws : List Str} {txt : Str} {m : List (Str × Option MV)} {ρ : Led} {J : Shared → Prop} (hE : EnvOk env lawLn (lawCs c1 c2 c3 c4 c5 c6 c7 c8 c9 c10 c11 c12 c13) lawGn) (hA : Ok A (k + 5))
    (hL : LamOk B prog a) (hw : ws.length ≤ 8) (hlex : LexRun ws txt.cps.toList) (htl : txt.length ≤ 800) (hT : T = 1 + (Builtin.Str.occurrences txt (Str.ofString "\n") 0 txt.length (txt.length + 1)).length)
    (S : St B (lexLed a T txt.cps.toList [] ++ ((Wd, .list (ws.map MV.str)) :: (env.locals, .ns [("text", some (.str txt)), ("words", some (.ref Wd)), ("ends", some (.ref Ed)), ("drawn", some (.ref Dr)), ("count", some (.int cnt)), ("share", some (.float fS)), ("value", some (.float fV))]) :: (c3, .cell (some (.ref a.x))) :: ρ)) s)
    (h : ∀ (Hd : Addr) (s' : Shared), St B (lexLed a T [] [] ++ ((Hd, .list (ws.map MV.str)) :: (env.locals, .ns [("heard", some (.ref Hd)), ("ends", some (.ref Ed)), ("drawn", some (.ref Dr)), ("count", some (.int cnt)), ("share", some (.float fS)), ("value", some (.float fV))]) :: (c3, .cell (some (.ref a.x))) :: ρ)) s' → J s') :
    wpAny (model prog B.w) A (execs ((lawBody.drop 14).take 2) env) (fun f s' => f = .next ∧ J s') E s := by
  show wpAny _ _ (execs [_, _] _) _ _ _
  with_reducible refine execs_consH fun Jz hJz => ?_
  refine' r_compA (ln' := ["word"]) (cs' := [("line", c3)]) (fv := ["line"]) (gn' := []) hE ?q_c4 rfl ?q_c5 ?q_c1 rfl ?q_c2 ?q_c3 ?_
  case q_c1 => exact ⟨scO rfl (by decide +kernel), by decide +kernel, by decide +kernel⟩
  case q_c2 => exact fc me10 fn
  case q_c3 => intro _; rfl
  case q_c4 => exact me13
  case q_c5 => decide +kernel
  have S1 := St.perm S (List.perm_append_comm_assoc [_, _, _] (lexLed a T txt.cps.toList []) ρ)
  simp only [List.cons_append, List.nil_append] at S1
  clear S
  with_reducible refine r_local_val ‹_› ‹_› me9 me1 me1 ?_
  with_reducible refine i_list ‹_› me0 fun _ _ _ => ?_
  rename_i I s4 S4
  refine ⟨I, ws.map MV.str, fun i => [(I, .listIter Wd i)], fun σ => (Wd, VO.list (ws.map MV.str)) ∈ σ, fun i acc σ' => ∃ r, LexRun (ws.drop i) r ∧ r.length ≤ 800 ∧ acc = (ws.take i).map MV.str ∧
    σ' = (Wd, .list (ws.map MV.str)) :: (env.locals, .ns [("text", some (.str txt)), ("words", some (.ref Wd)), ("ends", some (.ref Ed)), ("drawn", some (.ref Dr)), ("count", some (.int cnt)), ("share", some (.float fS)), ("value", some (.float fV))]) :: (c3, .cell (some (.ref a.x))) :: (lexLed a T r [] ++ ρ), _, rfl, Src.list, by simp; unfold sizeLine; lia, hA.handled, ?_, S4, ⟨_, hlex, htl, rfl, rfl⟩, ?_, ?_⟩
  · rintro C D i acc σ' or1
    refine x1a4 or1 fun r _ _ _ qz014 => ?_; clear or1; subst qz014
    exact .tail _ (.tail _ (.head _))
  · rintro C D cenv hE' hc i mv acc σ' s2 v hi or2
    refine x1a4 or2 fun r hlr hr8 qz113 qz114 => ?_; clear or2; subst qz113; subst qz114
    rintro S2 hv N
    refine x1a2 (by simpa using hi : ∃ x, ws[i]? = some x ∧ MV.str x = mv) fun w hwi qz212 => ?_; subst qz212
    obtain ⟨tv, rfl⟩ := hv
    have hd : ws.drop i = w :: ws.drop (i + 1) := List.drop_eq_getElem?_toList_append.trans (by rw [hwi]; rfl)
    rw [hd] at hlr
    cases hlr with
    | cons htk hlr' =>
    rename_i r'
    have hr' := tok_len r
    rw [htk] at hr'
    dsimp only at hr'
    simp only [noneNs, List.map_cons, List.map_nil] at S2
    clear S4 S1
    simp only [List.cons_append, List.nil_append, lexLed, List.map_nil] at S2
    with_reducible refine wpAny_assign_Name ?_
    with_reducible refine r_store_str ‹_› ‹_› me0 up0 un0 fun _ _ => ?_
    with_reducible refine wpAny_tests_nil ?_
    with_reducible refine go_true ?_
    with_reducible refine r_m_gt rfl rfl rfl rfl ?_
    with_reducible refine r_cell_val ‹_› ‹_› me0 me5 ?_
    with_reducible refine imeth_intro ‹_› me6 me7 (by simp only [List.map_cons, List.map_nil]; decide +kernel) ?_
    with_reducible refine wpAny_items_nil ?_
    (with_reducible refine And.intro ⟨_, by assumption⟩ ?_; with_reducible show wpAny _ _ (call (Value.ref _) _) _ _ _)
    rename_i S5
    have S6 : St B (lexLed a T r [] ++ ([(cenv.locals, .ns [("word", some (.str w))]), (D, .list ((ws.take i).map MV.str)), (I, .listIter Wd (i + 1)), (Wd, .list (ws.map MV.str)), (env.locals, .ns [("text", some (.str txt)), ("words", some (.ref Wd)), ("ends", some (.ref Ed)), ("drawn", some (.ref Dr)), ("count", some (.int cnt)), ("share", some (.float fS)), ("value", some (.float fV))]), (c3, .cell (some (.ref a.x)))] ++ ρ)) _ := St.perm S5 (List.perm_append_comm_assoc _ _ _)
    clear S5 S2
    refine get_token_spec S6 hL hA (ltB ‹_› rfl) fun t7 s7 S7 => ?_
    rw [htk] at S7 ⊢
    refine ⟨MV.str w, [("word", some (.str w))], _, ⟨r', hlr', by lia, ?_, rfl⟩, ⟨_, rfl⟩, rfl, ?_⟩
    · rw [List.take_add_one, hwi]; simp
    · exact St.perm S7 (List.perm_append_comm_assoc [_, _, _, _, _, _] (lexLed a T r' []) ρ)
  · rintro C D acc σ' s2 or3
    refine x1a4 or3 fun r hlr hr8 qz413 qz414 => ?_; clear or3; subst qz413; subst qz414
    rintro S2
    simp only [List.length_map, List.drop_length, List.take_length] at hlr S2
    clear S4 S1
    cases hlr with
    | nil htk =>
    simp only [List.cons_append, List.nil_append, lexLed, List.map_nil] at S2
    with_reducible refine r_storeN_val ‹_› ‹_› me13 up3 (nw (by kernel_rfl!)) fun _ _ => ?_
    rename_i S5
    refine k2a2 _ _ S5 (fun s6 S6 => ?_)
    clear S5 S2
    with_reducible refine execs_oneB ?_
    with_reducible refine wpAny_If ?_
    with_reducible refine PyProof.Rows.isTrue_or ?_
    with_reducible refine wpAny_isTrue_Compare1 ?_
    with_reducible refine r_local_val ‹_› ‹_› me13 me2 me0 ?_
    with_reducible refine r_local_val ‹_› ‹_› me9 me2 me2 ?_
    refine r_ne_strs (xs := ws) (ys := ws) ‹_› hA me0 me1 ?_
    rw [show (ws != ws) = false by simp]
    with_reducible refine wpAny_truthy_bool ?_
    with_reducible refine go_false ?_
    with_reducible refine PyProof.Rows.isTrue_or ?_
    with_reducible refine wpAny_isTrue_Compare1 ?_
    with_reducible refine r_m_gt rfl rfl rfl rfl ?_
    with_reducible refine r_cell_val ‹_› ‹_› me10 me3 ?_
    with_reducible refine imeth_intro ‹_› me4 me5 (by simp only [List.map_cons, List.map_nil]; decide +kernel) ?_
    with_reducible refine wpAny_items_nil ?_
    (with_reducible refine And.intro ⟨_, by assumption⟩ ?_; with_reducible show wpAny _ _ (call (Value.ref _) _) _ _ _)
    have S8 : St B (lexLed a T r [] ++ ([(D, .list (ws.map MV.str)), (Wd, .list (ws.map MV.str)), (env.locals, .ns [("heard", some (.ref D)), ("text", some (.str txt)), ("words", some (.ref Wd)), ("ends", some (.ref Ed)), ("drawn", some (.ref Dr)), ("count", some (.int cnt)), ("share", some (.float fS)), ("value", some (.float fV))]), (c3, .cell (some (.ref a.x)))] ++ ρ)) _ := St.perm S6 (List.perm_append_comm_assoc _ _ _)
    clear S6
    refine get_token_spec S8 hL hA (ltB ‹_› rfl) fun t7 s7 S7 => ?_
    rw [htk] at S7 ⊢
    clear S8
    have S9 := St.perm S7 (List.perm_append_comm_assoc [_, _, _, _] (lexLed a T [] []) ρ)
    clear S7
    simp only [List.cons_append, List.nil_append, lexLed, List.map_nil] at S9
    with_reducible refine r_str ‹_› fun _ _ _ => ?_
    with_reducible refine PyProof.Rows.ne_str ?_
    with_reducible refine wpAny_truthy_bool ?_
    rw [show (Str.ofString "" != Str.ofString "") = false by simp]
    with_reducible refine go_false ?_
    with_reducible refine PyProof.Rows.isTrue_or ?_
    with_reducible refine wpAny_isTrue_Compare1 ?_
    with_reducible refine Attribute_name ?_
    with_reducible refine r_cell_val ‹_› ‹_› me10 me3 ?_
    with_reducible refine r_getattr_int ‹_› me4 me5 me0 (kt_none1 _) fun _ _ _ => ?_
    with_reducible refine wpAny_BinOp ?_
    with_reducible refine r_int ‹_› fun _ _ _ => ?_
    with_reducible refine r_method rfl rfl rfl rfl ?_
    with_reducible refine r_local_str ‹_› ‹_› me12 me2 me1 fun _ => ?_
    with_reducible refine mStr PySem.F.slot_str_count PySem.F.type_str_count ?_
    with_reducible refine items_one ?_ rfl
    with_reducible refine r_str ‹_› fun _ _ _ => ?_
    refine r_scount ‹_› fun t10 s10 S10 => ?_
    with_reducible refine r_add ‹_› fun _ _ _ => ?_
    with_reducible refine PyProof.Rows.ne_int ?_
    with_reducible refine wpAny_truthy_bool ?_
    rw [show ((T - ((List.count 10 ([] : List Nat) : Nat) : Int)) != 1 + ((Builtin.Str.occurrences txt (Str.ofString "\n") 0 txt.length (txt.length + 1)).length : Nat)) = false by rw [hT]; simp]
    with_reducible refine go_false ?_
    with_reducible refine PyProof.Rows.isTrue_or_nil ?_
    with_reducible refine go_false ?_
    with_reducible refine wpAny_execs_nil ?_
    with_reducible refine Hb.go ‹_› ?_
    with_reducible refine And.intro rfl ?_
    rename_i S11
    refine h D _ ?_
    simp only [List.cons_append, List.nil_append, lexLed, List.map_nil]
    exact St.wk S11 (.pick rm4 (.pick rm4 (.pick rm4 (.pick rm4 (.pick rm4 (.pick rm4 (.pick rm4 (.pick rm4 (.pick rm4 (.pick rm0 (.ns rm1 (fc (.inr me0) (fc (.inr me3) (fc (.inr me4) (fc (.inr me5) (fc (.inr me6) (fc (.inr me7) fn)))))) (nd (by kernel_rfl!)) (.pick rm1 (.drop .refl)))))))))))))
end
end
section
open Float64
section
variable {B : Base} {σ σ' : Led} {s : Shared} {prog : Program} {A : Around} {E : Value → Shared → Prop} {env : Env} {k : Nat} {c1 c2 c3 c4 c5 c6 c7 c8 c9 c10 c11 c12 c13 : Addr}
noncomputable abbrev nSc (n : Nat) : Sc := .int (n : Int)
theorem octs_codes (n : Nat) : (octets n).cps.toList.map nMV = (octCodes n).map MV.int := by
  unfold octets octCodes
  split
  · rfl
  · rfl
set_option maxHeartbeats 1000000 in
theorem segH_walk {Hd Dr Ed : Addr} {cnt sh va : Nat} {hues : List Nat} {tw : List Str} {ρ : Led} {J : Shared → Prop} (hE : EnvOk env lawLn (lawCs c1 c2 c3 c4 c5 c6 c7 c8 c9 c10 c11 c12 c13) lawGn) (hA : Ok A (k + 5))
    (hh : hues.length = 3) (hh2 : ∀ n ∈ hues, n < 256) (hsh : sh < 4) (hva : va < 4) (hρ : ∀ p ∈ ρ, p.2.tupless = true)
    (S : St B ((Hd, .list ((hues.map octets ++ tw).map MV.str)) :: (Dr, .list (hues.map nMV)) :: (env.locals, .ns [("heard", some (.ref Hd)), ("ends", some (.ref Ed)), ("drawn", some (.ref Dr)), ("count", some (.int cnt)), ("share", some (.float (fl (1 + sh) 4))), ("value", some (.float (fl (1 + va) 4)))]) :: ρ) s)
    (h : ∀ (cols : List Int) (Cd : Addr) (s' : Shared), 1 ≤ cols.length → cols.length ≤ 3 → St B ((Cd, .list (cols.map MV.int)) :: (env.locals, .ns [("colours", some (.ref Cd)), ("ends", some (.ref Ed)), ("count", some (.int cnt))]) :: ρ) s' → J s') :
    wpAny (model prog B.w) A (execs ((lawBody.drop 16).take 2) env) (fun f s' => f = .next ∧ J s') E s := by
  show wpAny _ _ (execs [_, _] _) _ _ _
  with_reducible refine execs_consH fun Jz hJz => ?_
  with_reducible refine wpAny_Assign_Name ?_ rfl
  with_reducible refine r_list_lit ?_
  with_reducible refine wpAny_items_nil ?_
  with_reducible refine lit_intro szA ‹_› (by with_reducible exact .nil) fun _ _ _ => ?_
  with_reducible refine r_storeN_val ‹_› ‹_› me14 up3 (nw (by kernel_rfl!)) fun _ _ => ?_
  with_reducible refine execs_oneB ?_
  with_reducible refine r_for ?_ (fun _ => rfl)
  with_reducible refine r_callB rfl ?_
  with_reducible refine r_global ‹_› ‹_› me2 (by exact gv_zip _) ?_
  with_reducible refine nr_type ?_
  with_reducible refine items_two ?_ rfl rfl
  with_reducible refine r_local_val ‹_› ‹_› me13 me3 me1 ?_
  with_reducible refine r_local_val ‹_› ‹_› me4 me3 me3 ?_
  rename_i Cd s0 S0 s1 S1
  refine' r_zip ?q_S ?q_m1 ?q_m2 ?_
  case q_S => assumption
  case q_m1 => exact me1
  case q_m2 => exact me2
  intro z TI TO i1 i2 s2 S2
  refine i_zip S2 ?_
  have hz1 : (hues.map octets ++ tw).map MV.str = ((hues.map octets ++ tw).map Sc.str).map MV.sc := by rw [List.map_map]; rfl
  have hz2 : hues.map nMV = (hues.map nSc).map MV.sc := by rw [List.map_map]; rfl
  have hzip : ((hues.map octets ++ tw).map Sc.str).zip (hues.map nSc) = hues.map fun n => (Sc.str (octets n), nSc n) := by
    rw [List.map_append, List.map_map]
    clear hh hh2 S0 S1 S2 S hz1 hz2
    induction hues with
    | nil => simp only [List.map_nil, List.zip_nil_right]
    | cons a r ih => simp only [List.map_cons, List.cons_append, List.zip_cons_cons, ih]; rfl
  refine codeAny_mono (R := fun r s' => r = .ok .next ∧ ∃ (cols : List Int), 1 ≤ cols.length ∧ cols.length ≤ 3 ∧ St B ((Cd, .list (cols.map MV.int)) :: (env.locals, .ns [("colours", some (.ref Cd)), ("ends", some (.ref Ed)), ("count", some (.int cnt))]) :: ρ) s') ?_ ?_
  · refine b_forLoop (Src.zip (TI := TI) (TO := TO) (i1 := i1) (i2 := i2) (l1 := Hd) (l2 := Dr) (xs := (hues.map octets ++ tw).map Sc.str) (ys := hues.map nSc)) (fun i σ' => ∃ (cols : List Int) (o1 o2 o3 o4 o5 o6 o7 : Option Sc), cols.length ≤ i ∧ (0 < i → 1 ≤ cols.length) ∧
      σ' = (Cd, .list (cols.map MV.int)) :: (Hd, .list ((hues.map octets ++ tw).map MV.str)) :: (Dr, .list (hues.map nMV)) :: (env.locals, .ns [("word", o1.map .sc), ("hue", o2.map .sc), ("number", o3.map .sc), ("red", o4.map .sc), ("green", o5.map .sc), ("blue", o6.map .sc), ("told", o7.map .sc), ("colours", some (.ref Cd)), ("ends", some (.ref Ed)), ("count", some (.int cnt)), ("share", some (.float (fl (1 + sh) 4))), ("value", some (.float (fl (1 + va) 4)))]) :: ρ) hA.handled ?_ ?_ ?_ ⟨[], none, none, none, none, none, none, none, by simp, by simp, rfl⟩ ?_
    · rintro i σ' or1
      refine x8a3 or1 fun cols o1 o2 o3 o4 o5 o6 o7 _ _ qz0110 => ?_; clear or1; subst qz0110
      rw [← hz1, ← hz2]
      refine ⟨by simp, by simp, fun p hp => ?_⟩
      simp only [List.mem_cons] at hp
      rcases hp with rfl | rfl | rfl | rfl | hp
      · show (cols.map MV.int).all _ = true
        simp [MV.tupless]
      · show ((hues.map octets ++ tw).map MV.str).all _ = true
        simp [MV.tupless]
      · show (hues.map nMV).all _ = true
        simp [MV.tupless]
      · exact nsT_sc _ (nsT_sc _ (nsT_sc _ (nsT_sc _ (nsT_sc _ (nsT_sc _ (nsT_sc _ rfl))))))
      · skip
        exact hρ p hp
    · rintro i σ' s3 mv' v hi or2
      refine x8a3 or2 fun cols o1 o2 o3 o4 o5 o6 o7 hc1 hc2 qz1110 => ?_; clear or2; subst qz1110
      rintro S3 hv N
      obtain ⟨n, hn, e⟩ : ∃ n, hues[i]? = some n ∧ MV.tup [Sc.str (octets n), nSc n] = mv' := by
        rw [hzip, List.map_map, List.getElem?_map] at hi; exact Option.map_eq_some_iff.mp hi
      subst e
      refine x1a2 hv fun tz qz011 ht => ?_; clear hv; subst qz011
      have hn2 := hh2 n (List.mem_of_getElem? hn)
      obtain ⟨l0, ls0, lv0, lne, lfin, linf, le⟩ := col_law hn2 hsh hva
      have hi3 : i < 3 := by rw [← hh]; exact (List.getElem?_eq_some_iff.mp hn).1
      clear S2 S1 S0 S hi hz1 hz2 hzip
      simp only [zipLed, List.cons_append, List.nil_append] at S3
      intro J hJ
      ((with_reducible refine' r_unpack2 ?q_uS_15 ?q_uA_15 ?q_ut_15 ?_); (case q_uS_15 => assumption); (case q_uA_15 => exact Ok.handled ‹_›); (case q_ut_15 => assumption); (intro _ _ _ _); (dsimp only [Sc.val]))
      with_reducible refine r_store_str ‹_› ‹_› me11 up8 un0 fun _ _ => ?_
      with_reducible refine r_store_int ‹_› ‹_› me8 up8 un1 fun _ _ => ?_
      with_reducible refine execs_consB ?_
      with_reducible refine wpAny_Assign_Name ?_ rfl
      with_reducible refine r_callF ‹_› ‹_› me5 (gv_varint _) rfl rfl rfl (by decide) ?_
      with_reducible refine items_one ?_ rfl
      with_reducible refine r_callB rfl ?_
      with_reducible refine r_global ‹_› ‹_› me6 (by exact gv_iter _) ?_
      with_reducible refine nr_builtin ?_
      with_reducible refine items_one ?_ rfl
      refine' r_compE (ln' := ["sign"]) (cs' := []) (fv := []) (gn' := ["ord"]) hE ?q_c1 rfl ?q_c2 ?q_c3 ?_
      case q_c1 => exact ⟨scO rfl (by decide +kernel), by decide +kernel, by decide +kernel⟩
      case q_c2 => exact fn
      case q_c3 => intro _; rfl
      with_reducible refine r_local_str ‹_› ‹_› me11 me8 me0 fun _ => ?_
      with_reducible refine i_str ‹_› fun _ _ _ _ => ?_
      rename_i I cls s4 S4
      refine CompPack.of_str (fun c => some (nMV c)) S4 hA.handled (Nat.le_trans octets_len (by unfold sizeLine; omega)) ?_ ?_
      · rintro C D cenv hE' hc j x acc s5 v hxi S5 or3
        refine x1a1 or3 fun tv qz211 => ?_; clear or3; subst qz211
        rintro N
        simp only [noneNs, List.map_cons, List.map_nil] at S5
        clear S4 S3
        with_reducible refine wpAny_assign_Name ?_
        with_reducible refine r_store_str ‹_› ‹_› me0 up0 un0 fun _ _ => ?_
        with_reducible refine wpAny_tests_nil ?_
        with_reducible refine go_true ?_
        with_reducible refine r_callB rfl ?_
        with_reducible refine r_global ‹_› ‹_› me0 (by exact gv_ord _) ?_
        with_reducible refine nr_builtin ?_
        with_reducible refine items_one ?_ rfl
        with_reducible refine r_local_str ‹_› ‹_› me0 me0 me0 fun _ => ?_
        with_reducible refine r_ord ‹_› fun _ _ _ => ?_
        rename_i S6
        exact ⟨_, _, rfl, ⟨_, rfl⟩, rfl, S6⟩
      intro C D s5 _ s6 S6
      rw [filterMap_some, octs_codes] at S6
      clear S4 S3
      with_reducible refine r_iter1 ?_
      with_reducible refine i_list ‹_› me0 fun _ _ _ => ?_
      (with_reducible refine And.intro ⟨_, by assumption⟩ ?_; with_reducible show wpAny _ _ (call (Value.ref _) _) _ _ _)
      rename_i I2 s7 S7
      refine varint_spec S7 hA (by omega) fun t8 s8 S8 => ?_
      clear S7 S6
      with_reducible refine r_store_int ‹_› ‹_› me15 up8 un2 fun _ _ => ?_
      with_reducible refine execs_consB ?_
      refine Assign_Tuple ?_
      with_reducible refine r_callF ‹_› ‹_› me7 (gv_hsv _) rfl rfl rfl (by decide) ?_
      with_reducible refine wpAny_items_cons ?_ rfl
      with_reducible refine wpAny_BinOp ?_
      with_reducible refine r_local_int ‹_› ‹_› me15 me8 me2 fun _ => ?_
      with_reducible refine r_int ‹_› fun _ _ _ => ?_
      refine r_idivi (m := n) (n := 16) ‹_› rfl rfl (by decide) l0 fun t9 s9 S9 => ?_
      with_reducible refine items_two ?_ rfl rfl
      with_reducible refine r_local_float ‹_› ‹_› me5 me8 me10 fun _ => ?_
      with_reducible refine r_local_float ‹_› ‹_› me6 me8 me11 fun _ => ?_
      (with_reducible refine And.intro ⟨_, by assumption⟩ ?_; with_reducible show wpAny _ _ (call (Value.ref _) _) _ _ _)
      refine hsv_spec ‹_› hA lne lfin linf (hq := fun rgb s10 S10 => ?_)
      refine x0a5 (le _ rfl) fun e1 e2 e3 e4 e5 => ?_
      have htr := S10.at (o := .tuple _) (.head _)
      generalize hrgb : hsvRgb (fl n 16) (fl (1 + sh) 4) (fl (1 + va) 4) = rg at *
      obtain ⟨rR, rG, rB⟩ := rg
      dsimp only at e1 e2 e3 e4 e5 S10 htr
      ((with_reducible refine' r_unpack3 ?q_uS_52 ?q_uA_52 ?q_ut_52 ?_); (case q_uS_52 => assumption); (case q_uA_52 => exact Ok.handled ‹_›); (case q_ut_52 => assumption); (intro _ _ _ _ _); (dsimp only [Sc.val]))
      with_reducible refine r_store_float ‹_› ‹_› me16 up9 un3 fun _ _ => ?_
      with_reducible refine r_store_float ‹_› ‹_› me17 up9 un4 fun _ _ => ?_
      with_reducible refine r_store_float ‹_› ‹_› me18 up9 un5 fun _ _ => ?_
      with_reducible refine execs_consB ?_
      with_reducible refine wpAny_Assign_Name ?_ rfl
      with_reducible refine r_callB rfl ?_
      with_reducible refine r_global ‹_› ‹_› me8 (by exact gv_int _) ?_
      with_reducible refine nr_type ?_
      with_reducible refine items_one ?_ rfl
      with_reducible refine wpAny_BinOp ?_
      with_reducible refine r_int ‹_› fun _ _ _ => ?_
      with_reducible refine r_subscr ?_
      with_reducible refine r_callF ‹_› ‹_› me9 (gv_rgb _) rfl rfl rfl (by decide) ?_
      with_reducible refine wpAny_items_cons ?_ rfl
      with_reducible refine r_local_float ‹_› ‹_› me16 me9 me3 fun _ => ?_
      with_reducible refine items_two ?_ rfl rfl
      with_reducible refine r_local_float ‹_› ‹_› me17 me9 me4 fun _ => ?_
      with_reducible refine r_local_float ‹_› ‹_› me18 me9 me5 fun _ => ?_
      (with_reducible refine And.intro ⟨_, by assumption⟩ ?_; with_reducible show wpAny _ _ (call (Value.ref _) _) _ _ _)
      refine rgb_spec ‹_› hA e1 e2 e3 fun ht3 s11 d1 d2 S11 => ?_
      have htg := S11.at (o := .tuple _) (.head _)
      with_reducible refine r_int ‹_› fun _ _ _ => ?_
      rename_i t12 s12 S12
      have htg' := S12.at (o := .tuple _) (.head _)
      refine g_tup htg' ?_
      refine r_item_tup (j := 0) htg' rfl rfl (by decide) ?_
      rintro _ or4
      refine x1a1 or4 fun tf qz411 => ?_; clear or4; subst qz411
      with_reducible refine r_imulf ‹_› (by first | assumption | decide +kernel) fun _ _ _ => ?_
      with_reducible refine r_intf ‹_› ‹_› fun _ _ _ => ?_
      with_reducible refine r_store_int ‹_› ‹_› me19 up10 un6 fun _ _ => ?_
      with_reducible refine execs_consB ?_
      with_reducible refine wpAny_If ?_
      with_reducible refine r_cmpi ‹_› ‹_› (.loc me19 me10 me6) (.mod (.loc me8 me10 me1) .con (by decide)) (fun _ _ _ _ => ?_) (by with_unfolding_all rfl)
      with_reducible refine PyProof.Rows.ne_int ?_
      with_reducible refine wpAny_truthy_bool ?_
      simp only [e5] at *
      rw [show (((n % 16 : Nat) : Int) != (n : Int) % 16) = false by simp]
      with_reducible refine go_false ?_
      with_reducible refine wpAny_execs_nil ?_
      with_reducible refine execs_oneB ?_
      with_reducible refine wpAny_If ?_
      with_reducible refine wpAny_isTrue_Compare1 ?_
      with_reducible refine r_local_int ‹_› ‹_› me19 me10 me6 fun _ => ?_
      with_reducible refine r_local_val ‹_› ‹_› me14 me10 me7 ?_
      refine r_notin_ints (xs := cols) ‹_› me7 ?_
      with_reducible refine wpAny_truthy_bool ?_
      cases hcon : cols.contains ((n % 16 : Nat) : Int)
      · refine ite_t (by simp) ?_
        clear S12 S11 S10
        with_reducible refine execs_oneB ?_
        with_reducible refine r_expr ‹_› ?_ rfl
        with_reducible refine r_method rfl rfl rfl rfl ?_
        with_reducible refine r_local_val ‹_› ‹_› me14 me10 me7 ?_
        with_reducible refine mList PySem.F.slot_list_append PySem.F.type_list_append ‹_› me7 ?_
        with_reducible refine items_one ?_ rfl
        with_reducible refine r_local_int ‹_› ‹_› me19 me10 me6 fun _ => ?_
        with_reducible refine r_lappend_int ‹_› up7 szA fun _ _ => ?_
        with_reducible refine And.intro rfl ?_
        with_reducible refine Hb.go ‹_› ?_
        rename_i S20
        refine k1a2 _ (k8a3 (cols ++ [((n % 16 : Nat) : Int)]) (some (.str (octets n))) (some (nSc n)) (some (.int n)) (some (.float rR)) (some (.float rG)) (some (.float rB)) (some (.int ((n % 16 : Nat) : Int))) (by simp; omega) (by simp) rfl) ?_
        simp only [zipLed, List.cons_append, List.nil_append, Option.map_some, List.map_append, List.map_cons, List.map_nil] at S20 ⊢
        exact St.wk S20 (.pick rm2 (.pick rm2 (.pick rm2 (.pick rm2 (.pick rm2 (.pick rm2 (.pick rm2 (.pick rm2 (.pick rm2 (.drop (.drop .refl)))))))))))
      · refine ite_f (by simp) ?_
        clear S11 S10
        with_reducible refine wpAny_execs_nil ?_
        with_reducible refine Hb.go ‹_› ?_
        refine k1a2 _ (k8a3 cols (some (.str (octets n))) (some (nSc n)) (some (.int n)) (some (.float rR)) (some (.float rG)) (some (.float rB)) (some (.int ((n % 16 : Nat) : Int))) (by omega) (fun _ => ?_) rfl) ?_
        · cases cols with
          | nil => simp at hcon
          | cons _ _ => simp
        simp only [zipLed, List.cons_append, List.nil_append, Option.map_some]
        exact St.wk ‹_› (.pick rm2 (.pick rm2 (.pick rm2 (.pick rm2 (.pick rm2 (.pick rm2 (.pick rm2 (.pick rm2 (.pick rm2 (.drop (.drop .refl)))))))))))
    · rintro σ' s3 or5
      refine x8a3 or5 fun cols o1 o2 o3 o4 o5 o6 o7 hc1 hc2 qz8110 => ?_; clear or5; subst qz8110
      rintro S3 N
      rw [List.length_map, hzip, List.length_map, hh] at hc1 hc2
      with_reducible refine wpAny_execs_nil ?_
      with_reducible refine And.intro rfl ?_
      exact k1a3 cols (hc2 (by omega)) hc1 (St.wk S3 (.pick rm0 (.ns rm2 (fc (.inr me7) (fc (.inr me8) (fc (.inr me9) fn))) (nd (by kernel_rfl!)) (.drop (.drop .refl)))))
    · simp only [zipLed, List.cons_append, List.nil_append, Option.map_none, List.map_nil] at S2 ⊢
      exact St.wk S2 (.pick rm0 (.pick rm0 (.pick rm0 (.pick rm0 (.pick rm0 (.pick rm0 (.pick rm0 (.pick rm0 (.ns rm0 (fc (.inl rfl) (fc (.inl rfl) (fc (.inl rfl) (fc (.inl rfl) (fc (.inl rfl) (fc (.inl rfl) (fc (.inl rfl) (fc (.inr me0) (fc (.inr me2) (fc (.inr me4) (fc (.inr me5) (fc (.inr me6) fn)))))))))))) (nd (by kernel_rfl!)) .refl)))))))))
  · rintro r s3 or6
    refine x0a2 or6 fun qz910 oz91 => ?_; clear or6; subst qz910; refine x1a3 oz91 fun cols hc1 hc2 S3 => ?_; clear oz91
    dsimp only
    with_reducible refine Hb.go ‹_› ?_
    with_reducible refine And.intro rfl ?_
    exact h cols Cd _ hc1 hc2 S3
end
end
section
open Float64
noncomputable abbrev tieMV (e : Nat × Nat) : MV := .tup [.int e.1, .int e.2]
noncomputable def tieE (q : Addr × Nat × Nat) : Nat × Nat := (min q.2.1 q.2.2, max q.2.1 q.2.2)
section
variable {B : Base} {σ σ' : Led} {s : Shared} {prog : Program} {A : Around} {E : Value → Shared → Prop} {env : Env} {k : Nat} {c1 c2 c3 c4 c5 c6 c7 c8 c9 c10 c11 c12 c13 : Addr}
theorem segI_walk {Cd Ed : Addr} {cnt : Nat} {cols : List Int} {qs : List (Addr × Nat × Nat)} {ρ : Led} {J : Shared → Prop} (hE : EnvOk env lawLn (lawCs c1 c2 c3 c4 c5 c6 c7 c8 c9 c10 c11 c12 c13) lawGn) (hA : Ok A (k + 5))
    (hc : cols.length ≤ 3) (hq : qs.length ≤ 5)
    (S : St B ((Cd, .list (cols.map MV.int)) :: (Ed, .list (qs.map fun q => MV.ref q.1)) :: (env.locals, .ns [("colours", some (.ref Cd)), ("ends", some (.ref Ed)), ("count", some (.int cnt))]) :: (c5, .cell none) :: (c6, .cell none) :: (tupLed qs ++ ρ)) s)
    (h : ∀ (Td : Addr) (s' : Shared), St B ((Td, .list ((qs.map tieE).map tieMV)) :: (env.locals, .ns [("count", some (.int cnt))]) :: (c5, .cell (some (.int cols.length))) :: (c6, .cell (some (.ref Td))) :: (tupLed qs ++ ρ)) s' → J s') :
    wpAny (model prog B.w) A (execs ((lawBody.drop 18).take 2) env) (fun f s' => f = .next ∧ J s') E s := by
  show wpAny _ _ (execs [_, _] _) _ _ _
  with_reducible refine wpAny_execs_cons ?_
  with_reducible refine wpAny_Assign_Name ?_ rfl
  with_reducible refine r_callB rfl ?_
  with_reducible refine r_global ‹_› ‹_› me0 (by exact gv_len _) ?_
  with_reducible refine nr_builtin ?_
  with_reducible refine items_one ?_ rfl
  with_reducible refine r_local_val ‹_› ‹_› me14 me2 me0 ?_
  with_reducible refine r_len_list ‹_› me0 szA fun _ _ _ => ?_
  with_reducible refine r_storeC_int ‹_› ‹_› me8 up3 fun _ _ => ?_
  with_reducible refine execs_one ?_
  refine' r_compAC (ln' := ["a", "b"]) (cs' := []) (fv := []) (gn' := ["min", "max"]) hE ?q_c4 ?q_c1 rfl ?q_c2 ?q_c3 ?_
  case q_c1 => exact ⟨scO rfl (by decide +kernel), by decide +kernel, by decide +kernel⟩
  case q_c2 => exact fn
  case q_c3 => intro _; rfl
  case q_c4 => exact me7
  with_reducible refine r_local_val ‹_› ‹_› me7 me2 me1 ?_
  with_reducible refine i_list ‹_› me1 fun _ _ _ => ?_
  rename_i I s4 S4
  refine CompPack.of_list qs (fun q => MV.ref q.1) (fun q => some (tieMV (tieE q))) S4 me1 rfl hA.handled (leB ‹_› rfl) ?_ ?_
  · rintro C D' cenv hE' hc i x acc s2 v hx S2 hv N
    obtain rfl : v = .ref x.1 := hv
    have hxq := List.mem_of_getElem? hx
    have ht : TupAt s2.heap x.1 [.int x.2.1, .int x.2.2] := tup_at S2 (fun p hp => by simp [hp]) hxq
    simp only [noneNs, List.map_cons, List.map_nil] at S2
    clear S4 S
    ((with_reducible refine' r_unpack2 ?q_uS_13 ?q_uA_13 ?q_ut_13 ?_); (case q_uS_13 => assumption); (case q_uA_13 => exact Ok.handled ‹_›); (case q_ut_13 => assumption); (intro _ _ _ _); (dsimp only [Sc.val]))
    with_reducible refine r_store_int ‹_› ‹_› me0 up0 un0 fun _ _ => ?_
    with_reducible refine r_store_int ‹_› ‹_› me1 up0 un1 fun _ _ => ?_
    with_reducible refine wpAny_tests_nil ?_
    with_reducible refine go_true ?_
    with_reducible refine r_tuple_lit ?_
    with_reducible refine items_two ?_ rfl rfl
    with_reducible refine r_callB rfl ?_
    with_reducible refine r_global ‹_› ‹_› me0 (by exact gv_min _) ?_
    with_reducible refine nr_builtin ?_
    with_reducible refine items_two ?_ rfl rfl
    with_reducible refine r_local_int ‹_› ‹_› me0 me0 me0 fun _ => ?_
    with_reducible refine r_local_int ‹_› ‹_› me1 me0 me1 fun _ => ?_
    with_reducible refine r_min2 ‹_› (Ok.handled ‹_›) fun _ _ _ => ?_
    with_reducible refine r_callB rfl ?_
    with_reducible refine r_global ‹_› ‹_› me1 (by exact gv_max _) ?_
    with_reducible refine nr_builtin ?_
    with_reducible refine items_two ?_ rfl rfl
    with_reducible refine r_local_int ‹_› ‹_› me0 me0 me0 fun _ => ?_
    with_reducible refine r_local_int ‹_› ‹_› me1 me0 me1 fun _ => ?_
    with_reducible refine r_max2 ‹_› (Ok.handled ‹_›) fun _ _ _ => ?_
    with_reducible refine lit_intro szA ‹_› (by with_reducible exact .int (.int .nil)) fun _ _ _ => ?_
    rename_i a s6 S6
    have e1 : min (x.2.1 : Int) (x.2.2 : Int) = ((tieE x).1 : Nat) := by unfold tieE; omega
    have e2 : max (x.2.1 : Int) (x.2.2 : Int) = ((tieE x).2 : Nat) := by unfold tieE; omega
    rw [e1, e2] at S6
    exact ⟨_, _, rfl, ⟨a, rfl, S6.at (o := .tuple _) (.head _)⟩, rfl, St.wk S6 (.drop .refl)⟩
  intro C D2 s2 _ s5 S5
  rw [filterMap_some] at S5
  simp only [List.length_map] at S5
  clear S4 S
  with_reducible refine r_storeC_val ‹_› ‹_› me7 up5 fun _ _ => ?_
  with_reducible refine And.intro rfl ?_
  rename_i s6 S6
  refine h D2 _ (St.wk S6 ?_)
  rw [show (qs.map tieE).map tieMV = qs.map (fun q => tieMV (tieE q)) by rw [List.map_map]; rfl]
  exact .pick rm0 (.ns rm2 (fc (.inr me2) fn) (nd (by kernel_rfl!)) (.pick rm2 (.pick rm2 (.drop (.drop .refl)))))
end
end
section
open Float64
/-- a row of colours as a text -/
noncomputable def dS (l : List Nat) : Str := ⟨(l.map (48 + ·)).toArray⟩
theorem dS_len (l : List Nat) : (dS l).length = l.length := by simp [dS, Str.length]
theorem dS_app (l m : List Nat) : dS l ++ dS m = dS (l ++ m) := by
  show (⟨_⟩ : Str) = ⟨_⟩
  simp [dS]
theorem dS_inj {l m : List Nat} : dS l = dS m ↔ l = m := by
  constructor
  · intro h
    have h1 : (l.map (48 + ·)).toArray = (m.map (48 + ·)).toArray := congrArg Str.cps h
    have h2 : l.map (48 + ·) = m.map (48 + ·) := by simpa using h1
    exact (List.map_inj_right (fun a b e => by lia)).mp h2
  · rintro rfl; rfl
theorem dS_beq (l m : List Nat) : (dS l == dS m) = decide (l = m) := by
  by_cases h : l = m
  · subst h; simp
  · rw [decide_eq_false h, beq_eq_false_iff_ne]; exact fun e => h (dS_inj.mp e)
theorem dS_items (l : List Nat) : (dS l).cps.toList.map (fun c => MV.str ⟨#[c]⟩) = l.map fun d => MV.str (dS [d]) := by
  simp [dS]
theorem dS_nil : Str.ofString "" = dS [] := by decide +kernel
theorem slice012 {sz : Nat} (h1 : 1 ≤ sz) (h3 : sz ≤ 3) : Txt.slice (Str.ofString "012") none (some (sz : Int)) = dS (List.range sz) := by
  have : sz = 1 ∨ sz = 2 ∨ sz = 3 := by lia
  rcases this with rfl | rfl | rfl <;> decide +kernel
theorem perm_up {τ τ' ρ : Led} : (τ ++ (τ' ++ ρ)).Perm (τ' ++ (τ ++ ρ)) := List.perm_append_comm_assoc _ _ _
section
variable {B : Base} {σ σ' : Led} {s : Shared} {prog : Program} {A : Around} {E : Value → Shared → Prop} {env : Env} {k : Nat} {c1 c2 c3 c4 c5 c6 c7 c8 c9 c10 c11 c12 c13 : Addr}
theorem r_slice_uptoC {value e : Expr} {p pos : Pos} {Q : Value → Shared → Prop}
    (h : wpAny (model prog B.w) A (eval value env) (fun o s₁ => wpAny (model prog B.w) A (eval e env) (fun vu s₃ =>
      ∃ x t j u σ, o = .str x t ∧ vu = .int j u ∧ St B σ s₃ ∧ x.length ≤ sizeLine ∧ ∀ t' s', St B σ s' → Q (.str (Txt.slice x none (some j)) t') s') E s₁) E s) :
    wpAny (model prog B.w) A (eval (.Subscript value (.Slice none (some e) none p) pos) env) Q E s := by
  refine r_subscr (wpAny_mono h (fun o s₁ h₁ => wpAny_Slice (wpAny_mono (evalPart_none_step (Q := fun v s => v = .none ∧ s = s₁) ⟨rfl, rfl⟩) (fun v0 s₂ h₂ => ?_) fun _ _ x => x)) fun _ _ x => x)
  refine x0a2 h₂ fun qz010 qz011 => ?_; clear h₂; subst qz010; subst qz011
  refine wpAny_mono (evalPart_some_step h₁) (fun vu s₃ h₃ => evalPart_none_step ?_) fun _ _ x => x
  refine x5a5 h₃ fun x t j u σ qz115 qz116 S hsz hq => ?_; clear h₃; subst qz115; subst qz116
  refine ⟨(k2a2 ("str") _ (typeIs_str _ _ _) PySem.F.slot_str_getitem.lookup), wpAny_getItem_str_slice (l := none) (u := some (j, u)) (st := none) ⟨_, Heap.get?_push_size _ rfl, rfl, rfl⟩ rfl ?_⟩
  have S1 : ∀ k, s₃.toks ≤ k → St B σ { s₃ with heap := s₃.heap.push { cls := .type "slice", data := .fields #[.none, .int j u, .none] }, toks := k } := fun k hk => S.grow (fun b o e => Heap.get?_push_of_some _ e) k hk
  show (if ((1 : Int) == 1 && (Builtin.Str.strSliceIndices none (some j) 1 x.length).length == x.length) = true then Made.val (Value.str x t) else Made.str ⟨((Builtin.Str.strSliceIndices none (some j) 1 x.length).filterMap (x.cps[·]?)).toArray⟩).post _ _
  have hle := Txt.slice_le x none (some j)
  unfold Txt.slice at hq hle
  by_cases hc : ((1 : Int) == 1 && (Builtin.Str.strSliceIndices none (some j) 1 x.length).length == x.length) = true
  · rw [if_pos hc] at hq ⊢; exact hq _ _ (S1 _ (Nat.le_refl _))
  · rw [if_neg hc] at hq hle ⊢; exact ⟨Nat.le_trans hle hsz, hq _ _ (S1 (s₃.toks + 1) (Nat.le_succ _))⟩
theorem segJ_walk {a : LexA} {T : Int} {sz cnt : Nat} {ρ : Led} {J : Shared → Prop} (hE : EnvOk env lawLn (lawCs c1 c2 c3 c4 c5 c6 c7 c8 c9 c10 c11 c12 c13) lawGn) (hA : Ok A (k + 5))
    (h1 : 1 ≤ sz) (h3 : sz ≤ 3)
    (S : St B (lexLed a T [] [] ++ ((env.locals, .ns [("count", some (.int cnt))]) :: (c3, .cell (some (.ref a.x))) :: (c4, .cell none) :: (c5, .cell (some (.int sz))) :: ρ)) s)
    (h : ∀ (o : Option MV) (Rd : Addr) (s' : Shared), St B (lexLed a T [] ((List.range sz).map fun d => dS [d]) ++ ((Rd, .list []) :: (env.locals, .ns [("rows", some (.ref Rd)), ("count", some (.int cnt))]) :: (c3, .cell (some (.ref a.x))) :: (c4, .cell o) :: (c5, .cell (some (.int sz))) :: ρ)) s' → J s') :
    wpAny (model prog B.w) A (execs ((lawBody.drop 20).take 2) env) (fun f s' => f = .next ∧ J s') E s := by
  show wpAny _ _ (execs [_, _] _) _ _ _
  have S1 := St.perm S (perm_up (τ := [_, _, _, _]) (τ' := lexLed a T [] []))
  simp only [List.cons_append, List.nil_append] at S1
  clear S
  with_reducible refine wpAny_execs_cons ?_
  with_reducible refine r_for ?_ (fun _ => rfl)
  refine r_slice_uptoC ?_
  with_reducible refine r_str ‹_› fun _ _ _ => ?_
  with_reducible refine r_cell_int ‹_› ‹_› me8 me3 fun _ => ?_
  refine k5a5 _ _ _ _ _ rfl rfl ‹_› (by decide +kernel) (fun t2 s2 S2 => ?_)
  rw [slice012 h1 h3]
  with_reducible refine i_str ‹_› fun _ _ _ _ => ?_
  rename_i I cls s3 S3
  refine codeAny_mono (R := fun r s' => r = .ok .next ∧ ∃ o : Option MV, St B ((env.locals, .ns [("count", some (.int cnt))]) :: (c3, .cell (some (.ref a.x))) :: (c4, .cell o) :: (c5, .cell (some (.int sz))) :: (lexLed a T [] ((List.range sz).map fun d => dS [d]) ++ ρ)) s') ?_ ?_
  · refine b_forLoop Src.str (fun i σ' => ∃ o : Option MV, σ' = (env.locals, .ns [("count", some (.int cnt))]) :: (c3, .cell (some (.ref a.x))) :: (c4, .cell o) :: (c5, .cell (some (.int sz))) :: (lexLed a T [] (((List.range sz).take i).map fun d => dS [d]) ++ ρ)) hA.handled (fun _ _ _ => trivial) ?_ ?_ ⟨none, rfl⟩ S3
    · rintro i σ' s4 mv v hi or1
      refine x1a1 or1 fun o qz211 => ?_; clear or1; subst qz211
      rintro S4 hv N
      rw [dS_items] at hi
      obtain ⟨d, hd, rfl⟩ : ∃ d, (List.range sz)[i]? = some d ∧ MV.str (dS [d]) = mv := by rw [List.getElem?_map] at hi; exact Option.map_eq_some_iff.mp hi
      obtain ⟨tv, rfl⟩ := hv
      clear S3 S1
      have hlen : ((List.range sz).take i).length ≤ 3 := by simp; lia
      simp only [List.cons_append, List.nil_append, lexLed, List.map_nil] at S4
      intro J hJ
      with_reducible refine wpAny_assign_Name ?_
      with_reducible refine r_storeC_str ‹_› ‹_› me9 up3 fun _ _ => ?_
      with_reducible refine execs_oneB ?_
      with_reducible refine r_expr ‹_› ?_ rfl
      with_reducible refine r_m_pt rfl rfl rfl rfl ?_
      with_reducible refine r_cell_val ‹_› ‹_› me10 me2 ?_
      with_reducible refine imeth_intro ‹_› me5 me6 (by simp only [List.map_cons, List.map_nil]; decide +kernel) ?_
      with_reducible refine items_one ?_ rfl
      with_reducible refine r_cell_str ‹_› ‹_› me9 me3 fun _ => ?_
      (with_reducible refine And.intro ⟨_, by assumption⟩ ?_; with_reducible show wpAny _ _ (call (Value.ref _) _) _ _ _)
      rename_i S5 _
      refine push_spec (a := a) (T := T) (r := []) (push := ((List.range sz).take i).map fun d => dS [d]) (σ := [_, _, _, _, _] ++ ρ) (St.perm S5 (perm_up (τ := lexLed a T [] _) (τ' := [_, _, _, _, _]))) hA (by simp; lia) fun s6 S6 => ?_
      clear S5 S4
      have S7 := St.perm S6 (perm_up (τ := [_, _, _, _, _]) (τ' := lexLed a T [] _))
      clear S6
      with_reducible refine And.intro rfl ?_
      refine Hb.go hJ ?_
      refine k1a2 _ ⟨some (MV.str (dS [d])), rfl⟩ ?_
      rw [List.take_add_one, hd, List.map_append]
      exact S7
    · rintro σ' s4 or2
      refine x1a1 or2 fun o qz511 => ?_; clear or2; subst qz511
      rintro S4 N
      with_reducible refine wpAny_execs_nil ?_
      with_reducible refine And.intro rfl ?_
      refine ⟨o, ?_⟩
      rwa [show ((dS (List.range sz)).cps.toList.map (fun c => MV.str ⟨#[c]⟩)).length = (List.range sz).length by rw [dS_items]; simp, List.take_length] at S4
  · rintro r s4 or3
    refine x0a2 or3 fun qz610 oz61 => ?_; clear or3; subst qz610; refine x1a1 oz61 fun o S4 => ?_; clear oz61
    clear S3 S1
    simp only [List.cons_append, List.nil_append, lexLed, List.map_nil] at S4
    with_reducible refine execs_one ?_
    with_reducible refine wpAny_Assign_Name ?_ rfl
    with_reducible refine r_list_lit ?_
    with_reducible refine wpAny_items_nil ?_
    with_reducible refine lit_intro szA ‹_› (by with_reducible exact .nil) fun _ _ _ => ?_
    with_reducible refine r_storeN_val ‹_› ‹_› me20 up1 (nw (by kernel_rfl!)) fun _ _ => ?_
    with_reducible refine And.intro rfl ?_
    rename_i Rd _ _ _ S5
    refine h o Rd _ ?_
    simp only [List.cons_append, List.nil_append, lexLed, List.map_nil]
    exact St.wk S5 (.pick rm5 (.pick rm5 (.pick rm5 (.pick rm5 (.pick rm5 (.pick rm5 (.pick rm5 (.pick rm5 (.pick rm5 .refl)))))))))
end
end
section
open Float64
/-- what a tie says of a further colour d at a row r -/
noncomputable def qg (r : List Nat) (d : Nat) (e : Nat × Nat) : Option MV := if e.2 = r.length ∧ r[e.1]? = some d then some (nMV e.1) else none
noncomputable def qok (es : List (Nat × Nat)) (r : List Nat) (d : Nat) : Bool := (es.filterMap (qg r d)).isEmpty
noncomputable def qext (es : List (Nat × Nat)) (sz : Nat) (r : List Nat) : List (List Nat) := ((List.range sz).filter (qok es r)).map fun d => r ++ [d]
noncomputable def qstep (es : List (Nat × Nat)) (sz : Nat) : List (List Nat) × List (List Nat) → List (List Nat) × List (List Nat)
  | ([], rows) => ([], rows)
  | (r :: q, rows) => if r.length = 4 then (q, rows ++ [r]) else (q ++ qext es sz r, rows)
noncomputable def qrun (es : List (Nat × Nat)) (sz : Nat) : Nat → List (List Nat) × List (List Nat)
  | 0 => ((List.range sz).map fun d => [d], [])
  | n + 1 => qstep es sz (qrun es sz n)
theorem qext_len {es : List (Nat × Nat)} {sz : Nat} {r : List Nat} : (qext es sz r).length ≤ sz := by
  unfold qext
  rw [List.length_map]
  exact Nat.le_trans (List.length_filter_le _ _) (by simp)
theorem qrun_inv {es : List (Nat × Nat)} {sz : Nat} (h3 : sz ≤ 3) : ∀ n, (∀ r ∈ (qrun es sz n).1, 1 ≤ r.length ∧ r.length ≤ 4) ∧ (qrun es sz n).1.length ≤ 3 + 3 * n ∧ (qrun es sz n).2.length ≤ n
  | 0 => ⟨fun r hr => by
      refine x1a2 (List.mem_map.mp hr) fun d _ qz012 => ?_; subst qz012
      simp, by simp [qrun]; omega, by simp [qrun]⟩
  | n + 1 => by
    refine x0a3 (qrun_inv (es := es) h3 n) fun i1 i2 i3 => ?_
    unfold qrun
    cases hq : qrun es sz n with | mk q rows =>
    rw [hq] at i1 i2 i3
    dsimp only at i1 i2 i3
    cases q with
    | nil => exact ⟨by simp [qstep], by simp [qstep], by simp [qstep]; lia⟩
    | cons r q =>
      unfold qstep
      dsimp only
      simp only [List.length_cons] at i2
      split
      · skip
        exact ⟨fun r' hr => i1 r' (List.mem_cons_of_mem _ hr), by dsimp only; lia, by simp; omega⟩
      · rename_i hne
        refine ⟨fun r' hr => ?_, ?_, by dsimp only; lia⟩
        · rcases List.mem_append.mp hr with hr | hr
          · exact i1 r' (List.mem_cons_of_mem _ hr)
          · refine x1a2 (List.mem_map.mp hr) fun d _ qz212 => ?_; subst qz212
            have := i1 r (List.mem_cons_self ..)
            simp; lia
        · have := qext_len (es := es) (sz := sz) (r := r)
          simp; lia
theorem qrun_stay {es : List (Nat × Nat)} {sz i : Nat} (h : (qrun es sz i).1 = []) : ∀ j, (qrun es sz (i + j)).2 = (qrun es sz i).2 ∧ (qrun es sz (i + j)).1 = []
  | 0 => ⟨rfl, h⟩
  | j + 1 => by
    refine x0a2 (qrun_stay h j) fun h1 h2 => ?_
    have e : qrun es sz (i + (j + 1)) = qstep es sz (qrun es sz (i + j)) := rfl
    rw [e]
    cases hq : qrun es sz (i + j) with | mk q rows =>
    rw [hq] at h1 h2
    dsimp only at h1 h2
    subst h2
    exact ⟨h1, rfl⟩
theorem dS_get {r : List Nat} {a y : Nat} (h : r[a]? = some y) : ((seqIndex? (a : Int) (dS r).length).bind fun j => (dS r).cps[j]?) = some (48 + y) := by
  have hlt : a < r.length := (List.getElem?_eq_some_iff.mp h).1
  rw [seqIndex_of (k := a) (by lia) (by rw [dS_len]; lia)]
  simp [dS, h]
noncomputable def kFr (env : Env) (c3 c4 c5 c6 c7 c8 Rd Td x : Addr) (cnt sz : Nat) (es : List (Nat × Nat)) (rows : List (List Nat)) (ot o4 o7 o8 : Option MV) : Led :=
  [(Rd, .list (rows.map fun r => MV.str (dS r))), (env.locals, .ns [("turn", ot), ("rows", some (.ref Rd)), ("count", some (.int cnt))]), (c3, .cell (some (.ref x))), (c4, .cell o4), (c5, .cell (some (.int sz))), (c6, .cell (some (.ref Td))), (c7, .cell o7), (c8, .cell o8), (Td, .list (es.map tieMV))]
section
variable {B : Base} {σ σ' : Led} {s : Shared} {prog : Program} {A : Around} {E : Value → Shared → Prop} {env : Env} {k : Nat} {c1 c2 c3 c4 c5 c6 c7 c8 c9 c10 c11 c12 c13 : Addr}
theorem segK_walk {a : LexA} {T : Int} {sz cnt : Nat} {Rd Td : Addr} {es : List (Nat × Nat)} {o4 : Option MV} {ρ : Led} {J : Shared → Prop} (hE : EnvOk env lawLn (lawCs c1 c2 c3 c4 c5 c6 c7 c8 c9 c10 c11 c12 c13) lawGn) (hA : Ok A (k + 5))
    (h1 : 1 ≤ sz) (h3 : sz ≤ 3) (hes : es.length ≤ 5) (hes2 : ∀ e ∈ es, e.1 < e.2 ∧ e.2 < 4) (hL : LamOk B prog a)
    (S : St B (kFr env c3 c4 c5 c6 c7 c8 Rd Td a.x cnt sz es [] none o4 none none ++ (lexLed a T [] ((List.range sz).map fun d => dS [d]) ++ ρ)) s)
    (h : ∀ (o4 o7 o8 : Option MV) (q : List Str) (s' : Shared), St B (kFr env c3 c4 c5 c6 c7 c8 Rd Td a.x cnt sz es (qrun es sz 121).2 none o4 o7 o8 ++ (lexLed a T [] q ++ ρ)) s' → J s') :
    wpAny (model prog B.w) A (execs ((lawBody.drop 22).take 1) env) (fun f s' => f = .next ∧ J s') E s := by
  show wpAny _ _ (execs [_] _) _ _ _
  with_reducible refine execs_oneH fun Jz hJz => ?_
  with_reducible refine r_for ?_ (fun _ => rfl)
  with_reducible refine r_callB rfl ?_
  with_reducible refine r_global ‹_› ‹_› me1 (by exact gv_range _) ?_
  with_reducible refine nr_type ?_
  with_reducible refine items_one ?_ rfl
  with_reducible refine r_int ‹_› fun _ _ _ => ?_
  with_reducible refine r_range1 ‹_› fun _ _ _ _ _ _ _ => ?_
  rename_i r _ _ _ _ hR S5
  refine i_range (n := 121) S5 hR (by lia) (by lia) (by lia) fun I s6 S6 => ?_
  refine codeAny_mono (R := fun r s' => r = .ok .next ∧ ∃ (ot o4 o7 o8 : Option MV) (q : List Str), St B (kFr env c3 c4 c5 c6 c7 c8 Rd Td a.x cnt sz es (qrun es sz 121).2 ot o4 o7 o8 ++ (lexLed a T [] q ++ ρ)) s') ?_ ?_
  · refine b_range (k := k + 5) (fun i σ' => ∃ (ot o4 o7 o8 : Option MV), σ' = kFr env c3 c4 c5 c6 c7 c8 Rd Td a.x cnt sz es (qrun es sz i).2 ot o4 o7 o8 ++ (lexLed a T [] ((qrun es sz i).1.map dS) ++ ρ)) hA ?_ ?_ ⟨none, o4, none, none, ?_⟩ S6
    · rintro i _ s7 t hi or1
      refine x4a1 or1 fun ot o4 o7 o8 qz414 => ?_; clear or1; subst qz414
      rintro S7 N
      clear S6 S5 S
      refine x0a3 (qrun_inv (es := es) h3 i) fun i1 i2 i3 => ?_
      have hstay := @qrun_stay es sz i
      have hnext : qrun es sz (i + 1) = qstep es sz (qrun es sz i) := rfl
      rw [hnext]
      cases hq : qrun es sz i with | mk q rows =>
      rw [hq] at i1 i2 i3 S7 hstay
      dsimp only at i1 i2 i3 S7 hstay ⊢
      simp only [kFr, List.cons_append, List.nil_append, lexLed] at S7
      intro J hJ
      with_reducible refine wpAny_assign_Name ?_
      with_reducible refine r_store_int ‹_› ‹_› me21 up2 un0 fun _ _ => ?_
      with_reducible refine execs_consB ?_
      with_reducible refine wpAny_Assign_Name ?_ rfl
      with_reducible refine r_m_gt rfl rfl rfl rfl ?_
      with_reducible refine r_cell_val ‹_› ‹_› me10 me3 ?_
      with_reducible refine imeth_intro ‹_› me10 me11 (by simp only [List.map_cons, List.map_nil]; decide +kernel) ?_
      with_reducible refine wpAny_items_nil ?_
      (with_reducible refine And.intro ⟨_, by assumption⟩ ?_; with_reducible show wpAny _ _ (call (Value.ref _) _) _ _ _)
      rename_i S8
      cases q with
      | nil =>
        refine get_token_spec (a := a) (T := T) (r := []) (σ := [_, _, _, _, _, _, _, _, _, _] ++ ρ) (St.perm S8 (perm_up (τ := lexLed a T [] []) (τ' := [_, _, _, _, _, _, _, _, _, _]))) hL hA (by simp) fun t9 s9 S9 => ?_
        have S10 := St.perm S9 (perm_up (τ := [_, _, _, _, _, _, _, _, _, _]) (τ' := lexLed a T [] []))
        clear S9 S8 S7
        simp only [List.cons_append, List.nil_append, lexLed] at S10
        rw [show (tok []).1 = Str.ofString "" from rfl]
        with_reducible refine r_storeC_str ‹_› ‹_› me6 up7 fun _ _ => ?_
        with_reducible refine execs_consB ?_
        with_reducible refine wpAny_If ?_
        with_reducible refine r_cmps ‹_› ‹_› (.cel me6 me7) .con (fun _ _ _ _ => ?_) (by with_unfolding_all rfl)
        with_reducible refine PyProof.Rows.eq_str ?_
        with_reducible refine wpAny_truthy_bool ?_
        rw [show (Str.ofString "" == Str.ofString "") = true by simp]
        with_reducible refine go_true ?_
        with_reducible refine execs_oneH fun Jz hJz => ?_
        with_reducible refine wpAny_Break ?_
        with_reducible refine Hb.go ‹_› ?_
        with_reducible refine Hb.go ‹_› ?_
        with_reducible refine And.intro rfl ?_
        rename_i S11
        refine x0a2 (hstay rfl (121 - i)) fun hs1 hs2 => ?_
        rw [show i + (121 - i) = 121 by lia] at hs1
        rw [hs1]
        exact k5a1 _ _ _ _ _ (St.drop S11 (List.sublist_cons_self _ _))
      | cons r q =>
        refine get_push_spec (a := a) (T := T) (r := []) (y := dS r) (ys := q.map dS) (σ := [_, _, _, _, _, _, _, _, _, _] ++ ρ) (St.perm S8 (perm_up (τ := lexLed a T [] _) (τ' := [_, _, _, _, _, _, _, _, _, _]))) hA (by simp at i2 ⊢; lia) fun t9 s9 S9 => ?_
        have S10 := St.perm S9 (perm_up (τ := [_, _, _, _, _, _, _, _, _, _]) (τ' := lexLed a T [] _))
        clear S9 S8 S7
        simp only [List.cons_append, List.nil_append, lexLed] at S10
        with_reducible refine r_storeC_str ‹_› ‹_› me6 up7 fun _ _ => ?_
        with_reducible refine execs_consB ?_
        with_reducible refine wpAny_If ?_
        with_reducible refine r_cmps ‹_› ‹_› (.cel me6 me7) .con (fun _ _ _ _ => ?_) (by with_unfolding_all rfl)
        with_reducible refine PyProof.Rows.eq_str ?_
        with_reducible refine wpAny_truthy_bool ?_
        refine x0a2 (i1 r (List.mem_cons_self ..)) fun hr1 hr4 => ?_
        have hlen : (dS r).length ≤ 4 := by rw [dS_len]; exact hr4
        rw [dS_nil, dS_beq, show decide (r = []) = false by cases r <;> simp_all]
        with_reducible refine go_false ?_
        with_reducible refine wpAny_execs_nil ?_
        with_reducible refine execs_consB ?_
        with_reducible refine wpAny_Assign_Name ?_ rfl
        with_reducible refine r_callB rfl ?_
        with_reducible refine r_global ‹_› ‹_› me0 (by exact gv_len _) ?_
        with_reducible refine nr_builtin ?_
        with_reducible refine items_one ?_ rfl
        with_reducible refine r_cell_str ‹_› ‹_› me6 me7 fun _ => ?_
        with_reducible refine r_len_str ‹_› (leB ‹_› rfl) fun _ _ _ => ?_
        with_reducible refine r_storeC_int ‹_› ‹_› me5 up8 fun _ _ => ?_
        with_reducible refine execs_oneB ?_
        with_reducible refine wpAny_If ?_
        with_reducible refine r_cmpi ‹_› ‹_› (.cel me5 me8) .con (fun _ _ _ _ => ?_) (by with_unfolding_all rfl)
        with_reducible refine PyProof.Rows.eq_int ?_
        with_reducible refine wpAny_truthy_bool ?_
        rw [dS_len] at *
        by_cases h4 : r.length = 4
        · refine ite_t (by simp [h4]) ?_
          with_reducible refine execs_oneB ?_
          with_reducible refine r_expr ‹_› ?_ rfl
          with_reducible refine r_method rfl rfl rfl rfl ?_
          with_reducible refine r_local_val ‹_› ‹_› me20 me2 me1 ?_
          with_reducible refine mList PySem.F.slot_list_append PySem.F.type_list_append ‹_› me1 ?_
          with_reducible refine items_one ?_ rfl
          with_reducible refine r_cell_str ‹_› ‹_› me6 me7 fun _ => ?_
          with_reducible refine r_lappend_str ‹_› up1 szA fun _ _ => ?_
          with_reducible refine And.intro rfl ?_
          with_reducible refine Hb.go ‹_› ?_
          rename_i S11
          unfold qstep
          dsimp only
          rw [if_pos h4]
          refine k1a2 _ (k4a1 (some (.int (0 + (i : Int)))) o4 (some (.str (dS r))) (some (.int r.length)) rfl) ?_
          simp only [kFr, List.map_append, List.map_cons, List.map_nil, List.cons_append, List.nil_append, lexLed]
          exact S11
        · refine ite_f (by simp; lia) ?_
          with_reducible refine execs_oneB ?_
          with_reducible refine r_for ?_ (fun _ => rfl)
          with_reducible refine r_slice_uptoC ?_
          with_reducible refine r_str ‹_› fun _ _ _ => ?_
          with_reducible refine r_cell_int ‹_› ‹_› me8 me5 fun _ => ?_
          refine k5a5 _ _ _ _ _ rfl rfl ‹_› (by decide +kernel) (fun t2 s2 S2 => ?_)
          rw [slice012 h1 h3]
          clear S10
          with_reducible refine i_str ‹_› fun _ _ _ _ => ?_
          rename_i I2 cls s3 S3
          have hlast : ∀ (ot o4 o7 o8 : Option MV) s', St B ((I, .rangeIter (0 + ((i + 1 : Nat) : Int)) (((121 : Nat) : Int) - ((i + 1 : Nat) : Int)) 1) :: (kFr env c3 c4 c5 c6 c7 c8 Rd Td a.x cnt sz es rows ot o4 o7 o8 ++ (lexLed a T [] ((q ++ (((List.range sz).take sz).filter (qok es r)).map fun d => r ++ [d]).map dS) ++ ρ))) s' →
              ∃ σ', (∃ (ot o4 o7 o8 : Option MV), σ' = kFr env c3 c4 c5 c6 c7 c8 Rd Td a.x cnt sz es (qstep es sz (r :: q, rows)).2 ot o4 o7 o8 ++ (lexLed a T [] ((qstep es sz (r :: q, rows)).1.map dS) ++ ρ)) ∧ St B ((I, .rangeIter (0 + ((i + 1 : Nat) : Int)) (((121 : Nat) : Int) - ((i + 1 : Nat) : Int)) 1) :: σ') s' := by
            intro ot o4 o7 o8 s' S'
            rw [List.take_of_length_le (by simp)] at S'
            refine k1a2 _ (k4a1 ot o4 o7 o8 rfl) ?_
            unfold qstep
            dsimp only
            rw [if_neg h4]
            exact S'
          refine codeAny_mono (R := fun r' s' => r' = .ok .next ∧ ∃ (ot o4 o7 o8 : Option MV), St B ((I, .rangeIter (0 + ((i + 1 : Nat) : Int)) (((121 : Nat) : Int) - ((i + 1 : Nat) : Int)) 1) :: (kFr env c3 c4 c5 c6 c7 c8 Rd Td a.x cnt sz es rows ot o4 o7 o8 ++ (lexLed a T [] ((q ++ (((List.range sz).take sz).filter (qok es r)).map fun d => r ++ [d]).map dS) ++ ρ))) s') ?_ ?_
          · refine b_forLoop Src.str (fun j σ' => ∃ o4 : Option MV, σ' = (I, .rangeIter (0 + ((i + 1 : Nat) : Int)) (((121 : Nat) : Int) - ((i + 1 : Nat) : Int)) 1) :: (kFr env c3 c4 c5 c6 c7 c8 Rd Td a.x cnt sz es rows (some (.int (0 + (i : Int)))) o4 (some (.str (dS r))) (some (.int r.length)) ++ (lexLed a T [] ((q ++ (((List.range sz).take j).filter (qok es r)).map fun d => r ++ [d]).map dS) ++ ρ))) hA.handled (fun _ _ _ => trivial) ?_ ?_ ⟨o4, ?_⟩ S3
            · rintro j σ' s4 mv v hj or2
              refine x1a1 or2 fun o4' qz811 => ?_; clear or2; subst qz811
              rintro S4 hv N'
              rw [dS_items] at hj
              obtain ⟨d, hd, rfl⟩ : ∃ d, (List.range sz)[j]? = some d ∧ MV.str (dS [d]) = mv := by rw [List.getElem?_map] at hj; exact Option.map_eq_some_iff.mp hj
              refine x1a1 hv fun tv qz111 => ?_; clear hv; subst qz111
              clear S3 S2 hlast
              simp only [kFr, List.cons_append, List.nil_append, lexLed] at S4
              intro J hJ
              with_reducible refine wpAny_assign_Name ?_
              with_reducible refine r_storeC_str ‹_› ‹_› me9 up5 fun _ _ => ?_
              with_reducible refine execs_oneB ?_
              with_reducible refine wpAny_If ?_
              with_reducible refine wpAny_isTrue_Compare1 ?_
              refine' r_compE (ln' := ["a", "b"]) (cs' := [("row", c7), ("sign", c4), ("spot", c8)]) (fv := ["row", "sign", "spot"]) (gn' := []) hE ?q_c1 rfl ?q_c2 ?q_c3 ?_
              case q_c1 => exact ⟨scO rfl (by decide +kernel), by decide +kernel, by decide +kernel⟩
              case q_c2 => exact fc me6 (fc me9 (fc me5 fn))
              case q_c3 => intro _; rfl
              with_reducible refine r_cell_val ‹_› ‹_› me7 me7 ?_
              with_reducible refine i_list ‹_› me10 fun _ _ _ => ?_
              rename_i I3 s5 S5
              refine CompPack.of_list es tieMV (qg r d) S5 me10 rfl hA.handled (leB ‹_› rfl) ?_ ?_
              · rintro C D' cenv hE' hc ii x acc s6 v hx S6 or3
                refine x1a2 or3 fun ta qz211 ht => ?_; clear or3; subst qz211
                rintro N2
                have hxe := hes2 x (List.mem_of_getElem? hx)
                simp only [noneNs, List.map_cons, List.map_nil] at S6
                clear S5 S4
                ((with_reducible refine' r_unpack2 ?q_uS_97 ?q_uA_97 ?q_ut_97 ?_); (case q_uS_97 => assumption); (case q_uA_97 => exact Ok.handled ‹_›); (case q_ut_97 => assumption); (intro _ _ _ _); (dsimp only [Sc.val]))
                with_reducible refine r_store_int ‹_› ‹_› me0 up0 un0 fun _ _ => ?_
                with_reducible refine r_store_int ‹_› ‹_› me1 up0 un1 fun _ _ => ?_
                with_reducible refine wpAny_tests_one ?_
                with_reducible refine PyProof.Rows.isTrue_and ?_
                with_reducible refine r_cmpi ‹_› ‹_› (.loc me1 me0 me1) (.cel me2 me12) (fun _ _ _ _ => ?_) (by with_unfolding_all rfl)
                with_reducible refine PyProof.Rows.eq_int ?_
                with_reducible refine wpAny_truthy_bool ?_
                by_cases hb : x.2 = r.length
                · refine ite_t (by simp [hb]) ?_
                  with_reducible refine PyProof.Rows.isTrue_and ?_
                  with_reducible refine wpAny_isTrue_Compare1 ?_
                  with_reducible refine r_subscr ?_
                  with_reducible refine r_cell_str ‹_› ‹_› me0 me11 fun _ => ?_
                  with_reducible refine r_local_int ‹_› ‹_› me0 me0 me0 fun _ => ?_
                  with_reducible refine g_str ?_
                  refine x1a1 (⟨_, List.getElem?_eq_getElem (by lia)⟩ : ∃ y, r[x.1]? = some y) fun y hy => ?_
                  refine r_getc ‹_› (by grind) (dS_get hy) fun t8 s8 S8 => ?_
                  with_reducible refine r_cell_str ‹_› ‹_› me1 me8 fun _ => ?_
                  with_reducible refine PyProof.Rows.eq_str ?_
                  with_reducible refine wpAny_truthy_bool ?_
                  rw [show (⟨#[48 + y]⟩ : Str) = dS [y] from rfl, dS_beq]
                  by_cases hyd : y = d
                  · subst hyd
                    refine ite_t (by simp) ?_
                    with_reducible refine PyProof.Rows.isTrue_and_nil ?_
                    with_reducible refine go_true ?_
                    with_reducible refine r_local_int ‹_› ‹_› me0 me0 me0 fun _ => ?_
                    refine ⟨nMV x.1, [("a", some (.int x.1)), ("b", some (.int x.2))], by unfold qg; rw [if_pos ⟨hb, hy⟩], ⟨_, rfl⟩, rfl, ?_⟩
                    assumption
                  · refine ite_f (by simpa using hyd) ?_
                    with_reducible refine go_false ?_
                    refine ⟨by unfold qg; rw [if_neg (by rintro ⟨_, h⟩; rw [hy] at h; exact hyd (by simpa using h))], (k1a2 _ rfl ‹_›)⟩
                · refine ite_f (by simp; lia) ?_
                  with_reducible refine go_false ?_
                  refine ⟨by unfold qg; rw [if_neg (by rintro ⟨h, _⟩; exact hb h)], (k1a2 _ rfl ‹_›)⟩
              intro C D2 s6 S6
              clear S5 S4
              intro s7 S7
              with_reducible refine r_list_lit ?_
              with_reducible refine wpAny_items_nil ?_
              with_reducible refine lit_intro szA ‹_› (by with_reducible exact .nil) fun _ _ _ => ?_
              with_reducible refine r_eq_nil ‹_› ‹_› me1 me0 ?_
              with_reducible refine wpAny_truthy_bool ?_
              have hdrop : (List.range sz).take (j + 1) = (List.range sz).take j ++ [d] := by rw [List.take_add_one, hd]; rfl
              have hqlen : (q ++ (((List.range sz).take j).filter (qok es r)).map fun d => r ++ [d]).length ≤ 400 := by
                have := List.length_filter_le (qok es r) ((List.range sz).take j)
                simp at this i2 ⊢; lia
              rw [show (es.filterMap (qg r d)).isEmpty = qok es r d from rfl]
              have hl4 : (dS r).length ≤ 4 := by rw [dS_len]; exact hr4
              have hl1 : (dS [d]).length ≤ 1 := by rw [dS_len]; exact Nat.le_refl _
              by_cases hk : qok es r d = true
              · rw [if_pos hk]
                with_reducible refine execs_oneB ?_
                with_reducible refine r_expr ‹_› ?_ rfl
                with_reducible refine r_m_pt rfl rfl rfl rfl ?_
                with_reducible refine r_cell_val ‹_› ‹_› me10 me6 ?_
                with_reducible refine imeth_intro ‹_› me13 me14 (by simp only [List.map_cons, List.map_nil]; decide +kernel) ?_
                with_reducible refine items_one ?_ rfl
                with_reducible refine wpAny_BinOp ?_
                with_reducible refine r_cell_str ‹_› ‹_› me6 me10 fun _ => ?_
                with_reducible refine r_cell_str ‹_› ‹_› me9 me7 fun _ => ?_
                with_reducible refine r_sadd ‹_› (by unfold sizeLine; lia) fun _ _ _ => ?_
                (with_reducible refine And.intro ⟨_, by assumption⟩ ?_; with_reducible show wpAny _ _ (call (Value.ref _) _) _ _ _)
                rename_i S10
                refine push_spec (a := a) (T := T) (r := []) (push := (q ++ (((List.range sz).take j).filter (qok es r)).map fun d => r ++ [d]).map dS) (σ := [_, _, _, _, _, _, _, _, _, _, _, _, _] ++ ρ) (St.perm S10 (perm_up (τ := lexLed a T [] _) (τ' := [_, _, _, _, _, _, _, _, _, _, _, _, _]))) hA (by simp at hqlen ⊢; exact ltB ‹_› rfl) fun s11 S11 => ?_
                have S12 := St.perm S11 (perm_up (τ := [_, _, _, _, _, _, _, _, _, _, _, _, _]) (τ' := lexLed a T [] _))
                clear S11 S10
                with_reducible refine And.intro rfl ?_
                with_reducible refine Hb.go ‹_› ?_
                rw [hdrop, List.filter_append, List.filter_cons, List.filter_nil, if_pos hk]
                refine k1a2 _ ⟨some (.str (dS [d])), rfl⟩ ?_
                simp only [kFr, lexLed, List.map_append, List.map_cons, List.map_nil, List.cons_append, List.nil_append, ← dS_app, ← List.append_assoc] at S12 ⊢
                exact St.wk S12 (.pick rm2 (.pick rm2 (.pick rm2 (.pick rm2 (.pick rm2 (.pick rm2 (.pick rm2 (.pick rm2 (.pick rm2 (.pick rm2 (.pick rm2 (.pick rm2 (.pick rm2 (.pick rm2 (.pick rm2 (.pick rm2 (.pick rm2 (.pick rm2 (.pick rm2 (.pick rm2 (.drop (.drop .refl))))))))))))))))))))))
              · rw [if_neg hk]
                with_reducible refine wpAny_execs_nil ?_
                with_reducible refine Hb.go ‹_› ?_
                rw [hdrop, List.filter_append, List.filter_cons, List.filter_nil, if_neg hk, List.append_nil]
                refine k1a2 _ ⟨some (.str (dS [d])), rfl⟩ ?_
                rename_i S10
                simp only [kFr, lexLed, List.cons_append, List.nil_append] at S10 ⊢
                exact St.wk S10 (.pick rm2 (.pick rm2 (.pick rm2 (.pick rm2 (.pick rm2 (.pick rm2 (.pick rm2 (.pick rm2 (.pick rm2 (.pick rm2 (.pick rm2 (.pick rm2 (.pick rm2 (.pick rm2 (.pick rm2 (.pick rm2 (.pick rm2 (.pick rm2 (.pick rm2 (.pick rm2 (.drop (.drop .refl))))))))))))))))))))))
            · rintro σ' s4 or4
              refine x1a1 or4 fun o4' qz1311 => ?_; clear or4; subst qz1311
              rintro S4 N'
              with_reducible refine wpAny_execs_nil ?_
              with_reducible refine And.intro rfl ?_
              rw [show ((dS (List.range sz)).cps.toList.map (fun c => MV.str ⟨#[c]⟩)).length = sz by rw [dS_items]; simp] at S4
              exact k4a1 _ _ _ _ S4
            · simp only [kFr, List.take_zero, List.filter_nil, List.map_nil, List.append_nil, List.cons_append, List.nil_append, lexLed]
          · rintro r' s4 or5
            refine x0a2 or5 fun qz1410 oz141 => ?_; clear or5; subst qz1410; refine x4a1 oz141 fun ot o4 o7 o8 S4 => ?_; clear oz141
            clear S3 S2
            with_reducible refine Hb.go ‹_› ?_
            exact hlast _ _ _ _ _ S4
    · rintro σ' s7 or6
      refine x4a1 or6 fun ot o4 o7 o8 qz1514 => ?_; clear or6; subst qz1514
      rintro S7 N
      with_reducible refine wpAny_execs_nil ?_
      with_reducible refine And.intro rfl ?_
      exact k5a1 _ _ _ _ _ S7
    · simp only [qrun, List.map_map]; rfl
  · rintro r s7 or7
    refine x0a2 or7 fun qz1610 oz161 => ?_; clear or7; subst qz1610; refine x5a1 oz161 fun ot o4 o7 o8 q S7 => ?_; clear oz161
    clear S6 S5 S
    with_reducible refine Hb.go ‹_› ?_
    with_reducible refine And.intro rfl ?_
    refine h o4 o7 o8 q _ ?_
    simp only [kFr, lexLed, List.cons_append, List.nil_append] at S7 ⊢
    exact St.wk S7 (.pick rm0 (.ns rm0 (fc (.inl rfl) (fc (.inr me1) (fc (.inr me2) fn))) (nd (by kernel_rfl!)) .refl))
end
end
section
open Float64
noncomputable def rowAt (sz t : Nat) : List Nat := [t / sz ^ 3 % sz, t / sz ^ 2 % sz, t / sz ^ 1 % sz, t / sz ^ 0 % sz]
noncomputable def dg (r : List Nat) (e : Nat × Nat) : Option MV := if r[e.1]? = r[e.2]? then some (nMV e.1) else none
noncomputable def dok (es : List (Nat × Nat)) (r : List Nat) : Bool := (es.filterMap (dg r)).isEmpty
noncomputable def dueTo (es : List (Nat × Nat)) (sz n : Nat) : List (List Nat) := ((List.range n).map (rowAt sz)).filter (dok es)
theorem dueTo_succ {es : List (Nat × Nat)} {sz n : Nat} : dueTo es sz (n + 1) = dueTo es sz n ++ if dok es (rowAt sz n) = true then [rowAt sz n] else [] := by
  unfold dueTo
  rw [List.range_succ, List.map_append, List.filter_append]
  congr 1
  simp only [List.map_cons, List.map_nil, List.filter_cons, List.filter_nil]
theorem dueTo_len {es : List (Nat × Nat)} {sz n : Nat} : (dueTo es sz n).length ≤ n := by
  unfold dueTo
  exact Nat.le_trans (List.length_filter_le _ _) (by simp)
theorem join4 (a b c d : Nat) : Txt.join (Str.ofString "") [dS [a], dS [b], dS [c], dS [d]] = dS [a, b, c, d] := by
  show dS [a] ++ Str.ofString "" ++ (dS [b] ++ Str.ofString "" ++ (dS [c] ++ Str.ofString "" ++ dS [d])) = _
  rw [dS_nil]
  simp only [dS_app]; rfl
theorem at012 : ∀ d, d < 3 → ((seqIndex? ((d : Nat) : Int) (Str.ofString "012").length).bind fun j => (Str.ofString "012").cps[j]?) = some (48 + d) := by decide +kernel
theorem pow_pos4 : ∀ sz : Nat, sz < 4 → ∀ i, i < 4 → 1 ≤ sz → (0 : Int) < (sz : Int) ^ i ∧ ((sz : Int) ^ i).natAbs < 2 ^ 64 := by decide
section
variable {B : Base} {σ σ' : Led} {s : Shared} {prog : Program} {A : Around} {E : Value → Shared → Prop} {env : Env} {k : Nat} {c1 c2 c3 c4 c5 c6 c7 c8 c9 c10 c11 c12 c13 : Addr}
theorem segL_walk {sz cnt : Nat} {Rd Td : Addr} {es : List (Nat × Nat)} {o7 : Option MV} {ρ : Led} {J : Shared → Prop} (hE : EnvOk env lawLn (lawCs c1 c2 c3 c4 c5 c6 c7 c8 c9 c10 c11 c12 c13) lawGn) (hA : Ok A (k + 5))
    (h1 : 1 ≤ sz) (h3 : sz ≤ 3) (hes : es.length ≤ 5) (hes2 : ∀ e ∈ es, e.1 < e.2 ∧ e.2 < 4)
    (S : St B ((env.locals, .ns [("rows", some (.ref Rd)), ("count", some (.int cnt))]) :: (c5, .cell (some (.int sz))) :: (c6, .cell (some (.ref Td))) :: (c7, .cell o7) :: (c9, .cell none) :: (Td, .list (es.map tieMV)) :: ρ) s)
    (h : ∀ (Dd : Addr) (o7 o9 : Option MV) (s' : Shared), St B ((Dd, .list ((dueTo es sz (sz ^ 4)).map fun r => MV.str (dS r))) :: (env.locals, .ns [("due", some (.ref Dd)), ("rows", some (.ref Rd)), ("count", some (.int cnt))]) :: (c5, .cell (some (.int sz))) :: (c6, .cell (some (.ref Td))) :: (c7, .cell o7) :: (c9, .cell o9) :: (Td, .list (es.map tieMV)) :: ρ) s' → J s') :
    wpAny (model prog B.w) A (execs ((lawBody.drop 23).take 2) env) (fun f s' => f = .next ∧ J s') E s := by
  show wpAny _ _ (execs [_, _] _) _ _ _
  with_reducible refine execs_consH fun Jz hJz => ?_
  with_reducible refine wpAny_Assign_Name ?_ rfl
  with_reducible refine r_list_lit ?_
  with_reducible refine wpAny_items_nil ?_
  with_reducible refine lit_intro szA ‹_› (by with_reducible exact .nil) fun _ _ _ => ?_
  with_reducible refine r_storeN_val ‹_› ‹_› me22 up1 (nw (by kernel_rfl!)) fun _ _ => ?_
  with_reducible refine execs_oneB ?_
  with_reducible refine r_for ?_ (fun _ => rfl)
  with_reducible refine r_callB rfl ?_
  with_reducible refine r_global ‹_› ‹_› me1 (by exact gv_range _) ?_
  with_reducible refine nr_type ?_
  with_reducible refine items_one ?_ rfl
  with_reducible refine wpAny_BinOp ?_
  with_reducible refine r_cell_int ‹_› ‹_› me8 me2 fun _ => ?_
  with_reducible refine r_int ‹_› fun _ _ _ => ?_
  refine r_pow (n := 4) ‹_› rfl (ltB ‹_› rfl) (by decide) fun t9 s9 S9 => ?_
  with_reducible refine r_range1 ‹_› fun _ _ _ _ _ _ _ => ?_
  rename_i D _ _ _ _ _ _ _ _ r _ _ _ _ hR S5
  have hsz4 : sz ^ 4 ≤ 81 := Nat.le_trans (Nat.pow_le_pow_left h3 4) (by decide)
  refine i_range (n := sz ^ 4) S5 hR (by simp) (by omega) (by omega) fun I s6 S6 => ?_
  refine codeAny_mono (R := fun r s' => r = .ok .next ∧ ∃ o7 o9 : Option MV, St B ((D, .list ((dueTo es sz (sz ^ 4)).map fun r => MV.str (dS r))) :: (env.locals, .ns [("due", some (.ref D)), ("rows", some (.ref Rd)), ("count", some (.int cnt))]) :: (c5, .cell (some (.int sz))) :: (c6, .cell (some (.ref Td))) :: (c7, .cell o7) :: (c9, .cell o9) :: (Td, .list (es.map tieMV)) :: ρ) s') ?_ ?_
  · refine b_range (k := k + 5) (fun i σ' => ∃ o7 o9 : Option MV, σ' = (D, .list ((dueTo es sz i).map fun r => MV.str (dS r))) :: (env.locals, .ns [("due", some (.ref D)), ("rows", some (.ref Rd)), ("count", some (.int cnt))]) :: (c5, .cell (some (.int sz))) :: (c6, .cell (some (.ref Td))) :: (c7, .cell o7) :: (c9, .cell o9) :: (Td, .list (es.map tieMV)) :: ρ) hA ?_ ?_ ⟨o7, none, rfl⟩ S6
    · rintro i _ s7 t hi or1
      refine x2a1 or1 fun o7 o9 qz012 => ?_; clear or1; subst qz012
      rintro S7 N
      clear S6 S5 S9 S
      intro J hJ
      with_reducible refine wpAny_assign_Name ?_
      with_reducible refine r_storeC_int ‹_› ‹_› me4 up6 fun _ _ => ?_
      with_reducible refine execs_consB ?_
      with_reducible refine wpAny_Assign_Name ?_ rfl
      with_reducible refine r_method rfl rfl rfl rfl ?_
      with_reducible refine r_str ‹_› fun _ _ _ => ?_
      with_reducible refine mStr PySem.F.slot_str_join PySem.F.type_str_join ?_
      with_reducible refine items_one ?_ rfl
      refine' r_compE (ln' := ["k"]) (cs' := [("size", c5), ("t", c9)]) (fv := ["size", "t"]) (gn' := []) hE ?q_c1 rfl ?q_c2 ?q_c3 ?_
      case q_c1 => exact ⟨scO rfl (by decide +kernel), by decide +kernel, by decide +kernel⟩
      case q_c2 => exact fc me8 (fc me4 fn)
      case q_c3 => intro _; rfl
      with_reducible refine r_list_lit ?_
      with_reducible refine wpAny_items_cons ?_ rfl
      with_reducible refine r_int ‹_› fun _ _ _ => ?_
      with_reducible refine wpAny_items_cons ?_ rfl
      with_reducible refine r_int ‹_› fun _ _ _ => ?_
      with_reducible refine items_two ?_ rfl rfl
      with_reducible refine r_int ‹_› fun _ _ _ => ?_
      with_reducible refine r_int ‹_› fun _ _ _ => ?_
      with_reducible refine lit_intro szA ‹_› (by with_reducible exact .aint (.aint (.aint (.aint .nil)))) fun _ _ _ => ?_
      with_reducible refine i_list ‹_› me0 fun _ _ _ => ?_
      rename_i I2 s8 S8
      refine CompPack.of_list (items := [.int 3, .int 2, .int 1, .int 0]) [3, 2, 1, 0] nMV (fun x => some (MV.str (dS [i / sz ^ x % sz]))) S8 me0 rfl hA.handled (by decide) ?_ ?_
      · rintro C D' cenv hE' hc ii x acc s6 v hx S6 or2
        refine x1a1 or2 fun ta qz011 => ?_; clear or2; subst qz011
        rintro N2
        have hx4 : x < 4 := by
          have := List.mem_of_getElem? hx
          simp at this; omega
        simp only [noneNs, List.map_cons, List.map_nil] at S6
        clear S8 S7
        with_reducible refine wpAny_assign_Name ?_
        with_reducible refine r_store_int ‹_› ‹_› me0 up0 un0 fun _ _ => ?_
        with_reducible refine wpAny_tests_nil ?_
        with_reducible refine go_true ?_
        with_reducible refine r_subscr ?_
        with_reducible refine r_str ‹_› fun _ _ _ => ?_
        with_reducible refine wpAny_BinOp ?_
        with_reducible refine wpAny_BinOp ?_
        with_reducible refine r_cell_int ‹_› ‹_› me1 me10 fun _ => ?_
        with_reducible refine wpAny_BinOp ?_
        with_reducible refine r_cell_int ‹_› ‹_› me0 me7 fun _ => ?_
        with_reducible refine r_local_int ‹_› ‹_› me0 me0 me0 fun _ => ?_
        refine r_pow (n := x) ‹_› rfl (ltB ‹_› rfl) (leB ‹_› rfl) fun t9 s9 S9 => ?_
        refine x0a2 (pow_pos4 sz (ltB ‹_› rfl) x hx4 h1) fun hp1 hp2 => ?_
        refine r_fdiv ‹_› hp1 hp2 fun t10 s10 S10 => ?_
        with_reducible refine r_cell_int ‹_› ‹_› me0 me7 fun _ => ?_
        with_reducible refine r_mod ‹_› (by omega) fun _ _ _ => ?_
        with_reducible refine g_str ?_
        have hd3 : i / sz ^ x % sz < 3 := Nat.lt_of_lt_of_le (Nat.mod_lt _ h1) h3
        rw [show (0 + (i : Int)) / (sz : Int) ^ x % (sz : Int) = ((i / sz ^ x % sz : Nat) : Int) by simp]
        refine r_getc ‹_› (leB ‹_› rfl) (at012 _ hd3) fun t11 s11 S11 => ?_
        exact ⟨_, [("k", some (.int x))], rfl, ⟨_, rfl⟩, rfl, S11⟩
      intro C D2 s9 S9 s10 S10
      rw [show ([3, 2, 1, 0] : List Nat).filterMap (fun x => some (MV.str (dS [i / sz ^ x % sz]))) = (([3, 2, 1, 0] : List Nat).map fun x => dS [i / sz ^ x % sz]).map MV.str from rfl] at S10
      clear S9 S8 S7
      refine r_sjoin (xs := ([3, 2, 1, 0] : List Nat).map fun x => dS [i / sz ^ x % sz]) ‹_› me0 (by simp [dS_len, len_emp]; decide) fun t7 s7 S7 => ?_
      rw [show Txt.join (Str.ofString "") (([3, 2, 1, 0] : List Nat).map fun x => dS [i / sz ^ x % sz]) = dS (rowAt sz i) from join4 _ _ _ _]
      clear S10
      with_reducible refine r_storeC_str ‹_› ‹_› me6 up7 fun _ _ => ?_
      with_reducible refine execs_oneB ?_
      with_reducible refine wpAny_If ?_
      with_reducible refine wpAny_isTrue_Compare1 ?_
      refine' r_compE (ln' := ["a", "b"]) (cs' := [("row", c7)]) (fv := ["row"]) (gn' := []) hE ?q_c1 rfl ?q_c2 ?q_c3 ?_
      case q_c1 => exact ⟨scO rfl (by decide +kernel), by decide +kernel, by decide +kernel⟩
      case q_c2 => exact fc me6 fn
      case q_c3 => intro _; rfl
      with_reducible refine r_cell_val ‹_› ‹_› me7 me6 ?_
      with_reducible refine i_list ‹_› me9 fun _ _ _ => ?_
      rename_i I3 s5 S5
      refine CompPack.of_list es tieMV (dg (rowAt sz i)) S5 me9 rfl hA.handled (leB ‹_› rfl) ?_ ?_
      · rintro C D' cenv hE' hc ii x acc s6 v hx S6 or3
        refine x1a2 or3 fun ta qz111 ht => ?_; clear or3; subst qz111
        rintro N2
        have hxe := hes2 x (List.mem_of_getElem? hx)
        have hrl : (rowAt sz i).length = 4 := rfl
        simp only [noneNs, List.map_cons, List.map_nil] at S6
        clear S5 S7
        refine x1a1 (⟨_, List.getElem?_eq_getElem (by omega)⟩ : ∃ y, (rowAt sz i)[x.1]? = some y) fun y hy => ?_
        refine x1a1 (⟨_, List.getElem?_eq_getElem (by omega)⟩ : ∃ z, (rowAt sz i)[x.2]? = some z) fun z hz => ?_
        ((with_reducible refine' r_unpack2 ?q_uS_56 ?q_uA_56 ?q_ut_56 ?_); (case q_uS_56 => assumption); (case q_uA_56 => exact Ok.handled ‹_›); (case q_ut_56 => assumption); (intro _ _ _ _); (dsimp only [Sc.val]))
        with_reducible refine r_store_int ‹_› ‹_› me0 up0 un0 fun _ _ => ?_
        with_reducible refine r_store_int ‹_› ‹_› me1 up0 un1 fun _ _ => ?_
        with_reducible refine wpAny_tests_one ?_
        with_reducible refine wpAny_isTrue_Compare1 ?_
        with_reducible refine r_subscr ?_
        with_reducible refine r_cell_str ‹_› ‹_› me0 me10 fun _ => ?_
        with_reducible refine r_local_int ‹_› ‹_› me0 me0 me0 fun _ => ?_
        with_reducible refine g_str ?_
        refine r_getc ‹_› (by omega) (dS_get hy) fun t8 s8 S8 => ?_
        with_reducible refine r_subscr ?_
        with_reducible refine r_cell_str ‹_› ‹_› me0 me10 fun _ => ?_
        with_reducible refine r_local_int ‹_› ‹_› me1 me0 me1 fun _ => ?_
        with_reducible refine g_str ?_
        refine r_getc ‹_› (by omega) (dS_get hz) fun t8 s8 S8 => ?_
        with_reducible refine PyProof.Rows.eq_str ?_
        with_reducible refine wpAny_truthy_bool ?_
        rw [show (⟨#[48 + y]⟩ : Str) = dS [y] from rfl, show (⟨#[48 + z]⟩ : Str) = dS [z] from rfl, dS_beq]
        by_cases hyz : y = z
        · subst hyz
          refine ite_t (by simp) ?_
          with_reducible refine r_local_int ‹_› ‹_› me0 me0 me0 fun _ => ?_
          refine ⟨nMV x.1, [("a", some (.int x.1)), ("b", some (.int x.2))], by unfold dg; rw [hy, hz, if_pos rfl], ⟨_, rfl⟩, rfl, ?_⟩
          assumption
        · refine ite_f (by simpa using hyz) ?_
          refine ⟨by unfold dg; rw [hy, hz, if_neg (by simpa using hyz)], (k1a2 _ rfl ‹_›)⟩
      intro C D3 s6 S6
      clear S5 S7
      intro s7 S7
      with_reducible refine r_list_lit ?_
      with_reducible refine wpAny_items_nil ?_
      with_reducible refine lit_intro szA ‹_› (by with_reducible exact .nil) fun _ _ _ => ?_
      with_reducible refine r_eq_nil ‹_› ‹_› me1 me0 ?_
      with_reducible refine wpAny_truthy_bool ?_
      rw [show (es.filterMap (dg (rowAt sz i))).isEmpty = dok es (rowAt sz i) from rfl]
      have hdl := dueTo_len (es := es) (sz := sz) (n := i)
      by_cases hk : dok es (rowAt sz i) = true
      · rw [if_pos hk]
        with_reducible refine execs_oneB ?_
        with_reducible refine r_expr ‹_› ?_ rfl
        with_reducible refine r_method rfl rfl rfl rfl ?_
        with_reducible refine r_local_val ‹_› ‹_› me22 me6 me0 ?_
        with_reducible refine mList PySem.F.slot_list_append PySem.F.type_list_append ‹_› me5 ?_
        with_reducible refine items_one ?_ rfl
        with_reducible refine r_cell_str ‹_› ‹_› me6 me9 fun _ => ?_
        with_reducible refine r_lappend_str ‹_› up5 szA fun _ _ => ?_
        with_reducible refine And.intro rfl ?_
        with_reducible refine Hb.go ‹_› ?_
        rename_i S8
        rw [dueTo_succ, if_pos hk]
        refine k1a2 _ (k2a1 (some (.str (dS (rowAt sz i)))) (some (.int (0 + (i : Int)))) rfl) ?_
        simp only [List.map_append, List.map_cons, List.map_nil]
        exact St.wk S8 (.pick rm4 (.pick rm4 (.pick rm4 (.pick rm4 (.pick rm4 (.pick rm4 (.pick rm4 (.pick rm4 (.drop (.drop (.drop (.drop .refl))))))))))))
      · rw [if_neg hk]
        with_reducible refine wpAny_execs_nil ?_
        with_reducible refine Hb.go ‹_› ?_
        rename_i S8
        rw [dueTo_succ, if_neg hk, List.append_nil]
        refine k1a2 _ (k2a1 (some (.str (dS (rowAt sz i)))) (some (.int (0 + (i : Int)))) rfl) ?_
        exact St.wk S8 (.pick rm4 (.pick rm4 (.pick rm4 (.pick rm4 (.pick rm4 (.pick rm4 (.pick rm4 (.pick rm4 (.drop (.drop (.drop (.drop .refl))))))))))))
    · rintro σ' s7 or4
      refine x2a1 or4 fun o7 o9 qz612 => ?_; clear or4; subst qz612
      rintro S7 N
      with_reducible refine wpAny_execs_nil ?_
      with_reducible refine And.intro rfl ?_
      exact k2a1 _ _ S7
  · rintro r s7 or5
    refine x0a2 or5 fun qz710 oz71 => ?_; clear or5; subst qz710; refine x2a1 oz71 fun o7 o9 S7 => ?_; clear oz71
    clear S6 S5 S9 S
    with_reducible refine Hb.go ‹_› ?_
    with_reducible refine And.intro rfl ?_
    exact h D o7 o9 _ S7
end
end
section
open Float64
section
variable {B : Base} {σ σ' : Led} {s : Shared} {prog : Program} {A : Around} {E : Value → Shared → Prop} {env : Env} {k : Nat} {c1 c2 c3 c4 c5 c6 c7 c8 c9 c10 c11 c12 c13 : Addr}
theorem segM_walk {cnt : Nat} {Rd Dd : Addr} {rows : List (List Nat)} {ρ : Led} {J : Shared → Prop} (hE : EnvOk env lawLn (lawCs c1 c2 c3 c4 c5 c6 c7 c8 c9 c10 c11 c12 c13) lawGn) (hA : Ok A (k + 5))
    (S : St B ((Dd, .list (rows.map fun r => MV.str (dS r))) :: (Rd, .list (rows.map fun r => MV.str (dS r))) :: (env.locals, .ns [("due", some (.ref Dd)), ("rows", some (.ref Rd)), ("count", some (.int cnt))]) :: (c10, .cell none) :: ρ) s)
    (h : ∀ (Cd Gd Kd : Addr) (s' : Shared), St B ((env.locals, .ns [("rows", some (.ref Rd)), ("count", some (.int cnt)), ("choices", some (.ref Cd)), ("rings", some (.ref Gd))]) :: (c10, .cell (some (.ref Kd))) :: (Cd, .list []) :: (Gd, .list []) :: (Kd, .list []) :: (Rd, .list (rows.map fun r => MV.str (dS r))) :: ρ) s' → J s') :
    wpAny (model prog B.w) A (execs ((lawBody.drop 25).take 4) env) (fun f s' => f = .next ∧ J s') E s := by
  show wpAny _ _ (execs [_, _, _, _] _) _ _ _
  have e1 : rows.map (fun r => MV.str (dS r)) = (rows.map dS).map MV.str := by rw [List.map_map]; rfl
  rw [e1] at S h
  with_reducible refine wpAny_execs_cons ?_
  with_reducible refine wpAny_If ?_
  with_reducible refine wpAny_isTrue_Compare1 ?_
  with_reducible refine r_local_val ‹_› ‹_› me20 me2 me1 ?_
  with_reducible refine r_local_val ‹_› ‹_› me22 me2 me0 ?_
  refine r_ne_strs (xs := rows.map dS) (ys := rows.map dS) ‹_› hA me1 me0 ?_
  rw [show (rows.map dS != rows.map dS) = false by simp]
  with_reducible refine wpAny_truthy_bool ?_
  with_reducible refine go_false ?_
  with_reducible refine wpAny_execs_nil ?_
  with_reducible refine wpAny_execs_cons ?_
  with_reducible refine wpAny_Assign_Name ?_ rfl
  with_reducible refine r_list_lit ?_
  with_reducible refine wpAny_items_nil ?_
  with_reducible refine lit_intro szA ‹_› (by with_reducible exact .nil) fun _ _ _ => ?_
  with_reducible refine r_storeN_val ‹_› ‹_› me23 up3 (nw (by kernel_rfl!)) fun _ _ => ?_
  with_reducible refine wpAny_execs_cons ?_
  with_reducible refine wpAny_Assign_Name ?_ rfl
  with_reducible refine r_list_lit ?_
  with_reducible refine wpAny_items_nil ?_
  with_reducible refine lit_intro szA ‹_› (by with_reducible exact .nil) fun _ _ _ => ?_
  with_reducible refine r_storeN_val ‹_› ‹_› me24 up4 (nw (by kernel_rfl!)) fun _ _ => ?_
  with_reducible refine execs_one ?_
  with_reducible refine wpAny_Assign_Name ?_ rfl
  with_reducible refine r_list_lit ?_
  with_reducible refine wpAny_items_nil ?_
  with_reducible refine lit_intro szA ‹_› (by with_reducible exact .nil) fun _ _ _ => ?_
  with_reducible refine r_storeC_val ‹_› ‹_› me3 up6 fun _ _ => ?_
  with_reducible refine And.intro rfl ?_
  rename_i s9 S9
  exact h _ _ _ _ (St.wk S9 (.ns rm5 (fc (.inr me3) (fc (.inr me4) (fc (.inr me1) (fc (.inr me0) fn)))) (nd (by kernel_rfl!)) (.pick rm5 (.pick rm2 (.pick rm1 (.pick rm0 (.pick rm1 (.drop .refl))))))))
end
noncomputable def bitsOf (cnt m : Nat) : List Nat := (List.range cnt).filter fun k => m / 2 ^ k % 2 == 1
noncomputable def flagsOf (pl bs : List Nat) : Str := pretty ((bs.map fun k => 2 ^ (pl[k]?.getD 0)).sum)
noncomputable def heldOf (F : Str) : Str := Str.ofString "," ++ Txt.replace F (Str.ofString ", ") (Str.ofString ",,") ++ Str.ofString ","
noncomputable def cutAt (F : Str) : Nat := (Builtin.Str.lastOccurrence F (Str.ofString ", ") 0 F.length).getD 0
noncomputable def cutOf (F : Str) : Str := Txt.slice F none (some (cutAt F : Int))
noncomputable def touched (es : List (Nat × Nat)) (bs : List Nat) : List Nat := bs.map (fun k => (es[k]?.getD (0, 0)).1) ++ bs.map (fun k => (es[k]?.getD (0, 0)).2)
noncomputable def oddOf (es : List (Nat × Nat)) (bs : List Nat) : List Nat := (List.range 4).filter fun s => (touched es bs).count s % 2 == 1
noncomputable def ringStep (F : Nat → Str) (es : List (Nat × Nat)) (cnt : Nat) (R : List Nat) (m : Nat) : List Nat :=
  if bitsOf cnt m ≠ [] ∧ oddOf es (bitsOf cnt m) = [] ∧ (R.any fun r => ellM (pattern (F r)) (heldOf (F m))) = false then R ++ [m] else R
noncomputable def ringsTo (F : Nat → Str) (es : List (Nat × Nat)) (cnt n : Nat) : List Nat := (List.range n).foldl (ringStep F es cnt) []
theorem ringsTo_succ {F es cnt n} : ringsTo F es cnt (n + 1) = ringStep F es cnt (ringsTo F es cnt n) n := by
  unfold ringsTo; rw [List.range_succ, List.foldl_append]; rfl
theorem ringStep_len {F es cnt R m} : (ringStep F es cnt R m).length ≤ R.length + 1 := by
  unfold ringStep; split <;> simp
theorem ringsTo_len {F es cnt} : ∀ n, (ringsTo F es cnt n).length ≤ n
  | 0 => Nat.le_refl _
  | n + 1 => by rw [ringsTo_succ]; exact Nat.le_trans ringStep_len (Nat.succ_le_succ (ringsTo_len n))
theorem filterMap_if {α β : Type} (p : α → Bool) (f : α → β) : ∀ l : List α, l.filterMap (fun x => if p x = true then some (f x) else none) = (l.filter p).map f
  | [] => rfl
  | a :: l => by
    rw [List.filterMap_cons, List.filter_cons]
    by_cases h : p a = true
    · simp only [h, if_true, List.map_cons, filterMap_if p f l]
    · simp only [h, filterMap_if p f l]; rfl
noncomputable def chMV (F : Nat → Str) (cnt m : Nat) : MV := .tup [.int ((bitsOf cnt m).length : Nat), .str (heldOf (F m))]
end
section
open Float64
/-- what the walk of the masks needs to know of the words -/
structure WordsOk (pl : List Nat) (es : List (Nat × Nat)) (cnt : Nat) (F : Nat → Str) : Prop where
  F_eq : ∀ m, F m = flagsOf pl (bitsOf cnt m)
  len : ∀ m, (F m).length ≤ 150
  once : ∀ m, m < 2 ^ cnt → (bitsOf cnt m).length = 1 → onceM (heldOf (F m)) = true
  round : ∀ m, m < 2 ^ cnt → bitsOf cnt m ≠ [] → oddOf es (bitsOf cnt m) = [] → roundM ((Txt.split (F m) (Str.ofString ", ")).map fun w => Str.ofString "," ++ w ++ Str.ofString ",") = true
  split : ∀ m, (Txt.split (F m) (Str.ofString ", ")).length ≤ 10 ∧ ((Txt.split (F m) (Str.ofString ", ")).map (·.length)).sum ≤ 400
  last : ∀ m, m < 2 ^ cnt → bitsOf cnt m ≠ [] → oddOf es (bitsOf cnt m) = [] → Builtin.Str.lastOccurrence (F m) (Str.ofString ", ") 0 (F m).length = some (cutAt (F m))
theorem cut_len (F : Str) : (cutOf F).length ≤ F.length := Txt.slice_le _ _ _
theorem pattern_len (F : Str) : (pattern F).length ≤ F.length * 6 + 20 := by
  have h := replace_length F (Str.ofString ", ") (Str.ofString ",...,")
  have e1 : (Str.ofString ",...,").length = 5 := by decide +kernel
  have e2 : (Str.ofString "...,").length = 4 := by decide +kernel
  have e3 : (Str.ofString ",...").length = 4 := by decide +kernel
  unfold pattern
  rw [Str.length_append, Str.length_append, e2, e3]
  rw [e1] at h
  lia
theorem held_len (F : Str) : (heldOf F).length ≤ F.length * 3 + 4 := by
  have h := replace_length F (Str.ofString ", ") (Str.ofString ",,")
  have e1 : (Str.ofString ",,").length = 2 := by decide +kernel
  have e2 : (Str.ofString ",").length = 1 := by decide +kernel
  unfold heldOf
  rw [Str.length_append, Str.length_append, e2]
  rw [e1] at h
  lia
theorem bits_lt {cnt m : Nat} : ∀ b ∈ bitsOf cnt m, b < cnt := fun b hb => by simpa using (List.mem_filter.mp hb).1
theorem bits_len {cnt m : Nat} : (bitsOf cnt m).length ≤ cnt := Nat.le_trans (List.length_filter_le _ _) (by simp)
theorem sum_cast (l : List Nat) : ((l.map fun n : Nat => (n : Int)).sum : Int) = (l.sum : Nat) := by
  induction l with
  | nil => rfl
  | cons a l ih => rw [List.map_cons, List.sum_cons, List.sum_cons, ih]; simp
theorem sum_lt {f : Nat → Nat} {M : Nat} (hf : ∀ b, f b ≤ M) (l : List Nat) : (l.map f).sum ≤ l.length * M := by
  induction l with
  | nil => simp
  | cons a l ih =>
    have := hf a
    rw [List.map_cons, List.sum_cons, List.length_cons, Nat.add_mul]; lia
theorem pow2_i : ∀ i, i < 5 → (0 : Int) < 2 ^ i ∧ ((2 : Int) ^ i).natAbs < 2 ^ 64 := by decide
noncomputable def maskBody : List Stmt := match (lawBody.drop 29).head? with
  | some (.For _ _ b _ _) => b
  | _ => []
section
variable {B : Base} {σ σ' : Led} {s : Shared} {prog : Program} {A : Around} {E : Value → Shared → Prop} {env : Env} {k : Nat} {c1 c2 c3 c4 c5 c6 c7 c8 c9 c10 c11 c12 c13 : Addr}
noncomputable def nFr (env : Env) (Cd Gd Kd Rd Td Pd c1 c6 c10 c11 c12 : Addr) (F : Nat → Str) (cnt : Nat) (pl : List Nat) (es : List (Nat × Nat)) (rows : List (List Nat)) (R : List Nat) (i : Nat) (L : List (Str × Option MV)) (o11 o12 : Option MV) : Led :=
  [(Cd, .list ((List.range i).map (chMV F cnt))), (Gd, .list ((R.map fun m => pattern (F m)).map MV.str)), (Kd, .list ((R.map fun m => pattern (cutOf (F m))).map MV.str)), (Rd, .list (rows.map fun r => MV.str (dS r))),
   (env.locals, .ns (L ++ ([("rows", some (.ref Rd)), ("count", some (.int cnt)), ("choices", some (.ref Cd)), ("rings", some (.ref Gd))] : List (Str × Option MV)))), (c1, .cell (some (.ref Pd))), (Pd, .list (pl.map nMV)), (c6, .cell (some (.ref Td))), (Td, .list (es.map tieMV)), (c10, .cell (some (.ref Kd))), (c11, .cell o11), (c12, .cell o12)]
theorem segN1_walk {cnt : Nat} {Cd Gd Kd Rd Td Pd : Addr} {pl : List Nat} {es : List (Nat × Nat)} {rows : List (List Nat)} {F : Nat → Str} {R : List Nat} {i : Nat} {o12 : Option MV} {ρ : Led} {J : Shared → Prop} (hE : EnvOk env lawLn (lawCs c1 c2 c3 c4 c5 c6 c7 c8 c9 c10 c11 c12 c13) lawGn) (hA : Ok A (k + 5))
    (hcnt : cnt = 4 ∨ cnt = 5) (hpl : pl.length = cnt) (hpl2 : ∀ p ∈ pl, p < 20) (hW : WordsOk pl es cnt F)
    (S7 : St B (nFr env Cd Gd Kd Rd Td Pd c1 c6 c10 c11 c12 F cnt pl es rows R i [] (some (.int i)) o12 ++ ρ) s)
    (h : ∀ (D : Addr) (s' : Shared), St B ((D, .list ((bitsOf cnt i).map nMV)) :: (nFr env Cd Gd Kd Rd Td Pd c1 c6 c10 c11 c12 F cnt pl es rows R i [("held", some (.str (heldOf (F i)))), ("flags", some (.str (F i))), ("chosen", some (.ref D))] (some (.int i)) o12 ++ ρ)) s' → J s') :
    wpAny (model prog B.w) A (execs (maskBody.take 3) env) (fun f s' => f = .next ∧ J s') E s := by
  show wpAny _ _ (execs [_, _, _] _) _ _ _
  simp only [nFr, List.cons_append, List.nil_append] at S7 h
  with_reducible refine execs_consH fun Jz hJz => ?_
  refine' r_compA (ln' := ["k"]) (cs' := [("mask", c11)]) (fv := ["mask"]) (gn' := []) hE ?q_c4 rfl ?q_c5 ?q_c1 rfl ?q_c2 ?q_c3 ?_
  case q_c1 => exact ⟨scO rfl (by decide +kernel), by decide +kernel, by decide +kernel⟩
  case q_c2 => exact fc me2 fn
  case q_c3 => intro _; rfl
  case q_c4 => exact me25
  case q_c5 => decide +kernel
  with_reducible refine r_callB rfl ?_
  with_reducible refine r_global ‹_› ‹_› me1 (by exact gv_range _) ?_
  with_reducible refine nr_type ?_
  with_reducible refine items_one ?_ rfl
  with_reducible refine r_local_int ‹_› ‹_› me2 me4 me1 fun _ => ?_
  with_reducible refine r_range1 ‹_› fun _ _ _ _ _ _ _ => ?_
  rename_i hR2 S8
  refine i_range (n := cnt) S8 hR2 (by simp) (by lia) (by lia) fun I2 s9 S9 => ?_
  refine CompPack.of_range (fun k => if (i / 2 ^ k % 2 == 1) = true then some (nMV k) else none) S9 hA.handled (by (unfold sizeLine; lia)) ?_ ?_
  · rintro C D' cenv hE' hc ii x acc s6 v hx hx2 S6 or1
    refine x1a1 or1 fun ta qz011 => ?_; clear or1; subst qz011
    rintro N2
    simp only [noneNs, List.map_cons, List.map_nil] at S6
    clear S9 S8 S7
    with_reducible refine wpAny_assign_Name ?_
    with_reducible refine r_store_int ‹_› ‹_› me0 up0 un0 fun _ _ => ?_
    with_reducible refine wpAny_tests_one ?_
    with_reducible refine wpAny_isTrue_Compare1 ?_
    with_reducible refine wpAny_BinOp ?_
    with_reducible refine wpAny_BinOp ?_
    with_reducible refine r_cell_int ‹_› ‹_› me0 me13 fun _ => ?_
    with_reducible refine wpAny_BinOp ?_
    with_reducible refine r_int ‹_› fun _ _ _ => ?_
    with_reducible refine r_local_int ‹_› ‹_› me0 me0 me0 fun _ => ?_
    refine r_pow (n := x) ‹_› (by simp) (by decide) (by lia) fun t11 s11 S11 => ?_
    refine r_fdiv ‹_› (pow2_i x (by lia)).1 (pow2_i x (by lia)).2 fun t12 s12 S12 => ?_
    with_reducible refine r_int ‹_› fun _ _ _ => ?_
    with_reducible refine r_mod ‹_› (by decide) fun _ _ _ => ?_
    with_reducible refine r_int ‹_› fun _ _ _ => ?_
    with_reducible refine PyProof.Rows.eq_int ?_
    with_reducible refine wpAny_truthy_bool ?_
    rw [show (i : Int) / 2 ^ x % 2 = ((i / 2 ^ x % 2 : Nat) : Int) by simp]
    by_cases hb : i / 2 ^ x % 2 = 1
    · refine ite_t (by simp [hb]) ?_
      with_reducible refine r_local_int ‹_› ‹_› me0 me0 me0 fun _ => ?_
      refine ⟨nMV x, [("k", some (.int (0 + (x : Int))))], by rw [if_pos (by simpa using hb)], ⟨_, by rw [Int.zero_add]⟩, rfl, ?_⟩
      assumption
    · refine ite_f (show ¬ ((((i / 2 ^ x % 2 : Nat) : Int) == 1) = true) from fun e => hb (Int.ofNat_inj.mp (eq_of_beq e))) ?_
      refine ⟨by rw [if_neg (by simpa using hb)], (k1a2 _ rfl ‹_›)⟩
  intro C D2 s10 S10
  rw [filterMap_if] at S10
  clear S9 S8 S7
  with_reducible refine r_storeN_val ‹_› ‹_› me25 up6 (nw (by kernel_rfl!)) fun _ _ => ?_
  rename_i S11
  refine k2a2 _ _ S11 (fun s12 S12 => ?_)
  rw [show ((List.range cnt).filter fun k => i / 2 ^ k % 2 == 1) = bitsOf cnt i from rfl] at S12
  clear S11 S10
  have hbl := bits_len (cnt := cnt) (m := i)
  have hblt := bits_lt (cnt := cnt) (m := i)
  generalize hbs : bitsOf cnt i = bs at *
  with_reducible refine execs_consB ?_
  with_reducible refine wpAny_Assign_Name ?_ rfl
  with_reducible refine r_callF ‹_› ‹_› me10 (gv_pretty _) rfl rfl rfl (by decide) ?_
  with_reducible refine items_one ?_ rfl
  with_reducible refine r_callB rfl ?_
  with_reducible refine r_global ‹_› ‹_› me11 (by exact gv_sum _) ?_
  with_reducible refine nr_builtin ?_
  with_reducible refine items_one ?_ rfl
  refine' r_compE (ln' := ["k"]) (cs' := [("places", c1)]) (fv := ["places"]) (gn' := []) hE ?q_c1 rfl ?q_c2 ?q_c3 ?_
  case q_c1 => exact ⟨scO rfl (by decide +kernel), by decide +kernel, by decide +kernel⟩
  case q_c2 => exact fc me12 fn
  case q_c3 => intro _; rfl
  with_reducible refine r_local_val ‹_› ‹_› me25 me5 me0 ?_
  with_reducible refine i_list ‹_› me0 fun _ _ _ => ?_
  rename_i I3 s13 S13
  refine CompPack.of_list (items := bs.map nMV) bs nMV (fun k => some (MV.int ((2 ^ (pl[k]?.getD 0) : Nat) : Int))) S13 me0 rfl hA.handled (by (unfold sizeLine; lia)) ?_ ?_
  · rintro C D' cenv hE' hc ii x acc s6 v hx S6 or2
    refine x1a1 or2 fun ta qz111 => ?_; clear or2; subst qz111
    rintro N2
    have hxb := hblt x (List.mem_of_getElem? hx)
    refine x1a1 (⟨_, List.getElem?_eq_getElem (by lia)⟩ : ∃ p, pl[x]? = some p) fun p hp => ?_
    have hp20 := hpl2 p (List.mem_of_getElem? hp)
    simp only [noneNs, List.map_cons, List.map_nil] at S6
    clear S13 S12
    with_reducible refine wpAny_assign_Name ?_
    with_reducible refine r_store_int ‹_› ‹_› me0 up0 un0 fun _ _ => ?_
    with_reducible refine wpAny_tests_nil ?_
    with_reducible refine go_true ?_
    with_reducible refine wpAny_BinOp ?_
    with_reducible refine r_int ‹_› fun _ _ _ => ?_
    with_reducible refine r_subscr ?_
    with_reducible refine r_cell_val ‹_› ‹_› me0 me9 ?_
    with_reducible refine r_local_int ‹_› ‹_› me0 me0 me0 fun _ => ?_
    with_reducible refine g_list ‹_› me10 ?_
    refine r_item_list (i := x) (mv := nMV p) ‹_› me10 rfl (by rw [List.getElem?_map, hp]; rfl) (by simp; (unfold sizeLine; lia)) ?_
    rintro _ or3
    refine x1a1 or3 fun tw qz211 => ?_; clear or3; subst qz211
    refine r_pow (n := p) ‹_› rfl (by decide) (leB ‹_› rfl) fun t14 s14 S14 => ?_
    refine ⟨_, [("k", some (.int x))], rfl, ⟨t14, by rw [hp]; simp⟩, rfl, S14⟩
  intro C D3 s14 S14 s15 S15
  rw [filterMap_some, show bs.map (fun k => MV.int ((2 ^ (pl[k]?.getD 0) : Nat) : Int)) = ((bs.map fun k => 2 ^ (pl[k]?.getD 0)).map fun n : Nat => (n : Int)).map MV.int by rw [List.map_map, List.map_map]; rfl] at S15
  clear S14 S13 S12
  have hpd : ∀ b : Nat, pl[b]?.getD 0 ≤ 20 := by
    intro b
    cases hb : pl[b]? with
    | none => simp
    | some p => have := hpl2 p (List.mem_of_getElem? hb); simp; lia
  have hpw : ∀ b : Nat, 2 ^ (pl[b]?.getD 0) ≤ 1048576 := fun b => Nat.le_trans (Nat.pow_le_pow_right (by decide) (hpd b)) (by decide)
  have hsm : (bs.map fun k => 2 ^ (pl[k]?.getD 0)).sum < 2 ^ 32 := by
    have := sum_lt hpw bs
    have h5 : bs.length ≤ 5 := by lia
    have := Nat.mul_le_mul_right 1048576 h5
    lia
  refine r_sum (xs := (bs.map fun k => 2 ^ (pl[k]?.getD 0)).map fun n : Nat => (n : Int)) ‹_› hA.handled me0 (by simp; lia) ?_ fun t16 s16 S16 => ?_
  · intro x hx
    refine x1a2 (List.mem_map.mp hx) fun n hn qz412 => ?_; subst qz412
    refine x1a2 (List.mem_map.mp hn) fun b _ qz512 => ?_; subst qz512
    have := hpw b
    rw [Int.natAbs_natCast]; lia
  rw [sum_cast]
  clear S15
  (with_reducible refine And.intro ⟨_, by assumption⟩ ?_; with_reducible show wpAny _ _ (call (Value.ref _) _) _ _ _)
  refine pretty_spec ‹_› hA hsm fun t17 s17 S17 => ?_
  have hFi : pretty (bs.map fun k => 2 ^ (pl[k]?.getD 0)).sum = F i := by rw [hW.F_eq, hbs]; rfl
  rw [hFi]
  have hFl := hW.len i
  have hrep := replace_length (F i) (Str.ofString ", ") (Str.ofString ",,")
  have hc2 : (Str.ofString ",,").length = 2 := by decide +kernel
  have hc1 : (Str.ofString ",").length = 1 := by decide +kernel
  have hhl := held_len (F i)
  rw [hc2] at hrep
  clear S16
  with_reducible refine r_storeN_str ‹_› ‹_› me26 up6 (nw (by kernel_rfl!)) fun _ _ => ?_
  with_reducible refine execs_oneB ?_
  with_reducible refine wpAny_Assign_Name ?_ rfl
  with_reducible refine wpAny_BinOp ?_
  with_reducible refine wpAny_BinOp ?_
  with_reducible refine r_str ‹_› fun _ _ _ => ?_
  with_reducible refine r_replace rfl rfl (by decide +kernel) ?_
  with_reducible refine r_local_str ‹_› ‹_› me26 me6 me0 fun _ => ?_
  refine k3a4 _ _ _ rfl ‹_› (by rw [hc2]; lia) (fun t18 s18 S18 => ?_)
  clear S17
  with_reducible refine r_sadd ‹_› (by unfold sizeLine; lia) fun _ _ _ => ?_
  with_reducible refine r_str ‹_› fun _ _ _ => ?_
  with_reducible refine r_sadd ‹_› szA fun _ _ _ => ?_
  with_reducible refine r_storeN_str ‹_› ‹_› me27 up6 (nw (by kernel_rfl!)) fun _ _ => ?_
  with_reducible refine Hb.go ‹_› ?_
  with_reducible refine And.intro rfl ?_
  rename_i S19
  refine h D2 _ (St.wk S19 ?_)
  unfold heldOf
  exact .pick rm1 (.pick rm1 (.pick rm1 (.pick rm1 (.pick rm1 (.pick rm1 (.pick rm1 (.pick rm1 (.pick rm1 (.pick rm1 (.pick rm1 (.pick rm1 (.pick rm1 (.drop .refl)))))))))))))
end
end
section
open Float64
section
variable {B : Base} {σ σ' : Led} {s : Shared} {prog : Program} {A : Around} {E : Value → Shared → Prop} {env : Env} {k : Nat} {c1 c2 c3 c4 c5 c6 c7 c8 c9 c10 c11 c12 c13 : Addr}
theorem segN2_walk {cnt : Nat} {D Cd Gd Kd Rd Td Pd : Addr} {pl : List Nat} {es : List (Nat × Nat)} {rows : List (List Nat)} {F : Nat → Str} {R : List Nat} {i : Nat} {o12 : Option MV} {ρ : Led} {J : Shared → Prop} (hE : EnvOk env lawLn (lawCs c1 c2 c3 c4 c5 c6 c7 c8 c9 c10 c11 c12 c13) lawGn) (hA : Ok A (k + 5))
    (hcnt : cnt = 4 ∨ cnt = 5) (hW : WordsOk pl es cnt F) (hi : i < 2 ^ cnt)
    (S : St B ((D, .list ((bitsOf cnt i).map nMV)) :: (nFr env Cd Gd Kd Rd Td Pd c1 c6 c10 c11 c12 F cnt pl es rows R i [("held", some (.str (heldOf (F i)))), ("flags", some (.str (F i))), ("chosen", some (.ref D))] (some (.int i)) o12 ++ ρ)) s)
    (h : ∀ (s' : Shared), St B ((D, .list ((bitsOf cnt i).map nMV)) :: (nFr env Cd Gd Kd Rd Td Pd c1 c6 c10 c11 c12 F cnt pl es rows R (i + 1) [("held", some (.str (heldOf (F i)))), ("flags", some (.str (F i))), ("chosen", some (.ref D))] (some (.int i)) o12 ++ ρ)) s' → J s') :
    wpAny (model prog B.w) A (execs ((maskBody.drop 3).take 2) env) (fun f s' => f = .next ∧ J s') E s := by
  show wpAny _ _ (execs [_, _] _) _ _ _
  simp only [nFr, List.cons_append, List.nil_append] at S h
  have hp32 : 2 ^ cnt ≤ 32 := by rcases hcnt with rfl | rfl <;> decide
  have hbl := bits_len (cnt := cnt) (m := i)
  have hFl := hW.len i
  have hhl := held_len (F i)
  have honce := hW.once i hi
  have hch : chMV F cnt i = .tup [.int ((bitsOf cnt i).length : Nat), .str (heldOf (F i))] := rfl
  rw [List.range_succ, List.map_append, List.map_cons, List.map_nil, hch] at h
  generalize bitsOf cnt i = bs at *
  generalize heldOf (F i) = H at *
  with_reducible refine wpAny_execs_cons ?_
  with_reducible refine r_expr ‹_› ?_ rfl
  with_reducible refine r_method rfl rfl rfl rfl ?_
  with_reducible refine r_local_val ‹_› ‹_› me23 me5 me5 ?_
  with_reducible refine mList PySem.F.slot_list_append PySem.F.type_list_append ‹_› me1 ?_
  with_reducible refine items_one ?_ rfl
  with_reducible refine r_tuple_lit ?_
  with_reducible refine items_two ?_ rfl rfl
  with_reducible refine r_callB rfl ?_
  with_reducible refine r_global ‹_› ‹_› me0 (by exact gv_len _) ?_
  with_reducible refine nr_builtin ?_
  with_reducible refine items_one ?_ rfl
  with_reducible refine r_local_val ‹_› ‹_› me25 me5 me2 ?_
  with_reducible refine r_len_list ‹_› me0 szA fun _ _ _ => ?_
  with_reducible refine r_local_str ‹_› ‹_› me27 me5 me0 fun _ => ?_
  with_reducible refine lit_intro szA ‹_› (by with_reducible exact .int (.str .nil)) fun _ _ _ => ?_
  rw [List.length_map] at *
  refine' r_lappend_tup ?q_S ?q_m ?q_u ?q_z ?_
  case q_S => assumption
  case q_m => exact me0
  case q_u => exact up2
  case q_z => simp only [List.length_map, List.length_range]; unfold sizeLine; lia
  intro s2 S2
  with_reducible refine And.intro rfl ?_
  with_reducible refine execs_one ?_
  with_reducible refine wpAny_If ?_
  with_reducible refine PyProof.Rows.isTrue_and ?_
  with_reducible refine wpAny_isTrue_Compare1 ?_
  with_reducible refine r_callB rfl ?_
  with_reducible refine r_global ‹_› ‹_› me0 (by exact gv_len _) ?_
  with_reducible refine nr_builtin ?_
  with_reducible refine items_one ?_ rfl
  with_reducible refine r_local_val ‹_› ‹_› me25 me6 me2 ?_
  with_reducible refine r_len_list ‹_› me1 szA fun _ _ _ => ?_
  with_reducible refine r_int ‹_› fun _ _ _ => ?_
  with_reducible refine PyProof.Rows.eq_int ?_
  with_reducible refine wpAny_truthy_bool ?_
  rw [List.length_map] at *
  by_cases h1 : bs.length = 1
  · rw [if_pos (by simp [h1])]
    with_reducible refine PyProof.Rows.isTrue_and ?_
    with_reducible refine PyProof.Rows.isTrue_not ?_
    with_reducible refine wpAny_isTrue_value ?_ rfl
    with_reducible refine r_callF ‹_› ‹_› me12 (gv_once _) rfl rfl rfl (by decide) ?_
    with_reducible refine items_one ?_ rfl
    with_reducible refine r_local_str ‹_› ‹_› me27 me6 me0 fun _ => ?_
    (with_reducible refine And.intro ⟨_, by assumption⟩ ?_; with_reducible show wpAny _ _ (call (Value.ref _) _) _ _ _)
    refine once_spec ‹_› hA (by lia) fun s3 S3 => ?_
    rw [honce h1]
    with_reducible refine wpAny_truthy_bool ?_
    rw [if_neg (by decide)]
    with_reducible refine go_false ?_
    with_reducible refine wpAny_execs_nil ?_
    with_reducible refine And.intro rfl ?_
    exact h _ (St.wk S3 (.pick rm1 (.pick rm1 (.pick rm1 (.pick rm1 (.pick rm1 (.pick rm1 (.pick rm1 (.pick rm1 (.pick rm1 (.pick rm1 (.pick rm1 (.pick rm1 (.pick rm1 (.drop .refl)))))))))))))))
  · rw [if_neg (by simp; lia)]
    with_reducible refine go_false ?_
    with_reducible refine wpAny_execs_nil ?_
    with_reducible refine And.intro rfl ?_
    rename_i S3
    exact h _ (St.wk S3 (.pick rm1 (.pick rm1 (.pick rm1 (.pick rm1 (.pick rm1 (.pick rm1 (.pick rm1 (.pick rm1 (.pick rm1 (.pick rm1 (.pick rm1 (.pick rm1 (.pick rm1 (.drop .refl)))))))))))))))
end
end
section
open Float64
theorem count_cast (l : List Nat) (s : Nat) : (l.map fun n : Nat => (n : Int)).count (s : Int) = l.count s := by
  induction l with
  | nil => rfl
  | cons a l ih =>
    rw [List.map_cons, List.count_cons, List.count_cons, ih]
    congr 1
    by_cases h : a = s
    · subst h; simp
    · simp only [beq_eq_false_iff_ne.mpr h, beq_eq_false_iff_ne.mpr (show (a : Int) ≠ s from fun e => h (Int.ofNat_inj.mp e))]
section
variable {B : Base} {σ σ' : Led} {s : Shared} {prog : Program} {A : Around} {E : Value → Shared → Prop} {env : Env} {k : Nat} {c1 c2 c3 c4 c5 c6 c7 c8 c9 c10 c11 c12 c13 : Addr}
theorem r_intH {i k pos} {Q : Value → Shared → Prop} (S : St B σ s) (h : ∀ t s', s'.heap = s.heap → St B σ s' → Q (.int i t) s') : wpAny (model prog B.w) A (eval (.Constant (.int i) k pos) env) Q E s := wpAny_Constant_int (h _ _ rfl (S.tok _))
theorem segN3_walk {cnt : Nat} {D Cd Gd Kd Rd Td Pd : Addr} {pl : List Nat} {es : List (Nat × Nat)} {rows : List (List Nat)} {F : Nat → Str} {R : List Nat} {i : Nat} {o12 : Option MV} {ρ : Led} {J : Shared → Prop} (hE : EnvOk env lawLn (lawCs c1 c2 c3 c4 c5 c6 c7 c8 c9 c10 c11 c12 c13) lawGn) (hA : Ok A (k + 5))
    (hcnt : cnt = 4 ∨ cnt = 5) (hes : es.length = cnt)
    (S : St B ((D, .list ((bitsOf cnt i).map nMV)) :: (nFr env Cd Gd Kd Rd Td Pd c1 c6 c10 c11 c12 F cnt pl es rows R (i + 1) [("held", some (.str (heldOf (F i)))), ("flags", some (.str (F i))), ("chosen", some (.ref D))] (some (.int i)) o12 ++ ρ)) s)
    (h : ∀ (O : Addr) (o12 : Option MV) (s' : Shared), St B ((D, .list ((bitsOf cnt i).map nMV)) :: (O, .list ((oddOf es (bitsOf cnt i)).map nMV)) :: (nFr env Cd Gd Kd Rd Td Pd c1 c6 c10 c11 c12 F cnt pl es rows R (i + 1) [("odd", some (.ref O)), ("held", some (.str (heldOf (F i)))), ("flags", some (.str (F i))), ("chosen", some (.ref D))] (some (.int i)) o12 ++ ρ)) s' → J s') :
    wpAny (model prog B.w) A (execs ((maskBody.drop 5).take 2) env) (fun f s' => f = .next ∧ J s') E s := by
  show wpAny _ _ (execs [_, _] _) _ _ _
  simp only [nFr, List.cons_append, List.nil_append] at S h
  have hbl := bits_len (cnt := cnt) (m := i)
  have hblt := bits_lt (cnt := cnt) (m := i)
  generalize bitsOf cnt i = bs at *
  generalize heldOf (F i) = H at *
  generalize F i = Fi at *
  with_reducible refine wpAny_execs_cons ?_
  with_reducible refine wpAny_Assign_Name ?_ rfl
  with_reducible refine wpAny_BinOp ?_
  refine' r_compE (ln' := ["k"]) (cs' := [("ties", c6)]) (fv := ["ties"]) (gn' := []) hE ?q_c1 rfl ?q_c2 ?q_c3 ?_
  case q_c1 => exact ⟨scO rfl (by decide +kernel), by decide +kernel, by decide +kernel⟩
  case q_c2 => exact fc me7 fn
  case q_c3 => intro _; rfl
  with_reducible refine r_local_val ‹_› ‹_› me25 me5 me2 ?_
  with_reducible refine i_list ‹_› me0 fun _ _ _ => ?_
  rename_i I3 s13 S13
  refine CompPack.of_list (items := bs.map nMV) bs nMV (fun k => some (nMV (es[k]?.getD (0, 0)).1)) S13 me0 rfl hA.handled (by unfold sizeLine; lia) ?_ ?_
  · rintro C D' cenv hE' hc ii x acc s6 v hx S6 or1
    refine x1a1 or1 fun ta qz011 => ?_; clear or1; subst qz011
    rintro N2
    have hxb := hblt x (List.mem_of_getElem? hx)
    refine x1a1 (⟨_, List.getElem?_eq_getElem (by lia)⟩ : ∃ e, es[x]? = some e) fun e he => ?_
    simp only [noneNs, List.map_cons, List.map_nil] at S6
    clear S13 S
    with_reducible refine wpAny_assign_Name ?_
    with_reducible refine r_store_int ‹_› ‹_› me0 up0 un0 fun _ _ => ?_
    with_reducible refine wpAny_tests_nil ?_
    with_reducible refine go_true ?_
    with_reducible refine r_subscr ?_
    with_reducible refine r_subscr ?_
    with_reducible refine r_cell_val ‹_› ‹_› me0 me11 ?_
    with_reducible refine r_local_int ‹_› ‹_› me0 me0 me0 fun _ => ?_
    with_reducible refine g_list ‹_› me12 ?_
    refine r_item_list (i := x) (mv := tieMV e) ‹_› me12 rfl (by rw [List.getElem?_map, he]; rfl) (by simp; unfold sizeLine; lia) ?_
    rintro _ or2
    refine x1a2 or2 fun tw qz111 ht => ?_; clear or2; subst qz111
    refine r_intH ‹_› fun tz sz hz Sz => ?_
    rw [← hz] at ht
    refine g_tup ht ?_
    refine r_item_tup ht (j := 0) rfl rfl (by decide) ?_
    rintro _ or3
    refine x1a1 or3 fun tu qz211 => ?_; clear or3; subst qz211
    refine ⟨_, [("k", some (.int x))], rfl, ⟨tu, by rw [he]; rfl⟩, rfl, ?_⟩
    assumption
  intro C D1 s14 S14 s15 S15
  rw [filterMap_some] at S15
  clear S14 S13 S
  skip
  refine' r_compE (ln' := ["k"]) (cs' := [("ties", c6)]) (fv := ["ties"]) (gn' := []) hE ?q_c1 rfl ?q_c2 ?q_c3 ?_
  case q_c1 => exact ⟨scO rfl (by decide +kernel), by decide +kernel, by decide +kernel⟩
  case q_c2 => exact fc me7 fn
  case q_c3 => intro _; rfl
  with_reducible refine r_local_val ‹_› ‹_› me25 me6 me2 ?_
  with_reducible refine i_list ‹_› me1 fun _ _ _ => ?_
  rename_i I4 s16 S16
  refine CompPack.of_list (items := bs.map nMV) bs nMV (fun k => some (nMV (es[k]?.getD (0, 0)).2)) S16 me1 rfl hA.handled (by unfold sizeLine; lia) ?_ ?_
  · rintro C D' cenv hE' hc ii x acc s6 v hx S6 or4
    refine x1a1 or4 fun ta qz311 => ?_; clear or4; subst qz311
    rintro N2
    have hxb := hblt x (List.mem_of_getElem? hx)
    refine x1a1 (⟨_, List.getElem?_eq_getElem (by lia)⟩ : ∃ e, es[x]? = some e) fun e he => ?_
    simp only [noneNs, List.map_cons, List.map_nil] at S6
    clear S16 S15
    with_reducible refine wpAny_assign_Name ?_
    with_reducible refine r_store_int ‹_› ‹_› me0 up0 un0 fun _ _ => ?_
    with_reducible refine wpAny_tests_nil ?_
    with_reducible refine go_true ?_
    with_reducible refine r_subscr ?_
    with_reducible refine r_subscr ?_
    with_reducible refine r_cell_val ‹_› ‹_› me0 me12 ?_
    with_reducible refine r_local_int ‹_› ‹_› me0 me0 me0 fun _ => ?_
    with_reducible refine g_list ‹_› me13 ?_
    refine r_item_list (i := x) (mv := tieMV e) ‹_› me13 rfl (by rw [List.getElem?_map, he]; rfl) (by simp; unfold sizeLine; lia) ?_
    rintro _ or5
    refine x1a2 or5 fun tw qz411 ht => ?_; clear or5; subst qz411
    refine r_intH ‹_› fun tz sz hz Sz => ?_
    rw [← hz] at ht
    refine g_tup ht ?_
    refine r_item_tup ht (j := 1) rfl rfl (by decide) ?_
    rintro _ or6
    refine x1a1 or6 fun tu qz511 => ?_; clear or6; subst qz511
    refine ⟨_, [("k", some (.int x))], rfl, ⟨tu, by rw [he]; rfl⟩, rfl, ?_⟩
    assumption
  intro C D2 s17 S17 s18 S18
  rw [filterMap_some] at S18
  clear S17 S16 S15
  with_reducible refine r_ladd ‹_› me1 me0 szA fun _ _ _ => ?_
  with_reducible refine r_storeC_val ‹_› ‹_› me1 up15 fun _ _ => ?_
  with_reducible refine execs_one ?_
  rename_i S19
  rw [show bs.map (fun k => nMV (es[k]?.getD (0, 0)).1) ++ bs.map (fun k => nMV (es[k]?.getD (0, 0)).2) = ((touched es bs).map fun n : Nat => (n : Int)).map MV.int by
    simp only [touched, List.map_append, List.map_map]; rfl] at S19
  clear S18
  refine' r_compA (ln' := ["spot"]) (cs' := [("touched", c12)]) (fv := ["touched"]) (gn' := []) hE ?q_c4 rfl ?q_c5 ?q_c1 rfl ?q_c2 ?q_c3 ?_
  case q_c1 => exact ⟨scO rfl (by decide +kernel), by decide +kernel, by decide +kernel⟩
  case q_c2 => exact fc me1 fn
  case q_c3 => intro _; rfl
  case q_c4 => exact me28
  case q_c5 => decide +kernel
  with_reducible refine r_callB rfl ?_
  with_reducible refine r_global ‹_› ‹_› me1 (by exact gv_range _) ?_
  with_reducible refine nr_type ?_
  with_reducible refine items_one ?_ rfl
  with_reducible refine r_int ‹_› fun _ _ _ => ?_
  with_reducible refine r_range1 ‹_› fun _ _ _ _ _ _ _ => ?_
  rename_i hR2 S20
  refine i_range (n := 4) S20 hR2 (by lia) (by lia) (by lia) fun I2 s21 S21 => ?_
  refine CompPack.of_range (fun k => if ((touched es bs).count k % 2 == 1) = true then some (nMV k) else none) S21 hA.handled (by unfold sizeLine; lia) ?_ ?_
  · rintro C D' cenv hE' hc ii x acc s6 v hx hx2 S6 or7
    refine x1a1 or7 fun ta qz611 => ?_; clear or7; subst qz611
    rintro N2
    simp only [noneNs, List.map_cons, List.map_nil] at S6
    clear S21 S20 S19
    with_reducible refine wpAny_assign_Name ?_
    with_reducible refine r_store_int ‹_› ‹_› me0 up0 un0 fun _ _ => ?_
    with_reducible refine wpAny_tests_one ?_
    with_reducible refine wpAny_isTrue_Compare1 ?_
    with_reducible refine wpAny_BinOp ?_
    with_reducible refine r_method rfl rfl rfl rfl ?_
    with_reducible refine r_cell_val ‹_› ‹_› me0 me18 ?_
    with_reducible refine mList PySem.F.slot_list_count PySem.F.type_list_count ‹_› me3 ?_
    with_reducible refine items_one ?_ rfl
    with_reducible refine r_local_int ‹_› ‹_› me0 me0 me0 fun _ => ?_
    refine r_lcount (xs := (touched es bs).map fun n : Nat => (n : Int)) ‹_› me3 fun t22 s22 S22 => ?_
    rw [show (0 + (x : Int)) = x by lia, count_cast]
    with_reducible refine r_int ‹_› fun _ _ _ => ?_
    with_reducible refine r_mod ‹_› (by decide) fun _ _ _ => ?_
    with_reducible refine r_int ‹_› fun _ _ _ => ?_
    with_reducible refine PyProof.Rows.eq_int ?_
    with_reducible refine wpAny_truthy_bool ?_
    by_cases hb : (touched es bs).count x % 2 = 1
    · rw [if_pos (by simp; lia)]
      with_reducible refine r_local_int ‹_› ‹_› me0 me0 me0 fun _ => ?_
      refine ⟨nMV x, [("spot", some (.int (0 + (x : Int))))], by rw [if_pos (by simpa using hb)], ⟨_, by rw [Int.zero_add]⟩, rfl, ?_⟩
      assumption
    · rw [if_neg (by simp; lia)]
      skip
      refine ⟨by rw [if_neg (by simpa using hb)], (k1a2 _ rfl ‹_›)⟩
  intro C D3 s22 S22
  rw [filterMap_if] at S22
  clear S21 S20 S19
  with_reducible refine r_storeN_val ‹_› ‹_› me28 up10 (nw (by kernel_rfl!)) fun _ _ => ?_
  rename_i S23
  refine k2a2 _ _ S23 (fun s24 S24 => ?_)
  rw [show ((List.range 4).filter fun k => (touched es bs).count k % 2 == 1) = oddOf es bs from rfl] at S24
  clear S23 S22
  with_reducible refine And.intro rfl ?_
  exact h D3 _ _ (St.wk S24 (.pick rm4 (.pick rm0 (.pick rm3 (.pick rm3 (.pick rm3 (.pick rm3 (.pick rm3 (.pick rm3 (.pick rm3 (.pick rm3 (.pick rm3 (.pick rm3 (.pick rm3 (.pick rm3 (.drop (.drop (.drop .refl))))))))))))))))))
end
end
section
open Float64
theorem sum_mem : ∀ {l : List Nat} {n : Nat}, n ∈ l → n ≤ l.sum
  | a :: l, n, h => by
    rw [List.sum_cons]
    rcases List.mem_cons.mp h with rfl | h
    · lia
    · have := sum_mem h; lia
theorem ring_sum : ∀ ws : List Str, (ws.map fun w => (Str.ofString "," ++ w ++ Str.ofString ",").length).sum = (ws.map (·.length)).sum + 2 * ws.length
  | [] => rfl
  | w :: ws => by
    have hc1 : (Str.ofString ",").length = 1 := by decide +kernel
    simp only [List.map_cons, List.sum_cons, List.length_cons, Str.length_append, hc1, ring_sum ws]
    have := ring_sum ws
    simp only [Str.length_append, hc1] at this
    grind
section
variable {B : Base} {σ σ' : Led} {s : Shared} {prog : Program} {A : Around} {E : Value → Shared → Prop} {env : Env} {k : Nat} {c1 c2 c3 c4 c5 c6 c7 c8 c9 c10 c11 c12 c13 : Addr}
theorem segN4_walk {cnt : Nat} {D O Cd Gd Kd Rd Td Pd : Addr} {pl : List Nat} {es : List (Nat × Nat)} {rows : List (List Nat)} {F : Nat → Str} {R : List Nat} {i : Nat} {o12 : Option MV} {ρ : Led} {J : Shared → Prop} (hE : EnvOk env lawLn (lawCs c1 c2 c3 c4 c5 c6 c7 c8 c9 c10 c11 c12 c13) lawGn) (hA : Ok A (k + 5))
    (hcnt : cnt = 4 ∨ cnt = 5) (hi : i < 2 ^ cnt) (hW : WordsOk pl es cnt F) (hR : R.length ≤ i)
    (S : St B ((D, .list ((bitsOf cnt i).map nMV)) :: (O, .list ((oddOf es (bitsOf cnt i)).map nMV)) :: (nFr env Cd Gd Kd Rd Td Pd c1 c6 c10 c11 c12 F cnt pl es rows R (i + 1) [("odd", some (.ref O)), ("held", some (.str (heldOf (F i)))), ("flags", some (.str (F i))), ("chosen", some (.ref D))] (some (.int i)) o12 ++ ρ)) s)
    (h : ∀ (s' : Shared), St B (nFr env Cd Gd Kd Rd Td Pd c1 c6 c10 c11 c12 F cnt pl es rows (ringStep F es cnt R i) (i + 1) [] (some (.int i)) o12 ++ ρ) s' → J s') :
    wpAny (model prog B.w) A (execs ((maskBody.drop 7).take 1) env) (fun f s' => f = .next ∧ J s') E s := by
  show wpAny _ _ (execs [_] _) _ _ _
  have hp32 : 2 ^ cnt ≤ 32 := by rcases hcnt with rfl | rfl <;> decide
  have hround := hW.round i hi
  have hlast := hW.last i hi
  have hFl := hW.len i
  have hhl := held_len (F i)
  refine x0a2 (hW.split i) fun hsp1 hsp2 => ?_
  unfold ringStep at h
  simp only [nFr, List.cons_append, List.nil_append] at S h
  generalize hbs : bitsOf cnt i = bs at *
  generalize hod : oddOf es bs = od at *
  generalize hH : heldOf (F i) = H at *
  with_reducible refine execs_oneH fun Jz hJz => ?_
  with_reducible refine wpAny_If ?_
  with_reducible refine PyProof.Rows.isTrue_and ?_
  with_reducible refine wpAny_isTrue_Compare1 ?_
  with_reducible refine r_local_val ‹_› ‹_› me25 me6 me3 ?_
  with_reducible refine r_list_lit ?_
  with_reducible refine wpAny_items_nil ?_
  with_reducible refine lit_intro szA ‹_› (by with_reducible exact .nil) fun _ _ _ => ?_
  with_reducible refine r_ne_nil ‹_› ‹_› me1 me0 ?_
  with_reducible refine wpAny_truthy_bool ?_
  by_cases hb0 : bs = []
  · rw [if_neg (by rw [hb0]; decide)]
    with_reducible refine go_false ?_
    with_reducible refine wpAny_execs_nil ?_
    with_reducible refine Hb.go ‹_› ?_
    with_reducible refine And.intro rfl ?_
    rename_i S2
    simp only [if_neg (fun hc : bs ≠ [] ∧ od = [] ∧ (R.any fun r => ellM (pattern (F r)) H) = false => hc.1 hb0)] at h
    exact h _ (St.wk S2 (.pick rm3 (.pick rm3 (.pick rm3 (.pick rm3 (.ns rm3 (fc (.inr me4) (fc (.inr me5) (fc (.inr me6) (fc (.inr me7) fn)))) (nd (by kernel_rfl!)) (.pick rm3 (.pick rm3 (.pick rm3 (.pick rm3 (.pick rm3 (.pick rm3 (.pick rm3 (.drop (.drop (.drop .refl))))))))))))))))
  rw [if_pos (by cases bs with | nil => exact absurd rfl hb0 | cons a l => rfl)]
  with_reducible refine PyProof.Rows.isTrue_and ?_
  with_reducible refine wpAny_isTrue_Compare1 ?_
  with_reducible refine r_local_val ‹_› ‹_› me28 me7 me0 ?_
  with_reducible refine r_list_lit ?_
  with_reducible refine wpAny_items_nil ?_
  with_reducible refine lit_intro szA ‹_› (by with_reducible exact .nil) fun _ _ _ => ?_
  with_reducible refine r_eq_nil ‹_› ‹_› me3 me0 ?_
  with_reducible refine wpAny_truthy_bool ?_
  by_cases ho : ¬ od = []
  · rw [if_neg (by cases od with | nil => exact absurd rfl ho | cons a l => simp)]
    with_reducible refine go_false ?_
    with_reducible refine wpAny_execs_nil ?_
    with_reducible refine Hb.go ‹_› ?_
    with_reducible refine And.intro rfl ?_
    rename_i S2
    simp only [if_neg (fun hc : bs ≠ [] ∧ od = [] ∧ (R.any fun r => ellM (pattern (F r)) H) = false => ho hc.2.1)] at h
    exact h _ (St.wk S2 (.pick rm4 (.pick rm4 (.pick rm4 (.pick rm4 (.ns rm4 (fc (.inr me4) (fc (.inr me5) (fc (.inr me6) (fc (.inr me7) fn)))) (nd (by kernel_rfl!)) (.pick rm4 (.pick rm4 (.pick rm4 (.pick rm4 (.pick rm4 (.pick rm4 (.pick rm4 (.drop (.drop (.drop (.drop .refl)))))))))))))))))
  have ho : od = [] := Decidable.not_not.mp ho
  rw [if_pos (by rw [ho]; rfl)]
  with_reducible refine PyProof.Rows.isTrue_and ?_
  with_reducible refine PyProof.Rows.isTrue_not ?_
  with_reducible refine wpAny_isTrue_value ?_ rfl
  with_reducible refine r_callF ‹_› ‹_› me13 (gv_holds _) rfl rfl rfl (by decide) ?_
  with_reducible refine items_two ?_ rfl rfl
  with_reducible refine r_local_str ‹_› ‹_› me27 me8 me1 fun _ => ?_
  with_reducible refine r_local_val ‹_› ‹_› me24 me8 me7 ?_
  (with_reducible refine And.intro ⟨_, by assumption⟩ ?_; with_reducible show wpAny _ _ (call (Value.ref _) _) _ _ _)
  refine holds_spec (ps := R.map fun m => pattern (F m)) ‹_› hA me5 (by lia) ?_ fun s2 S2 => ?_
  · intro p hp
    refine x1a2 (List.mem_map.mp hp) fun m _ qz112 => ?_; subst qz112
    have h1 := pattern_len (F m)
    have h2 := hW.len m
    lia
  rw [List.any_map]
  by_cases hh : (R.any fun r => ellM (pattern (F r)) H) = true
  · rw [show (R.any ((fun p => ellM p H) ∘ fun m => pattern (F m))) = true from hh]
    clear S
    with_reducible refine wpAny_truthy_bool ?_
    rw [if_neg (by decide)]
    with_reducible refine go_false ?_
    with_reducible refine wpAny_execs_nil ?_
    with_reducible refine Hb.go ‹_› ?_
    with_reducible refine And.intro rfl ?_
    simp only [if_neg (fun hc : bs ≠ [] ∧ od = [] ∧ (R.any fun r => ellM (pattern (F r)) H) = false => by rw [hh] at hc; exact absurd hc.2.2 (by decide))] at h
    exact h _ (St.wk S2 (.pick rm4 (.pick rm4 (.pick rm4 (.pick rm4 (.ns rm4 (fc (.inr me4) (fc (.inr me5) (fc (.inr me6) (fc (.inr me7) fn)))) (nd (by kernel_rfl!)) (.pick rm4 (.pick rm4 (.pick rm4 (.pick rm4 (.pick rm4 (.pick rm4 (.pick rm4 (.drop (.drop (.drop (.drop .refl)))))))))))))))))
  have hh' : (R.any fun r => ellM (pattern (F r)) H) = false := by simpa using hh
  rw [show (R.any ((fun p => ellM p H) ∘ fun m => pattern (F m))) = false from hh']
  simp only [if_pos (And.intro hb0 (And.intro ho hh'))] at h
  clear S
  with_reducible refine wpAny_truthy_bool ?_
  rw [if_pos (by decide)]
  have hround := hround hb0 ho
  have hlast := hlast hb0 ho
  generalize hsp : Txt.split (F i) (Str.ofString ", ") = ws at *
  have hwl : ∀ w ∈ ws, w.length ≤ 400 := by
    intro w hw
    exact Nat.le_trans (sum_mem (List.mem_map_of_mem (f := fun x : Str => x.length) hw)) hsp2
  with_reducible refine PyProof.Rows.isTrue_and_nil ?_
  with_reducible refine go_true ?_
  with_reducible refine execs_consB ?_
  with_reducible refine wpAny_If ?_
  with_reducible refine PyProof.Rows.isTrue_not ?_
  with_reducible refine wpAny_isTrue_value ?_ rfl
  with_reducible refine r_callF ‹_› ‹_› me14 (gv_round _) rfl rfl rfl (by decide) ?_
  with_reducible refine items_one ?_ rfl
  refine' r_compE (ln' := ["word"]) (cs' := []) (fv := []) (gn' := []) hE ?q_c1 rfl ?q_c2 ?q_c3 ?_
  case q_c1 => exact ⟨scO rfl (by decide +kernel), by decide +kernel, by decide +kernel⟩
  case q_c2 => exact fn
  case q_c3 => intro _; rfl
  with_reducible refine r_method rfl rfl rfl rfl ?_
  with_reducible refine r_local_str ‹_› ‹_› me26 me8 me2 fun _ => ?_
  with_reducible refine mStr PySem.F.slot_str_split PySem.F.type_str_split ?_
  with_reducible refine items_one ?_ rfl
  with_reducible refine r_str ‹_› fun _ _ _ => ?_
  refine r_split ‹_› (by decide +kernel) (leB ‹_› rfl) fun W s4 S4 => ?_
  rw [hsp] at S4
  clear S2
  with_reducible refine i_list ‹_› me0 fun _ _ _ => ?_
  rename_i I3 s5 S5
  refine CompPack.of_list (items := ws.map MV.str) ws MV.str (fun w => some (MV.str (Str.ofString "," ++ w ++ Str.ofString ","))) S5 me0 rfl hA.handled (leB ‹_› rfl) ?_ ?_
  · rintro C D' cenv hE' hc ii x acc s6 v hx S6 or1
    refine x1a1 or1 fun ta qz011 => ?_; clear or1; subst qz011
    rintro N2
    have hxl := hwl x (List.mem_of_getElem? hx)
    simp only [noneNs, List.map_cons, List.map_nil] at S6
    have hc1 : (Str.ofString ",").length = 1 := by decide +kernel
    clear S5 S4
    with_reducible refine wpAny_assign_Name ?_
    with_reducible refine r_store_str ‹_› ‹_› me0 up0 un0 fun _ _ => ?_
    with_reducible refine wpAny_tests_nil ?_
    with_reducible refine go_true ?_
    with_reducible refine wpAny_BinOp ?_
    with_reducible refine wpAny_BinOp ?_
    with_reducible refine r_str ‹_› fun _ _ _ => ?_
    with_reducible refine r_local_str ‹_› ‹_› me0 me0 me0 fun _ => ?_
    with_reducible refine r_sadd ‹_› (by unfold sizeLine; lia) fun _ _ _ => ?_
    with_reducible refine r_str ‹_› fun _ _ _ => ?_
    with_reducible refine r_sadd ‹_› szA fun _ _ _ => ?_
    refine ⟨_, [("word", some (.str x))], rfl, ⟨_, rfl⟩, rfl, ?_⟩
    assumption
  intro C D1 s6 S6 s7 S7
  rw [filterMap_some, show ws.map (fun w => MV.str (Str.ofString "," ++ w ++ Str.ofString ",")) = (ws.map fun w => Str.ofString "," ++ w ++ Str.ofString ",").map MV.str by rw [List.map_map]; rfl] at S7
  clear S6 S5 S4
  (with_reducible refine And.intro ⟨_, by assumption⟩ ?_; with_reducible show wpAny _ _ (call (Value.ref _) _) _ _ _)
  refine round_spec (ring := ws.map fun w => Str.ofString "," ++ w ++ Str.ofString ",") ‹_› hA me0 (by simp; exact leB ‹_› rfl) ?_ fun s8 S8 => ?_
  · have := ring_sum ws
    rw [List.map_map]
    show ((ws.map fun w => (Str.ofString "," ++ w ++ Str.ofString ",").length).sum) ≤ _
    lia
  rw [hround]
  clear S7
  with_reducible refine wpAny_truthy_bool ?_
  rw [if_neg (by decide)]
  with_reducible refine wpAny_execs_nil ?_
  with_reducible refine execs_consB ?_
  with_reducible refine r_expr ‹_› ?_ rfl
  with_reducible refine r_method rfl rfl rfl rfl ?_
  with_reducible refine r_local_val ‹_› ‹_› me24 me10 me7 ?_
  with_reducible refine mList PySem.F.slot_list_append PySem.F.type_list_append ‹_› me7 ?_
  with_reducible refine items_one ?_ rfl
  with_reducible refine r_callF ‹_› ‹_› me15 (gv_pattern _) rfl rfl rfl (by decide) ?_
  with_reducible refine items_one ?_ rfl
  with_reducible refine r_local_str ‹_› ‹_› me26 me10 me2 fun _ => ?_
  (with_reducible refine And.intro ⟨_, by assumption⟩ ?_; with_reducible show wpAny _ _ (call (Value.ref _) _) _ _ _)
  refine pattern_spec ‹_› hA (leB ‹_› rfl) fun t9 s9 S9 => ?_
  clear S8
  with_reducible refine r_lappend_str ‹_› up7 szA fun _ _ => ?_
  with_reducible refine And.intro rfl ?_
  with_reducible refine execs_oneB ?_
  with_reducible refine r_expr ‹_› ?_ rfl
  with_reducible refine r_method rfl rfl rfl rfl ?_
  with_reducible refine r_cell_val ‹_› ‹_› me3 me15 ?_
  with_reducible refine mList PySem.F.slot_list_append PySem.F.type_list_append ‹_› me8 ?_
  with_reducible refine items_one ?_ rfl
  with_reducible refine r_callF ‹_› ‹_› me15 (gv_pattern _) rfl rfl rfl (by decide) ?_
  with_reducible refine items_one ?_ rfl
  with_reducible refine r_slice_uptoC ?_
  with_reducible refine r_local_str ‹_› ‹_› me26 me10 me2 fun _ => ?_
  with_reducible refine r_method rfl rfl rfl rfl ?_
  with_reducible refine r_local_str ‹_› ‹_› me26 me10 me2 fun _ => ?_
  with_reducible refine mStr PySem.F.slot_str_rindex PySem.F.type_str_rindex ?_
  with_reducible refine items_one ?_ rfl
  with_reducible refine r_str ‹_› fun _ _ _ => ?_
  refine r_rindex ‹_› hlast fun t10 s10 S10 => ?_
  refine k5a5 _ _ _ _ _ rfl rfl ‹_› (by unfold sizeLine; lia) (fun t11 s11 S11 => ?_)
  clear S10 S9
  have hcut := cut_len (F i)
  rw [show Txt.slice (F i) none (some (cutAt (F i) : Int)) = cutOf (F i) from rfl]
  (with_reducible refine And.intro ⟨_, by assumption⟩ ?_; with_reducible show wpAny _ _ (call (Value.ref _) _) _ _ _)
  refine pattern_spec ‹_› hA (by lia) fun t12 s12 S12 => ?_
  clear S11
  with_reducible refine r_lappend_str ‹_› up8 szA fun _ _ => ?_
  with_reducible refine And.intro rfl ?_
  with_reducible refine Hb.go ‹_› ?_
  with_reducible refine And.intro rfl ?_
  rename_i S13
  simp only [List.map_append, List.map_cons, List.map_nil] at h
  exact h _ (St.wk S13 (.pick rm6 (.pick rm6 (.pick rm6 (.pick rm6 (.ns rm6 (fc (.inr me4) (fc (.inr me5) (fc (.inr me6) (fc (.inr me7) fn)))) (nd (by kernel_rfl!)) (.pick rm6 (.pick rm6 (.pick rm6 (.pick rm6 (.pick rm6 (.pick rm6 (.pick rm6 (.drop (.drop (.drop (.drop (.drop (.drop .refl)))))))))))))))))))
end
end
section
open Float64
section
variable {B : Base} {σ σ' : Led} {s : Shared} {prog : Program} {A : Around} {E : Value → Shared → Prop} {env : Env} {k : Nat} {c1 c2 c3 c4 c5 c6 c7 c8 c9 c10 c11 c12 c13 : Addr}
theorem segN_walk {cnt : Nat} {Cd Gd Kd Rd Td Pd : Addr} {pl : List Nat} {es : List (Nat × Nat)} {rows : List (List Nat)} {F : Nat → Str} {ρ : Led} {J : Shared → Prop} (hE : EnvOk env lawLn (lawCs c1 c2 c3 c4 c5 c6 c7 c8 c9 c10 c11 c12 c13) lawGn) (hA : Ok A (k + 5))
    (hcnt : cnt = 4 ∨ cnt = 5) (hpl : pl.length = cnt) (hpl2 : ∀ p ∈ pl, p < 20) (hes : es.length = cnt) (hW : WordsOk pl es cnt F)
    (S : St B (nFr env Cd Gd Kd Rd Td Pd c1 c6 c10 c11 c12 F cnt pl es rows [] 0 [] none none ++ ρ) s)
    (h : ∀ (o11 o12 : Option MV) (s' : Shared), St B (nFr env Cd Gd Kd Rd Td Pd c1 c6 c10 c11 c12 F cnt pl es rows (ringsTo F es cnt (2 ^ cnt)) (2 ^ cnt) [] o11 o12 ++ ρ) s' → J s') :
    wpAny (model prog B.w) A (execs ((lawBody.drop 29).take 1) env) (fun f s' => f = .next ∧ J s') E s := by
  show wpAny _ _ (execs [_] _) _ _ _
  simp only [nFr, List.cons_append, List.nil_append] at S
  with_reducible refine execs_one ?_
  with_reducible refine r_for ?_ (fun _ => rfl)
  with_reducible refine r_callB rfl ?_
  with_reducible refine r_global ‹_› ‹_› me1 (by exact gv_range _) ?_
  with_reducible refine nr_type ?_
  with_reducible refine items_one ?_ rfl
  with_reducible refine wpAny_BinOp ?_
  with_reducible refine r_int ‹_› fun _ _ _ => ?_
  with_reducible refine r_local_int ‹_› ‹_› me2 me4 me1 fun _ => ?_
  refine r_pow (n := cnt) ‹_› rfl (by decide) (by lia) fun t9 s9 S9 => ?_
  with_reducible refine r_range1 ‹_› fun _ _ _ _ _ _ _ => ?_
  rename_i r _ _ _ _ hR S5
  have hp32 : 2 ^ cnt ≤ 32 := by rcases hcnt with rfl | rfl <;> decide
  refine i_range (n := 2 ^ cnt) S5 hR (by simp) (by lia) (by lia) fun I s6 S6 => ?_
  refine codeAny_mono (R := fun r s' => r = .ok .next ∧ ∃ (o11 o12 : Option MV), St B (nFr env Cd Gd Kd Rd Td Pd c1 c6 c10 c11 c12 F cnt pl es rows (ringsTo F es cnt (2 ^ cnt)) (2 ^ cnt) [] o11 o12 ++ ρ) s') ?_ ?_
  · refine b_range (k := k + 5) (fun i σ' => ∃ (o11 o12 : Option MV), σ' = nFr env Cd Gd Kd Rd Td Pd c1 c6 c10 c11 c12 F cnt pl es rows (ringsTo F es cnt i) i [] o11 o12 ++ ρ) hA ?_ ?_ ⟨none, none, rfl⟩ S6
    · rintro i _ s7 t hi or1
      refine x2a1 or1 fun o11 o12 qz012 => ?_; clear or1; subst qz012
      rintro S7 N
      clear S6 S5 S9 S
      have hRl := ringsTo_len (F := F) (es := es) (cnt := cnt) i
      rw [ringsTo_succ]
      generalize hR' : ringsTo F es cnt i = R at *
      simp only [nFr, List.cons_append, List.nil_append] at S7
      intro J hJ
      with_reducible refine wpAny_assign_Name ?_
      with_reducible refine r_storeC_int ‹_› ‹_› me2 up11 fun _ _ => ?_
      rename_i S8
      rw [show (0 + (i : Int)) = i from Int.zero_add _] at S8
      clear S7
      show wpAny _ _ (execs (maskBody.take 3 ++ ((maskBody.drop 3).take 2 ++ ((maskBody.drop 5).take 2 ++ (maskBody.drop 7).take 1))) env) _ _ _
      have S9 := St.perm S8 (perm_up (τ := nFr env Cd Gd Kd Rd Td Pd c1 c6 c10 c11 c12 F cnt pl es rows R i [] (some (.int i)) o12) (τ' := [(I, _)]) (ρ := ρ))
      clear S8
      refine r_seg (fun s' => ∃ D, St B ((D, .list ((bitsOf cnt i).map nMV)) :: (nFr env Cd Gd Kd Rd Td Pd c1 c6 c10 c11 c12 F cnt pl es rows R i [("held", some (.str (heldOf (F i)))), ("flags", some (.str (F i))), ("chosen", some (.ref D))] (some (.int i)) o12 ++ ((I, .rangeIter (0 + ((i + 1 : Nat) : Int)) (((2 ^ cnt : Nat) : Int) - ((i + 1 : Nat) : Int)) 1) :: ρ))) s') (segN1_walk hE hA hcnt hpl hpl2 hW S9 fun D s10 S10 => ⟨D, S10⟩) ?_
      rintro s10 or2
      refine x1a1 or2 fun D S10 => ?_; clear or2
      refine r_seg (fun s' => St B ((D, .list ((bitsOf cnt i).map nMV)) :: (nFr env Cd Gd Kd Rd Td Pd c1 c6 c10 c11 c12 F cnt pl es rows R (i + 1) [("held", some (.str (heldOf (F i)))), ("flags", some (.str (F i))), ("chosen", some (.ref D))] (some (.int i)) o12 ++ ((I, .rangeIter (0 + ((i + 1 : Nat) : Int)) (((2 ^ cnt : Nat) : Int) - ((i + 1 : Nat) : Int)) 1) :: ρ))) s') (segN2_walk hE hA hcnt hW hi S10 fun s11 S11 => S11) ?_
      intro s11 S11
      refine r_seg (fun s' => ∃ O o12, St B ((D, .list ((bitsOf cnt i).map nMV)) :: (O, .list ((oddOf es (bitsOf cnt i)).map nMV)) :: (nFr env Cd Gd Kd Rd Td Pd c1 c6 c10 c11 c12 F cnt pl es rows R (i + 1) [("odd", some (.ref O)), ("held", some (.str (heldOf (F i)))), ("flags", some (.str (F i))), ("chosen", some (.ref D))] (some (.int i)) o12 ++ ((I, .rangeIter (0 + ((i + 1 : Nat) : Int)) (((2 ^ cnt : Nat) : Int) - ((i + 1 : Nat) : Int)) 1) :: ρ))) s') (segN3_walk hE hA hcnt hes S11 fun O o12 s12 S12 => ⟨O, o12, S12⟩) ?_
      rintro s12 or3
      refine x2a1 or3 fun O o12' S12 => ?_; clear or3
      refine wpAny_mono (segN4_walk (J := fun s' => St B (nFr env Cd Gd Kd Rd Td Pd c1 c6 c10 c11 c12 F cnt pl es rows (ringStep F es cnt R i) (i + 1) [] (some (.int i)) o12' ++ ((I, .rangeIter (0 + ((i + 1 : Nat) : Int)) (((2 ^ cnt : Nat) : Int) - ((i + 1 : Nat) : Int)) 1) :: ρ)) s') hE hA hcnt hi hW hRl S12 fun s13 S13 => S13) (fun f s13 hf => ?_) fun _ _ x => x
      refine x0a2 hf fun qz310 S13 => ?_; clear hf; subst qz310
      exact hJ _ _ <| k1a2 _ (k2a1 _ _ rfl) (St.perm S13 (perm_up (τ := [(I, _)]) (τ' := nFr env Cd Gd Kd Rd Td Pd c1 c6 c10 c11 c12 F cnt pl es rows (ringStep F es cnt R i) (i + 1) [] (some (.int i)) o12') (ρ := ρ)))
    · rintro σ' s7 or4
      refine x2a1 or4 fun o11 o12 qz412 => ?_; clear or4; subst qz412
      rintro S7 N
      with_reducible refine wpAny_execs_nil ?_
      with_reducible refine And.intro rfl ?_
      exact k2a1 _ _ S7
  · rintro r s7 or5
    refine x0a2 or5 fun qz510 oz51 => ?_; clear or5; subst qz510; refine x2a1 oz51 fun o11 o12 S7 => ?_; clear oz51
    clear S6 S5 S9 S
    with_reducible refine And.intro rfl ?_
    exact h o11 o12 _ S7
end
end
section
open Float64
noncomputable def gtAt (x : Str) (i j : Nat) : Bool := decide ((x.cps[j]?.getD 0) < (x.cps[i]?.getD 0))
theorem argBest_le (bt : Nat → Nat → Bool) : ∀ k, argBest bt k ≤ k
  | 0 => Nat.le_refl _
  | k + 1 => by
    have := argBest_le bt k
    unfold argBest; split <;> lia
theorem argBest_top (x : Str) : ∀ k, ∀ i, i ≤ k → x.cps[i]?.getD 0 ≤ x.cps[argBest (gtAt x) k]?.getD 0
  | 0, i, h => by obtain rfl : i = 0 := by lia
                  exact Nat.le_refl _
  | k + 1, i, h => by
    unfold argBest
    by_cases hb : gtAt x (k + 1) (argBest (gtAt x) k) = true
    · rw [if_pos hb]
      have hb' : (x.cps[argBest (gtAt x) k]?.getD 0) < (x.cps[k + 1]?.getD 0) := of_decide_eq_true hb
      by_cases hi : i = k + 1
      · subst hi; exact Nat.le_refl _
      · exact Nat.le_trans (argBest_top x k i (by lia)) (Nat.le_of_lt hb')
    · rw [if_neg hb]
      have hb' : ¬ (x.cps[argBest (gtAt x) k]?.getD 0) < (x.cps[k + 1]?.getD 0) := fun q => hb (decide_eq_true q)
      by_cases hi : i = k + 1
      · subst hi; lia
      · exact argBest_top x k i (by lia)
section
variable {B : Base} {σ σ' : Led} {s : Shared} {prog : Program} {A : Around} {E : Value → Shared → Prop} {env : Env} {k : Nat} {c1 c2 c3 c4 c5 c6 c7 c8 c9 c10 c11 c12 c13 : Addr}
theorem cmp_gt_str {x : Str} {w : World} {A : Around} : CmpOf prog w A .Gt (SignAt x) (gtAt x) := fun i j vi vj s Q E hi hj h => by
  refine x2a2 hi fun c u hc qz013 => ?_; clear hi; subst qz013
  refine x2a2 hj fun d t hd qz113 => ?_; clear hj; subst qz113
  have : wpAny (model prog w) A (compareOp .Gt (.str ⟨#[c]⟩ u) (.str ⟨#[d]⟩ t)) Q E s := by
    refine PySem.P.gt_str ?_
    have e : decide ((⟨#[d]⟩ : Str).cps.toList < (⟨#[c]⟩ : Str).cps.toList) = gtAt x i j := by
      unfold gtAt
      rw [hc, hd]
      simp [List.cons_lt_cons_iff]
    rw [e]; exact h
  exact this
theorem r_maxS {x : Str} {t : Tok} {Q : Value → Shared → Prop} (S : St B σ s) (hA : A.handled = none) (hx : 0 < x.length) (h : ∀ c t s', c ∈ x.cps.toList → (∀ d ∈ x.cps.toList, d ≤ c) → St B σ s' → Q (.str ⟨#[c]⟩ t) s') :
    wpAny (model prog B.w) A (call (.builtin "max") [.str x t]) Q E s := by
  have hn : 0 < x.cps.size := hx
  refine St.viaH (P := fun v => ∃ c t, v = .str ⟨#[c]⟩ t ∧ c ∈ x.cps.toList ∧ ∀ d ∈ x.cps.toList, d ≤ c) S (fun v s' ⟨c, t, e, h1, h2⟩ S' => e ▸ h c t s' h1 h2 S') fun Q' hq => ?_
  refine call_max_walk (wpAny_pyIter_str fun o St W hst => ?_)
  refine k7a7 _ _ _ _ _ St (gtAt x) rfl (W A.in1 hA) hst ?_ hn cmp_gt_str (fun v h' tk hP hk => ?_)
  · intro b hb
    rw [List.mem_singleton.mp hb]
    show _ < (s.heap.push o).objs.size
    rw [Heap.size_push]; lia
  · refine x2a2 hP fun c u hc qz213 => ?_; clear hP; subst qz213
    refine hq _ h' tk ⟨c, u, rfl, ?_, fun d hd => ?_⟩ fun b ob e => ?_
    · have := Array.getElem?_eq_some_iff.mp hc
      refine x1a1 this fun hlt e => ?_; clear this
      rw [← e]; simp
    · obtain ⟨i, hi, e⟩ := List.mem_iff_getElem.mp hd
      have hi' : i < x.cps.size := by simpa using hi
      have := argBest_top x (x.cps.size - 1) i (by lia)
      rw [hc] at this
      have e2 : x.cps[i]? = some d := by rw [Array.getElem?_eq_getElem hi']; rw [← e]; simp
      rw [e2] at this
      exact this
    · refine hk b ob (fun hm => ?_) (Heap.get?_push_of_some _ e)
      rw [List.mem_singleton.mp hm] at e
      exact absurd (Heap.lt_size e) (Nat.lt_irrefl _)
end
end
section
open Float64
noncomputable def kept (F : Nat → Str) (cnt : Nat) (R : List Nat) : List Nat := ((List.range (2 ^ cnt)).filter fun m => !(R.any fun r => ellM (pattern (cutOf (F r))) (heldOf (F m)))).map fun m => (bitsOf cnt m).length
theorem kept_le {F cnt R} (hcnt : cnt ≤ 5) : (kept F cnt R).length ≤ 32 ∧ ∀ n ∈ kept F cnt R, n ≤ 5 := by
  constructor
  · unfold kept
    rw [List.length_map]
    exact Nat.le_trans (List.length_filter_le _ _) (by rw [List.length_range]; exact Nat.le_trans (Nat.pow_le_pow_right (by decide) hcnt) (by decide))
  · intro n hn
    refine x1a2 (List.mem_map.mp hn) fun m _ qz012 => ?_; subst qz012
    exact Nat.le_trans bits_len hcnt
theorem filterMap_none {α β : Type} : ∀ l : List α, l.filterMap (fun _ => (none : Option β)) = []
  | [] => rfl
  | _ :: l => by rw [List.filterMap_cons]; exact filterMap_none l
section
variable {B : Base} {σ σ' : Led} {s : Shared} {prog : Program} {A : Around} {E : Value → Shared → Prop} {env : Env} {k : Nat} {c1 c2 c3 c4 c5 c6 c7 c8 c9 c10 c11 c12 c13 : Addr}
theorem segO_walk {cnt : Nat} {Cd Gd Kd Rd Td Pd : Addr} {pl : List Nat} {es : List (Nat × Nat)} {rows : List (List Nat)} {F : Nat → Str} {R : List Nat} {o11 o12 : Option MV} {ρ : Led} {J : Shared → Prop} (hE : EnvOk env lawLn (lawCs c1 c2 c3 c4 c5 c6 c7 c8 c9 c10 c11 c12 c13) lawGn) (hA : Ok A (k + 5))
    (hcnt : cnt = 4 ∨ cnt = 5) (hW : WordsOk pl es cnt F) (hR : R.length ≤ 32) (hk3 : ∀ n ∈ kept F cnt R, n ≤ 3)
    (S : St B (nFr env Cd Gd Kd Rd Td Pd c1 c6 c10 c11 c12 F cnt pl es rows R (2 ^ cnt) [] o11 o12 ++ ρ) s)
    (h : ∀ (Q : Addr) (s' : Shared), St B ((Q, .list ((kept F cnt R).map nMV)) :: (Rd, .list (rows.map fun r => MV.str (dS r))) :: (env.locals, .ns [("kept", some (.ref Q)), ("rows", some (.ref Rd))]) :: ρ) s' → J s') :
    wpAny (model prog B.w) A (execs ((lawBody.drop 30).take 2) env) (fun f s' => f = .next ∧ J s') E s := by
  show wpAny _ _ (execs [_, _] _) _ _ _
  have hp32 : 2 ^ cnt ≤ 32 := by rcases hcnt with rfl | rfl <;> decide
  refine x0a2 (kept_le (F := F) (R := R) (cnt := cnt) (by lia)) fun hkl hkm => ?_
  simp only [nFr, List.cons_append, List.nil_append] at S
  with_reducible refine execs_consH fun Jz hJz => ?_
  refine' r_compA (ln' := ["much", "held"]) (cs' := [("broken", c10)]) (fv := ["broken"]) (gn' := ["_law_holds"]) hE ?q_c4 rfl ?q_c5 ?q_c1 rfl ?q_c2 ?q_c3 ?_
  case q_c1 => exact ⟨scO rfl (by decide +kernel), by decide +kernel, by decide +kernel⟩
  case q_c2 => exact fc me3 fn
  case q_c3 => intro _; rfl
  case q_c4 => exact me29
  case q_c5 => decide +kernel
  with_reducible refine r_local_val ‹_› ‹_› me23 me4 me2 ?_
  with_reducible refine i_list ‹_› me0 fun _ _ _ => ?_
  rename_i I s2 S2
  refine CompPack.of_list (items := (List.range (2 ^ cnt)).map (chMV F cnt)) (List.range (2 ^ cnt)) (chMV F cnt) (fun m => if (!(R.any fun r => ellM (pattern (cutOf (F r))) (heldOf (F m)))) = true then some (nMV (bitsOf cnt m).length) else none) S2 me0 rfl hA.handled (by simp; exact leB ‹_› rfl) ?_ ?_
  · rintro C D' cenv hE' hc ii x acc s6 v hx S6 or1
    refine x1a2 or1 fun ta qz011 ht => ?_; clear or1; subst qz011
    rintro N2
    simp only [noneNs, List.map_cons, List.map_nil] at S6
    clear S2 S
    have hFl := hW.len x
    have hhl := held_len (F x)
    ((with_reducible refine' r_unpack2 ?q_uS_4 ?q_uA_4 ?q_ut_4 ?_); (case q_uS_4 => assumption); (case q_uA_4 => exact Ok.handled ‹_›); (case q_ut_4 => assumption); (intro _ _ _ _); (dsimp only [Sc.val]))
    with_reducible refine r_store_int ‹_› ‹_› me0 up0 un0 fun _ _ => ?_
    with_reducible refine r_store_str ‹_› ‹_› me1 up0 un1 fun _ _ => ?_
    with_reducible refine wpAny_tests_one ?_
    with_reducible refine PyProof.Rows.isTrue_not ?_
    with_reducible refine wpAny_isTrue_value ?_ rfl
    with_reducible refine r_callF ‹_› ‹_› me0 (gv_holds _) rfl rfl rfl (by decide) ?_
    with_reducible refine items_two ?_ rfl rfl
    with_reducible refine r_local_str ‹_› ‹_› me1 me0 me1 fun _ => ?_
    with_reducible refine r_cell_val ‹_› ‹_› me0 me12 ?_
    (with_reducible refine And.intro ⟨_, by assumption⟩ ?_; with_reducible show wpAny _ _ (call (Value.ref _) _) _ _ _)
    refine holds_spec (ps := R.map fun m => pattern (cutOf (F m))) ‹_› hA me5 (by lia) ?_ fun s7 S7 => ?_
    · intro p hp
      refine x1a2 (List.mem_map.mp hp) fun m _ qz312 => ?_; subst qz312
      have h1 := pattern_len (cutOf (F m))
      have h2 := hW.len m
      have h3 := cut_len (F m)
      lia
    rw [List.any_map, show (R.any ((fun p => ellM p (heldOf (F x))) ∘ fun m => pattern (cutOf (F m)))) = (R.any fun r => ellM (pattern (cutOf (F r))) (heldOf (F x))) from rfl]
    with_reducible refine wpAny_truthy_bool ?_
    by_cases hh : (!(R.any fun r => ellM (pattern (cutOf (F r))) (heldOf (F x)))) = true
    · rw [if_pos hh]
      with_reducible refine r_local_int ‹_› ‹_› me0 me0 me0 fun _ => ?_
      refine ⟨nMV (bitsOf cnt x).length, [("much", some (.int (bitsOf cnt x).length)), ("held", some (.str (heldOf (F x))))], by rw [if_pos hh], ⟨_, rfl⟩, rfl, ?_⟩
      assumption
    · rw [if_neg hh]
      refine ⟨by rw [if_neg hh], (k1a2 _ rfl ‹_›)⟩
  intro C D2 s10 S10
  rw [filterMap_if, show ((List.range (2 ^ cnt)).filter fun m => !(R.any fun r => ellM (pattern (cutOf (F r))) (heldOf (F m)))).map (fun m => nMV (bitsOf cnt m).length) = (kept F cnt R).map nMV by unfold kept; rw [List.map_map]; rfl] at S10
  generalize kept F cnt R = ks at *
  clear S2 S
  with_reducible refine r_storeN_val ‹_› ‹_› me29 up6 (nw (by kernel_rfl!)) fun _ _ => ?_
  rename_i S11
  refine k2a2 _ _ S11 (fun s12 S12 => ?_)
  clear S11 S10
  with_reducible refine execs_oneB ?_
  with_reducible refine wpAny_If ?_
  with_reducible refine wpAny_isTrue_Compare1 ?_
  refine' r_compE (ln' := ["much"]) (cs' := []) (fv := []) (gn' := []) hE ?q_c1 rfl ?q_c2 ?q_c3 ?_
  case q_c1 => exact ⟨scO rfl (by decide +kernel), by decide +kernel, by decide +kernel⟩
  case q_c2 => exact fn
  case q_c3 => intro _; rfl
  with_reducible refine r_local_val ‹_› ‹_› me29 me5 me0 ?_
  with_reducible refine i_list ‹_› me0 fun _ _ _ => ?_
  rename_i I3 s13 S13
  refine CompPack.of_list (items := ks.map nMV) ks nMV (fun n => none) S13 me0 rfl hA.handled (leB ‹_› rfl) ?_ ?_
  · rintro C D' cenv hE' hc ii x acc s6 v hx S6 or2
    refine x1a1 or2 fun ta qz111 => ?_; clear or2; subst qz111
    rintro N2
    have hx3 := hk3 x (List.mem_of_getElem? hx)
    simp only [noneNs, List.map_cons, List.map_nil] at S6
    clear S13 S12
    with_reducible refine wpAny_assign_Name ?_
    with_reducible refine r_store_int ‹_› ‹_› me0 up0 un0 fun _ _ => ?_
    with_reducible refine wpAny_tests_one ?_
    with_reducible refine r_cmpi ‹_› ‹_› (.loc me0 me0 me0) .con (fun _ _ _ _ => ?_) (by with_unfolding_all rfl)
    with_reducible refine PyProof.Rows.gt_int ?_
    with_reducible refine wpAny_truthy_bool ?_
    rw [if_neg (by simp; lia)]
    with_reducible refine And.intro rfl ?_
    exact k1a2 _ rfl ‹_›
  intro C D3 s14 S14 s15 S15
  rw [filterMap_none] at S15
  clear S14 S13 S12
  with_reducible refine r_list_lit ?_
  with_reducible refine wpAny_items_nil ?_
  with_reducible refine lit_intro szA ‹_› (by with_reducible exact .nil) fun _ _ _ => ?_
  with_reducible refine r_ne_nil ‹_› ‹_› me1 me0 ?_
  with_reducible refine wpAny_truthy_bool ?_
  rw [if_neg (by decide)]
  with_reducible refine wpAny_execs_nil ?_
  with_reducible refine Hb.go ‹_› ?_
  with_reducible refine And.intro rfl ?_
  exact h D2 _ (St.wk ‹_› (.pick rm2 (.pick rm5 (.ns rm5 (fc (.inr me0) (fc (.inr me1) fn)) (nd (by kernel_rfl!)) (.drop (.drop (.drop (.drop (.drop (.drop (.drop (.drop (.drop (.drop (.drop (.drop .refl))))))))))))))))
end
end
section
open Float64
noncomputable def wsum (ks : List Nat) (q : Nat) : Int := (ks.map fun n => (-1 : Int) ^ n * (q : Int) ^ (4 - n)).sum
noncomputable def below (q : Nat) (r : List Nat) : Bool := r.all fun d => decide (d < q)
theorem at0123 : ∀ d, d < 4 → ((seqIndex? ((d : Nat) : Int) (Str.ofString "0123").length).bind fun j => (Str.ofString "0123").cps[j]?) = some (48 + d) := by decide +kernel
theorem pw_small : ∀ q : Nat, q < 4 → ∀ n, n < 4 → ((-1 : Int) ^ n).natAbs ≤ 1 ∧ ((q : Int) ^ (4 - n)).natAbs ≤ 81 ∧ ((-1 : Int) ^ n * (q : Int) ^ (4 - n)).natAbs ≤ 81 := by decide +kernel
section
variable {B : Base} {σ σ' : Led} {s : Shared} {prog : Program} {A : Around} {E : Value → Shared → Prop} {env : Env} {k : Nat} {c1 c2 c3 c4 c5 c6 c7 c8 c9 c10 c11 c12 c13 : Addr}
theorem segP_walk {sz : Nat} {Qd Rd : Addr} {ks : List Nat} {rows : List (List Nat)} {ρ : Led} {J : Shared → Prop} (hE : EnvOk env lawLn (lawCs c1 c2 c3 c4 c5 c6 c7 c8 c9 c10 c11 c12 c13) lawGn) (hA : Ok A (k + 5))
    (h1 : 1 ≤ sz) (h3 : sz ≤ 3) (hk3 : ∀ n ∈ ks, n ≤ 3) (hkl : ks.length ≤ 32) (hrl : rows.length ≤ 121) (hrows : ∀ r ∈ rows, 0 < r.length ∧ r.length ≤ 4 ∧ ∀ d ∈ r, d < 3)
    (hsum : ∀ q, 1 ≤ q → q ≤ sz → wsum ks q = ((rows.filter (below q)).length : Nat))
    (S : St B ((Qd, .list (ks.map nMV)) :: (Rd, .list (rows.map fun r => MV.str (dS r))) :: (env.locals, .ns [("kept", some (.ref Qd)), ("rows", some (.ref Rd))]) :: (c5, .cell (some (.int sz))) :: (c13, .cell none) :: ρ) s)
    (h : ∀ (s' : Shared), St B ρ s' → J s') :
    wpAny (model prog B.w) A (execs (lawBody.drop 32) env) (fun f s' => f = .ret (.bool true) ∧ J s') E s := by
  show wpAny _ _ (execs [_, _] _) _ _ _
  with_reducible refine execs_consH fun Jz hJz => ?_
  with_reducible refine r_for ?_ (fun _ => rfl)
  with_reducible refine r_callB rfl ?_
  with_reducible refine r_global ‹_› ‹_› me1 (by exact gv_range _) ?_
  with_reducible refine nr_type ?_
  with_reducible refine items_two ?_ rfl rfl
  with_reducible refine r_int ‹_› fun _ _ _ => ?_
  with_reducible refine wpAny_BinOp ?_
  with_reducible refine r_cell_int ‹_› ‹_› me8 me3 fun _ => ?_
  with_reducible refine r_int ‹_› fun _ _ _ => ?_
  with_reducible refine r_add ‹_› fun _ _ _ => ?_
  with_reducible refine r_range2 ‹_› fun _ _ _ _ _ _ _ => ?_
  rename_i r _ _ _ _ hR S5
  refine i_range (n := sz) S5 hR (by lia) (by lia) (by lia) fun I s6 S6 => ?_
  refine codeAny_mono (R := fun r s' => r = .ok .next ∧ St B ρ s') ?_ ?_
  · refine b_range (k := k + 5) (fun i σ' => ∃ (ot o13 : Option MV), σ' = (Qd, .list (ks.map nMV)) :: (Rd, .list (rows.map fun r => MV.str (dS r))) :: (env.locals, .ns [("total", ot), ("kept", some (.ref Qd)), ("rows", some (.ref Rd))]) :: (c5, .cell (some (.int sz))) :: (c13, .cell o13) :: ρ) hA ?_ ?_ ⟨none, none, rfl⟩ (St.wk S6 (.pick rm0 (.pick rm0 (.pick rm0 (.ns rm0 (fc (.inl rfl) (fc (.inr me0) (fc (.inr me1) fn))) (nd (by kernel_rfl!)) .refl)))))
    · rintro i _ s7 t hi or1
      refine x2a1 or1 fun ot o13 qz012 => ?_; clear or1; subst qz012
      rintro S7 N
      clear S6 S5 S
      refine x1a1 (⟨_, rfl⟩ : ∃ q : Nat, q = 1 + i) fun q hq => ?_
      have hqc : (1 + (i : Int)) = (q : Int) := by lia
      rw [hqc]
      have hq3 : q < 4 := by lia
      have hsq := hsum q (by lia) (by lia)
      intro J hJ
      with_reducible refine wpAny_assign_Name ?_
      with_reducible refine r_storeC_int ‹_› ‹_› me0 up5 fun _ _ => ?_
      with_reducible refine execs_consB ?_
      with_reducible refine wpAny_Assign_Name ?_ rfl
      with_reducible refine r_callB rfl ?_
      with_reducible refine r_global ‹_› ‹_› me11 (by exact gv_sum _) ?_
      with_reducible refine nr_builtin ?_
      with_reducible refine items_one ?_ rfl
      refine' r_compE (ln' := ["much"]) (cs' := [("most", c13)]) (fv := ["most"]) (gn' := []) hE ?q_c1 rfl ?q_c2 ?q_c3 ?_
      case q_c1 => exact ⟨scO rfl (by decide +kernel), by decide +kernel, by decide +kernel⟩
      case q_c2 => exact fc me0 fn
      case q_c3 => intro _; rfl
      with_reducible refine r_local_val ‹_› ‹_› me29 me3 me1 ?_
      with_reducible refine i_list ‹_› me1 fun _ _ _ => ?_
      rename_i I3 s13 S13
      refine CompPack.of_list (items := ks.map nMV) ks nMV (fun n => some (MV.int ((-1 : Int) ^ n * (q : Int) ^ (4 - n)))) S13 me1 rfl hA.handled (leB ‹_› rfl) ?_ ?_
      · rintro C D' cenv hE' hc ii x acc s6 v hx S6 or2
        obtain ⟨ta, rfl⟩ := or2
        rintro N2
        have hx3 := hk3 x (List.mem_of_getElem? hx)
        refine x0a3 (pw_small q hq3 x (ltB ‹_› rfl)) fun p1 p2 p3 => ?_
        simp only [noneNs, List.map_cons, List.map_nil] at S6
        clear S13 S7
        with_reducible refine wpAny_assign_Name ?_
        with_reducible refine r_store_int ‹_› ‹_› me0 up0 un0 fun _ _ => ?_
        with_reducible refine wpAny_tests_nil ?_
        with_reducible refine go_true ?_
        with_reducible refine wpAny_BinOp ?_
        with_reducible refine wpAny_BinOp ?_
        with_reducible refine wpAny_UnaryOp ?_
        with_reducible refine r_int ‹_› fun _ _ _ => ?_
        with_reducible refine r_neg ‹_› fun _ _ _ => ?_
        with_reducible refine r_local_int ‹_› ‹_› me0 me0 me0 fun _ => ?_
        refine r_pow (n := x) ‹_› rfl (by decide) (ltB ‹_› rfl) fun t14 s14 S14 => ?_
        with_reducible refine wpAny_BinOp ?_
        with_reducible refine r_cell_int ‹_› ‹_› me0 me8 fun _ => ?_
        with_reducible refine wpAny_BinOp ?_
        with_reducible refine r_int ‹_› fun _ _ _ => ?_
        with_reducible refine r_local_int ‹_› ‹_› me0 me0 me0 fun _ => ?_
        with_reducible refine r_sub ‹_› fun _ _ _ => ?_
        refine r_pow (n := 4 - x) ‹_› (by lia) (leB ‹_› rfl) (by grind) fun t15 s15 S15 => ?_
        refine r_mul S15 (ltB ‹_› rfl) fun t16 s16 S16 => ?_
        refine ⟨_, [("much", some (.int x))], rfl, ⟨_, rfl⟩, rfl, S16⟩
      intro C D3 s14 S14 s15 S15
      rw [filterMap_some, show ks.map (fun n => MV.int ((-1 : Int) ^ n * (q : Int) ^ (4 - n))) = (ks.map fun n => (-1 : Int) ^ n * (q : Int) ^ (4 - n)).map MV.int by rw [List.map_map]; rfl] at S15
      clear S14 S13 S7
      refine r_sum (xs := ks.map fun n => (-1 : Int) ^ n * (q : Int) ^ (4 - n)) ‹_› hA.handled me0 (by simp; exact leB ‹_› rfl) ?_ fun t16 s16 S16 => ?_
      · intro x hx
        refine x1a2 (List.mem_map.mp hx) fun n hn qz412 => ?_; subst qz412
        have := (pw_small q hq3 n (by have := hk3 n hn; exact ltB ‹_› rfl)).2.2
        lia
      rw [show (ks.map fun n => (-1 : Int) ^ n * (q : Int) ^ (4 - n)).sum = wsum ks q from rfl, hsq]
      clear S15
      with_reducible refine r_store_int ‹_› ‹_› me30 up4 un0 fun _ _ => ?_
      with_reducible refine execs_oneB ?_
      with_reducible refine wpAny_If ?_
      with_reducible refine wpAny_isTrue_Compare1 ?_
      with_reducible refine r_local_int ‹_› ‹_› me30 me4 me0 fun _ => ?_
      with_reducible refine r_callB rfl ?_
      with_reducible refine r_global ‹_› ‹_› me0 (by exact gv_len _) ?_
      with_reducible refine nr_builtin ?_
      with_reducible refine items_one ?_ rfl
      refine' r_compE (ln' := ["row"]) (cs' := [("most", c13)]) (fv := ["most"]) (gn' := ["max"]) hE ?q_c1 rfl ?q_c2 ?q_c3 ?_
      case q_c1 => exact ⟨scO rfl (by decide +kernel), by decide +kernel, by decide +kernel⟩
      case q_c2 => exact fc me0 fn
      case q_c3 => intro _; rfl
      with_reducible refine r_local_val ‹_› ‹_› me20 me4 me2 ?_
      with_reducible refine i_list ‹_› me3 fun _ _ _ => ?_
      rename_i I4 s17 S17
      refine CompPack.of_list rows (fun r => MV.str (dS r)) (fun r => if below q r = true then some (MV.str (dS r)) else none) S17 me3 rfl hA.handled (leB ‹_› rfl) ?_ ?_
      · rintro C D' cenv hE' hc ii x acc s6 v hx S6 or3
        obtain ⟨ta, rfl⟩ := or3
        rintro N2
        refine x0a3 (hrows x (List.mem_of_getElem? hx)) fun hx0 hx4 hxd => ?_
        simp only [noneNs, List.map_cons, List.map_nil] at S6
        clear S17 S16
        with_reducible refine wpAny_assign_Name ?_
        with_reducible refine r_store_str ‹_› ‹_› me0 up0 un0 fun _ _ => ?_
        with_reducible refine wpAny_tests_one ?_
        with_reducible refine wpAny_isTrue_Compare1 ?_
        with_reducible refine r_callB rfl ?_
        with_reducible refine r_global ‹_› ‹_› me0 (by exact gv_max _) ?_
        with_reducible refine nr_builtin ?_
        with_reducible refine items_one ?_ rfl
        with_reducible refine r_local_str ‹_› ‹_› me0 me0 me0 fun _ => ?_
        refine r_maxS ‹_› hA.handled (by rw [dS_len]; exact hx0) fun c t18 s18 hc1 hc2 S18 => ?_
        have hb : decide ((⟨#[c]⟩ : Str).cps.toList < (⟨#[48 + q]⟩ : Str).cps.toList) = below q x := by
          unfold below
          simp only [dS, List.mem_map] at hc1 hc2
          refine x1a2 hc1 fun d hd qz712 => ?_; clear hc1; subst qz712
          rw [Bool.eq_iff_iff, decide_eq_true_iff, List.all_eq_true]
          simp only [decide_eq_true_iff, List.cons_lt_cons_iff, List.not_lt_nil, and_false, or_false]
          constructor
          · intro hlt e he
            have := hc2 (48 + e) ⟨e, he, rfl⟩
            grind
          · intro hall
            have := hall d hd
            grind
        with_reducible refine r_subscr ?_
        with_reducible refine r_str ‹_› fun _ _ _ => ?_
        with_reducible refine r_cell_int ‹_› ‹_› me0 me9 fun _ => ?_
        with_reducible refine g_str ?_
        refine r_getc ‹_› (leB ‹_› rfl) (at0123 q hq3) fun t19 s19 S19 => ?_
        refine PyProof.Rows.lt_str ?_
        rw [hb]
        with_reducible refine wpAny_truthy_bool ?_
        by_cases hbq : below q x = true
        · refine ite_t hbq ?_
          with_reducible refine r_local_str ‹_› ‹_› me0 me0 me0 fun _ => ?_
          refine ⟨MV.str (dS x), [("row", some (.str (dS x)))], by rw [if_pos hbq], ⟨_, rfl⟩, rfl, ?_⟩
          assumption
        · refine ite_f hbq ?_
          refine ⟨by rw [if_neg hbq], (k1a2 _ rfl ‹_›)⟩
      intro C D4 s18 S18 s19 S19
      rw [filterMap_if] at S19
      have hfl : (rows.filter (below q)).length ≤ 121 := Nat.le_trans (List.length_filter_le _ _) hrl
      clear S18 S17 S16
      with_reducible refine r_len_list ‹_› me0 szA fun _ _ _ => ?_
      with_reducible refine PyProof.Rows.ne_int ?_
      with_reducible refine wpAny_truthy_bool ?_
      rw [List.length_map, if_neg (by simp)]
      with_reducible refine wpAny_execs_nil ?_
      with_reducible refine Hb.go ‹_› ?_
      rename_i S20
      refine k1a2 _ (k2a1 (some (.int ((rows.filter (below q)).length : Nat))) (some (.int q)) rfl) ?_
      exact St.wk S20 (.pick rm2 (.pick rm2 (.pick rm2 (.pick rm2 (.pick rm2 (.pick rm2 (.drop (.drop .refl))))))))
    · rintro σ' s7 or4
      refine x2a1 or4 fun ot o13 qz812 => ?_; clear or4; subst qz812
      rintro S7 N
      with_reducible refine wpAny_execs_nil ?_
      with_reducible refine And.intro rfl ?_
      exact St.wk S7 (.drop (.drop (.drop (.drop (.drop .refl)))))
  · rintro r s7 or5
    refine x0a2 or5 fun qz910 S7 => ?_; clear or5; subst qz910
    clear S6 S5 S
    with_reducible refine execs_oneB ?_
    with_reducible refine wpAny_Return_some ?_
    with_reducible refine r_bool ?_
    with_reducible refine Hb.go ‹_› ?_
    with_reducible refine And.intro rfl ?_
    exact h _ ‹_›
end
end
section
open Float64
noncomputable def PlainLex : Prop := ∀ (hues : List Nat) (ts : List (Nat × Nat)) (mans : List Int), hues.length = 3 → (∀ n ∈ hues, n < 256) → ts.length ≤ 5 → (∀ q ∈ ts, q.1 < 4 ∧ q.2 < 4) → mans.length = 3 + ts.length →
  LexRun (hues.map octets ++ ts.map tieW) (textOf (hues.map octets ++ ts.map tieW) mans).cps.toList ∧ (textOf (hues.map octets ++ ts.map tieW) mans).length ≤ 800 ∧
  ((textOf (hues.map octets ++ ts.map tieW) mans).cps.toList.count 10 = (Builtin.Str.occurrences (textOf (hues.map octets ++ ts.map tieW) mans) (Str.ofString "\n") 0 (textOf (hues.map octets ++ ts.map tieW) mans).length ((textOf (hues.map octets ++ ts.map tieW) mans).length + 1)).length)
noncomputable def PlainRows : Prop := ∀ (es : List (Nat × Nat)) (sz : Nat), 1 ≤ sz → sz ≤ 3 → (∀ e ∈ es, e.1 < e.2 ∧ e.2 < 4) → (qrun es sz 121).2 = dueTo es sz (sz ^ 4)
noncomputable def FF (pl : List Nat) (cnt : Nat) (m : Nat) : Str := flagsOf pl (bitsOf cnt m)
noncomputable def PlainWords : Prop := ∀ (pl : List Nat) (es : List (Nat × Nat)) (cnt : Nat), (cnt = 4 ∨ cnt = 5) → pl.length = cnt → pl.Pairwise (· < ·) → (∀ p ∈ pl, p < 20) → es.length = cnt → (∀ e ∈ es, e.1 < e.2 ∧ e.2 < 4) → WordsOk pl es cnt (FF pl cnt)
noncomputable def PlainSum : Prop := ∀ (pl : List Nat) (es : List (Nat × Nat)) (cnt : Nat), (cnt = 4 ∨ cnt = 5) → pl.length = cnt → pl.Pairwise (· < ·) → (∀ p ∈ pl, p < 20) → es.length = cnt → (∀ e ∈ es, e.1 < e.2 ∧ e.2 < 4) →
  (∀ n ∈ kept (FF pl cnt) cnt (ringsTo (FF pl cnt) es cnt (2 ^ cnt)), n ≤ 3) ∧ ∀ sz q, 1 ≤ q → q ≤ sz → sz ≤ 3 → wsum (kept (FF pl cnt) cnt (ringsTo (FF pl cnt) es cnt (2 ^ cnt))) q = (((dueTo es sz (sz ^ 4)).filter (below q)).length : Nat)
theorem due_rows {es : List (Nat × Nat)} {sz : Nat} (h1 : 1 ≤ sz) (h3 : sz ≤ 3) : (dueTo es sz (sz ^ 4)).length ≤ 121 ∧ ∀ r ∈ dueTo es sz (sz ^ 4), 0 < r.length ∧ r.length ≤ 4 ∧ ∀ d ∈ r, d < 3 := by
  refine ⟨Nat.le_trans dueTo_len (Nat.le_trans (Nat.pow_le_pow_left h3 4) (by decide)), fun r hr => ?_⟩
  refine x1a2 (List.mem_map.mp (List.mem_filter.mp hr).1) fun t _ qz012 => ?_; subst qz012
  refine ⟨Nat.zero_lt_succ _, Nat.le_refl _, fun d hd => ?_⟩
  have : ∀ x, x % sz < 3 := fun x => Nat.lt_of_lt_of_le (Nat.mod_lt _ h1) h3
  simp only [rowAt, List.mem_cons, List.not_mem_nil, or_false] at hd
  rcases hd with rfl | rfl | rfl | rfl <;> exact this _
theorem perm3 {τ1 τ2 τ3 ρ : Led} : (τ1 ++ (τ2 ++ (τ3 ++ ρ))).Perm (τ3 ++ (τ2 ++ (τ1 ++ ρ))) := by
  refine (perm_up (τ := τ1) (τ' := τ2)).trans ((List.Perm.append_left τ2 (perm_up (τ := τ1) (τ' := τ3))).trans ?_)
  exact perm_up
theorem perm3' {τ1 τ2 τ3 ρ : Led} : (τ1 ++ (τ2 ++ (τ3 ++ ρ))).Perm (τ2 ++ (τ3 ++ (τ1 ++ ρ))) :=
  (perm_up (τ := τ1) (τ' := τ2)).trans (List.Perm.append_left τ2 (perm_up (τ := τ1) (τ' := τ3)))
section
variable {B : Base} {σ σ' : Led} {s : Shared} {prog : Program} {A : Around} {E : Value → Shared → Prop} {env : Env} {k : Nat} {c1 c2 c3 c4 c5 c6 c7 c8 c9 c10 c11 c12 c13 : Addr}
theorem r_next (a n : Nat) {Q : Flow → Shared → Prop} (h : wpAny (model prog B.w) A (execs ((lawBody.drop a).take n) env) (fun f s' => f = .next ∧ wpAny (model prog B.w) A (execs (lawBody.drop (a + n)) env) Q E s') E s) :
    wpAny (model prog B.w) A (execs (lawBody.drop a) env) Q E s := by
  have e : lawBody.drop a = (lawBody.drop a).take n ++ lawBody.drop (a + n) := by rw [← List.drop_drop, List.take_append_drop]
  rw [e]
  exact r_seg _ h fun s' h' => h'
set_option maxHeartbeats 4000000 in
theorem law_body (pL : PlainLex) (pR : PlainRows) (pW : PlainWords) (pS : PlainSum) {script : List Int} {ls : Addr} {vs : List Value} (hE : EnvOk env lawLn (lawCs c1 c2 c3 c4 c5 c6 c7 c8 c9 c10 c11 c12 c13) lawGn) (hA : Ok A (k + 5))
    (S : St0 B [(env.locals, .ns [("script", some (.ref ls))]), (c1, .cell none), (c2, .cell none), (c3, .cell none), (c4, .cell none), (c5, .cell none), (c6, .cell none), (c7, .cell none), (c8, .cell none), (c9, .cell none), (c10, .cell none), (c11, .cell none), (c12, .cell none), (c13, .cell none), (tabA, .obj (tabObj #[]))] s) (hn : script.length ≤ 63) (hv : B.h.IsList ls vs.toArray) (ha : IntsAre vs script) :
    wpAny (model prog B.w) A (execs lawBody env) (fun f s' => f = .ret (.bool true) ∧ ∃ ps, St B [(tabA, .obj (tabObj ps))] s') E s := by
  show wpAny _ _ (execs (lawBody.drop 0) env) _ _ _
  refine r_next 0 2 (segA_walk (ρ := [(c1, .cell none), (c2, .cell none), (c3, .cell none), (c4, .cell none), (c5, .cell none), (c6, .cell none), (c7, .cell none), (c8, .cell none), (c9, .cell none), (c10, .cell none), (c11, .cell none), (c12, .cell none), (c13, .cell none), (tabA, .obj (tabObj #[]))]) hE hA S hn hv ha fun D s1 S1 => ?_)
  clear S
  have hcs : (cellsOf script).length = 7 := cellsOf_len script
  generalize cellsOf script = cs at *
  refine r_next 2 4 (segB_walk hE hA hcs (St.wk S1 .refl) fun cnt pl sec P s2 hcnt hpl hpw hp20 hsec S2 => ?_)
  clear S1
  refine r_next 6 3 (segC_walk (ρ := [(P, .list (pl.map nMV)), (c1, .cell (some (.ref P))), (c3, .cell none), (c4, .cell none), (c5, .cell none), (c6, .cell none), (c7, .cell none), (c8, .cell none), (c9, .cell none), (c10, .cell none), (c11, .cell none), (c12, .cell none), (c13, .cell none), (tabA, .obj (tabObj #[]))]) (D := D) (P := P) (pl := pl) hE hA hcs hcnt hsec (St.wk S2 (.pick rm1 (.pick rm1 (.pick rm2 .refl)))) fun hues sh va Dr s3 hh hh2 hsh hva S3 => ?_)
  clear S2
  refine r_next 9 1 (segD_walk (ρ := [(Dr, .list (hues.map nMV)), (c2, .cell (some (.int sec))), (P, .list (pl.map nMV)), (c1, .cell (some (.ref P))), (c3, .cell none), (c4, .cell none), (c5, .cell none), (c6, .cell none), (c7, .cell none), (c8, .cell none), (c9, .cell none), (c10, .cell none), (c11, .cell none), (c12, .cell none), (c13, .cell none), (tabA, .obj (tabObj #[]))]) (D := D) (Dr := Dr) (m := []) hE hA hcs hcnt (St.wk S3 (.pick rm1 (.ns rm1 (fc (.inr me3) (fc (.inr me4) (fc (.inr me0) (fc (.inr me1) (fc (.inr me2) fn))))) (nd (by kernel_rfl!)) .refl))) fun qs Ed s4 hq hq2 S4 => ?_)
  clear S3
  have S4a := Wk.st (τ := tupLed qs) (σ' := [(Ed, .list (qs.map fun q => MV.ref q.1)), (D, .list (cs.map MV.int)), (Dr, .list (hues.map nMV)), (env.locals, .ns [("ends", some (.ref Ed)), ("drawn", some (.ref Dr)), ("count", some (.int cnt)), ("cells", some (.ref D)), ("share", some (.float (fl (1 + sh) 4))), ("value", some (.float (fl (1 + va) 4)))]), (c2, .cell (some (.int sec)))] ++ [(P, .list (pl.map nMV)), (c1, .cell (some (.ref P))), (c3, .cell none), (c4, .cell none), (c5, .cell none), (c6, .cell none), (c7, .cell none), (c8, .cell none), (c9, .cell none), (c10, .cell none), (c11, .cell none), (c12, .cell none), (c13, .cell none), (tabA, .obj (tabObj #[]))]) (by simp only [List.cons_append, List.nil_append]; exact .pick rm0 (.pick rm0 (.pick rm1 (.ns rm0 (fc (.inr me0) (fc (.inr me3) (fc (.inr me1) (fc (.inr me2) (fc (.inr me4) (fc (.inr me5) fn)))))) (nd (by kernel_rfl!)) .refl)))) (St.perm S4 (perm_up (τ := tupLed qs) (τ' := [_, _, _])))
  refine r_next 10 2 (segE_walk (ρ := [(P, .list (pl.map nMV)), (c1, .cell (some (.ref P))), (c3, .cell none), (c4, .cell none), (c5, .cell none), (c6, .cell none), (c7, .cell none), (c8, .cell none), (c9, .cell none), (c10, .cell none), (c11, .cell none), (c12, .cell none), (c13, .cell none), (tabA, .obj (tabObj #[]))]) (D := D) (Dr := Dr) (Ed := Ed) hE hA hcs hcnt hsec hh hh2 hq hq2 (St.perm S4a (perm_up (τ := [_, _, _, _, _]) (τ' := tupLed qs))) fun mans Wd Md s5 hm S5 => ?_)
  clear S4 S4a
  have S5a := Wk.st (τ := tupLed qs) (σ' := [(tabA, .obj (tabObj #[])), (Md, .list (mans.map MV.int)), (Wd, .list ((hues.map octets ++ qs.map fun q => tieW q.2).map MV.str)), (Ed, .list (qs.map fun q => MV.ref q.1)), (Dr, .list (hues.map nMV)), (env.locals, .ns [("manners", some (.ref Md)), ("words", some (.ref Wd)), ("ends", some (.ref Ed)), ("drawn", some (.ref Dr)), ("count", some (.int cnt)), ("share", some (.float (fl (1 + sh) 4))), ("value", some (.float (fl (1 + va) 4)))]), (c3, .cell none)] ++ [(P, .list (pl.map nMV)), (c1, .cell (some (.ref P))), (c4, .cell none), (c5, .cell none), (c6, .cell none), (c7, .cell none), (c8, .cell none), (c9, .cell none), (c10, .cell none), (c11, .cell none), (c12, .cell none), (c13, .cell none)]) (by simp only [List.cons_append, List.nil_append]; exact .pick (.there (.there (.there (.there (.there (.there (.there (.there (.there (.there (rm8))))))))))) (.pick rm0 (.pick rm0 (.pick rm0 (.pick rm0 (.pick rm0 (.pick rm2 .refl))))))) (St.perm S5 (perm_up (τ := tupLed qs) (τ' := [_, _, _, _, _])))
  have hwl : (hues.map octets ++ qs.map fun q => tieW q.2).length = 3 + cnt := by simp [hh, hq]
  have hw2 : ∀ w ∈ (hues.map octets ++ qs.map fun q => tieW q.2), w.length ≤ 2 := by
    intro w hw
    rcases List.mem_append.mp hw with hw | hw
    · refine x1a2 (List.mem_map.mp hw) fun n _ qz112 => ?_; subst qz112; exact octets_len
    · refine x1a2 (List.mem_map.mp hw) fun q _ qz212 => ?_; subst qz212; exact Nat.le_refl 2
  have hts : (qs.map fun q => tieW q.2) = (qs.map (·.2)).map tieW := by rw [List.map_map]; rfl
  obtain ⟨hlex, htl, htc⟩ := pL hues (qs.map (·.2)) mans hh hh2 (by simp [hq]; lia) (fun q hq' => by
    refine x1a2 (List.mem_map.mp hq') fun q' h1 qz312 => ?_; subst qz312
    exact ⟨(hq2 q' h1).1, (hq2 q' h1).2.1⟩) (by simp [hm, hq])
  rw [← hts] at hlex htl htc
  refine r_next 12 2 (segF_walk (ρ := [(P, .list (pl.map nMV)), (c1, .cell (some (.ref P))), (c4, .cell none), (c5, .cell none), (c6, .cell none), (c7, .cell none), (c8, .cell none), (c9, .cell none), (c10, .cell none), (c11, .cell none), (c12, .cell none), (c13, .cell none)]) (Dr := Dr) (Ed := Ed) (Wd := Wd) (Md := Md) hE hA hcnt hwl hw2 hm ?_ (St.perm S5a (perm_up (τ := [_, _, _, _, _, _, _]) (τ' := tupLed qs))) fun a ps s6 hL S6 => ?_)
  · intro p hp
    simp only [List.mem_cons, List.not_mem_nil, or_false] at hp
    rcases hp with rfl | rfl | rfl | rfl | rfl | rfl | rfl | rfl | rfl | rfl | rfl | rfl <;> first | rfl | (show (pl.map nMV).all _ = true; simp [MV.tupless])
  clear S5 S5a
  have hT : ((1 + ((textOf (hues.map octets ++ qs.map fun q => tieW q.2) mans).cps.toList.count 10 : Nat)) : Int) = 1 + ((Builtin.Str.occurrences (textOf (hues.map octets ++ qs.map fun q => tieW q.2) mans) (Str.ofString "\n") 0 (textOf (hues.map octets ++ qs.map fun q => tieW q.2) mans).length ((textOf (hues.map octets ++ qs.map fun q => tieW q.2) mans).length + 1)).length : Int) := by rw [htc]
  generalize hws : (hues.map octets ++ qs.map fun q => tieW q.2) = ws at *
  generalize hTT : ((1 + ((textOf ws mans).cps.toList.count 10 : Nat)) : Int) = T at *
  refine x1a1 (⟨_, rfl⟩ : ∃ t4 : Led, t4 = [(P, .list (pl.map nMV)), (c1, .cell (some (.ref P))), (c4, .cell none), (c5, .cell none), (c6, .cell none), (c7, .cell none), (c8, .cell none), (c9, .cell none), (c10, .cell none), (c11, .cell none), (c12, .cell none), (c13, .cell none)]) fun t4 ht4 => ?_
  rw [← ht4] at S6
  have S6a := Wk.st (τ := lexLed a T (textOf ws mans).cps.toList []) (σ' := (Wd, .list (ws.map MV.str)) :: (env.locals, .ns [("text", some (.str (textOf ws mans))), ("words", some (.ref Wd)), ("ends", some (.ref Ed)), ("drawn", some (.ref Dr)), ("count", some (.int cnt)), ("share", some (.float (fl (1 + sh) 4))), ("value", some (.float (fl (1 + va) 4)))]) :: (c3, .cell (some (.ref a.x))) :: (Ed, .list (qs.map fun q => MV.ref q.1)) :: (Dr, .list (hues.map nMV)) :: (tabA, .obj (tabObj ps)) :: (tupLed qs ++ t4)) (.pick rm0 (.pick rm2 (.pick rm2 .refl))) S6
  refine r_next 14 2 (segG_walk (a := a) (T := T) (m := []) (Wd := Wd) (Dr := Dr) (Ed := Ed) (ρ := (Ed, .list (qs.map fun q => MV.ref q.1)) :: (Dr, .list (hues.map nMV)) :: (tabA, .obj (tabObj ps)) :: (tupLed qs ++ t4)) hE hA hL (by rw [hwl]; lia) hlex htl hT S6a fun Hd s7 S7 => ?_)
  clear S6 S6a
  have S7a := St.wk (σ' := (Hd, .list (ws.map MV.str)) :: (Dr, .list (hues.map nMV)) :: (env.locals, .ns [("heard", some (.ref Hd)), ("ends", some (.ref Ed)), ("drawn", some (.ref Dr)), ("count", some (.int cnt)), ("share", some (.float (fl (1 + sh) 4))), ("value", some (.float (fl (1 + va) 4)))]) :: ((c3, .cell (some (.ref a.x))) :: (Ed, .list (qs.map fun q => MV.ref q.1)) :: (tabA, .obj (tabObj ps)) :: (lexLed a T [] [] ++ (tupLed qs ++ t4)))) (St.perm S7 (perm_up (τ := [_, _, _, _, _, _]) (τ' := lexLed a T [] []) (ρ := tupLed qs ++ t4))) (by simp only [List.cons_append, List.nil_append]; exact .pick rm0 (.pick rm3 .refl))
  rw [← hws] at S7a
  refine r_next 16 2 (segH_walk (Hd := Hd) (Dr := Dr) (Ed := Ed) (tw := qs.map fun q => tieW q.2) (ρ := (c3, .cell (some (.ref a.x))) :: (Ed, .list (qs.map fun q => MV.ref q.1)) :: (tabA, .obj (tabObj ps)) :: (lexLed a T [] [] ++ (tupLed qs ++ t4))) hE hA hh hh2 hsh hva ?_ S7a fun cols Cd s8 hc1 hc3 S8 => ?_)
  · intro p hp
    simp only [List.mem_cons, List.mem_append, lexLed, List.map_nil, List.not_mem_nil, or_false] at hp
    have hP : (pl.map nMV).all MV.tupless = true := by simp [MV.tupless]
    have hEd : (qs.map fun q => MV.ref q.1).all MV.tupless = true := by simp [MV.tupless]
    rcases hp with rfl | rfl | rfl | hp | hp | hp
    · rfl
    · exact hEd
    · rfl
    · rcases hp with rfl | rfl | rfl | rfl | rfl | rfl | rfl | rfl | rfl <;> rfl
    · refine x1a2 (List.mem_map.mp hp) fun q _ qz512 => ?_; subst qz512
      rfl
    · rw [ht4] at hp
      simp only [List.mem_cons, List.not_mem_nil, or_false] at hp
      rcases hp with rfl | rfl | rfl | rfl | rfl | rfl | rfl | rfl | rfl | rfl | rfl | rfl <;> first | rfl | exact hP
  clear S7 S7a
  have S8a : St B (tupLed qs ++ (lexLed a T [] [] ++ ((Cd, .list (cols.map MV.int)) :: (env.locals, .ns [("colours", some (.ref Cd)), ("ends", some (.ref Ed)), ("count", some (.int cnt))]) :: (c3, .cell (some (.ref a.x))) :: (Ed, .list (qs.map fun q => MV.ref q.1)) :: (tabA, .obj (tabObj ps)) :: t4))) s8 := St.perm S8 (perm3 (τ1 := tupLed qs) (τ2 := lexLed a T [] []) (τ3 := [_, _, _, _, _]) (ρ := t4))
  rw [ht4, ← List.append_assoc] at S8a
  refine x1a1 (⟨_, rfl⟩ : ∃ t : Led, t = ((c3, .cell (some (.ref a.x))) :: (tabA, .obj (tabObj ps)) :: (P, .list (pl.map nMV)) :: (c1, .cell (some (.ref P))) :: (c4, .cell none) :: (c7, .cell none) :: (c8, .cell none) :: (c9, .cell none) :: (c10, .cell none) :: (c11, .cell none) :: (c12, .cell none) :: (c13, .cell none) :: [])) fun tI htI => ?_
  have S8b := Wk.st (τ := tupLed qs ++ lexLed a T [] []) (σ' := (Cd, .list (cols.map MV.int)) :: (Ed, .list (qs.map fun q => MV.ref q.1)) :: (env.locals, .ns [("colours", some (.ref Cd)), ("ends", some (.ref Ed)), ("count", some (.int cnt))]) :: (c5, .cell none) :: (c6, .cell none) :: tI) (by rw [htI]; exact .pick rm0 (.pick rm2 (.pick rm0 (.pick rm5 (.pick rm5 .refl))))) S8a
  rw [List.append_assoc] at S8b
  have S8c := St.perm S8b (perm3' (τ1 := [_, _, _, _, _]) (τ2 := tupLed qs) (τ3 := lexLed a T [] []) (ρ := tI))
  refine r_next 18 2 (segI_walk (Cd := Cd) (Ed := Ed) (cnt := cnt) (cols := cols) (qs := qs) (ρ := lexLed a T [] [] ++ tI) hE hA hc3 (by lia) S8c fun Td s9 S9 => ?_)
  clear S8 S8a S8b S8c
  have S9a : St B (lexLed a T [] [] ++ ((Td, .list ((qs.map tieE).map tieMV)) :: (env.locals, .ns [("count", some (.int cnt))]) :: (c5, .cell (some (.int cols.length))) :: (c6, .cell (some (.ref Td))) :: tI)) s9 := St.perm (St.drop S9 (List.Sublist.append_left (List.sublist_append_right (tupLed qs) (lexLed a T [] [] ++ tI)) [_, _, _, _])) (perm_up (τ := lexLed a T [] []) (τ' := [_, _, _, _]) (ρ := tI))
  refine x1a1 (⟨_, rfl⟩ : ∃ t : Led, t = ((Td, .list ((qs.map tieE).map tieMV)) :: (c6, .cell (some (.ref Td))) :: (tabA, .obj (tabObj ps)) :: (P, .list (pl.map nMV)) :: (c1, .cell (some (.ref P))) :: (c7, .cell none) :: (c8, .cell none) :: (c9, .cell none) :: (c10, .cell none) :: (c11, .cell none) :: (c12, .cell none) :: (c13, .cell none) :: [])) fun tJ htJ => ?_
  have S9b := Wk.st (τ := lexLed a T [] []) (σ' := (env.locals, .ns [("count", some (.int cnt))]) :: (c3, .cell (some (.ref a.x))) :: (c4, .cell none) :: (c5, .cell (some (.int cols.length))) :: tJ) (by rw [htI, htJ]; exact .pick rm1 (.pick rm3 (.pick rm6 (.pick rm1 .refl)))) S9a
  refine r_next 20 2 (segJ_walk (a := a) (T := T) (sz := cols.length) (cnt := cnt) (ρ := tJ) hE hA hc1 hc3 S9b fun o4 Rd s10 S10 => ?_)
  clear S9 S9a S9b
  refine x1a1 (⟨_, rfl⟩ : ∃ es, qs.map tieE = es) fun es hes => ?_
  rw [hes] at htJ
  refine x1a1 (⟨_, rfl⟩ : ∃ t : Led, t = ((tabA, .obj (tabObj ps)) :: (P, .list (pl.map nMV)) :: (c1, .cell (some (.ref P))) :: (c9, .cell none) :: (c10, .cell none) :: (c11, .cell none) :: (c12, .cell none) :: (c13, .cell none) :: [])) fun tK htK => ?_
  have hesl : es.length = cnt := by rw [← hes, List.length_map, hq]
  have hes2 : ∀ e ∈ es, e.1 < e.2 ∧ e.2 < 4 := by
    intro e he
    rw [← hes] at he
    refine x1a2 (List.mem_map.mp he) fun q hq' qz1012 => ?_; subst qz1012
    have := hq2 q hq'
    unfold tieE
    dsimp only
    lia
  have S10a := Wk.st (τ := lexLed a T [] ((List.range cols.length).map fun d => dS [d])) (σ' := kFr env c3 c4 c5 c6 c7 c8 Rd Td a.x cnt cols.length es [] none o4 none none ++ tK) (by simp only [kFr, List.map_nil, List.cons_append, List.nil_append]; rw [htJ, htK]; exact .pick rm0 (.ns rm0 (fc (.inl rfl) (fc (.inr me0) (fc (.inr me1) fn))) (nd (by kernel_rfl!)) (.pick rm0 (.pick rm0 (.pick rm0 (.pick rm1 (.pick rm4 (.pick rm4 .refl)))))))) S10
  refine r_next 22 1 (segK_walk (a := a) (T := T) (Rd := Rd) (Td := Td) (es := es) (ρ := tK) hE hA hc1 hc3 (by lia) hes2 hL (St.perm S10a (perm_up (τ := kFr env c3 c4 c5 c6 c7 c8 Rd Td a.x cnt cols.length es [] none o4 none none) (τ' := lexLed a T [] ((List.range cols.length).map fun d => dS [d])) (ρ := tK))) fun o4' o7 o8 q s11 S11 => ?_)
  clear S10 S10a
  rw [pR es cols.length hc1 hc3 hes2] at S11
  have S11a : St B (kFr env c3 c4 c5 c6 c7 c8 Rd Td a.x cnt cols.length es (dueTo es cols.length (cols.length ^ 4)) none o4' o7 o8 ++ tK) s11 := St.drop S11 (List.Sublist.append_left (List.sublist_append_right (lexLed a T [] q) tK) _)
  simp only [kFr, List.cons_append, List.nil_append] at S11a
  generalize hsz : cols.length = sz at *
  refine x1a1 (⟨_, rfl⟩ : ∃ t : Led, t = ((Rd, .list ((dueTo es sz (sz ^ 4)).map fun r => MV.str (dS r))) :: (tabA, .obj (tabObj ps)) :: (P, .list (pl.map nMV)) :: (c1, .cell (some (.ref P))) :: (c10, .cell none) :: (c11, .cell none) :: (c12, .cell none) :: (c13, .cell none) :: [])) fun tL htL => ?_
  have S11b := St.wk (σ' := (env.locals, .ns [("rows", some (.ref Rd)), ("count", some (.int cnt))]) :: (c5, .cell (some (.int sz))) :: (c6, .cell (some (.ref Td))) :: (c7, .cell o7) :: (c9, .cell none) :: (Td, .list (es.map tieMV)) :: tL) S11a (by rw [htL, htK]; exact .ns rm1 (fc (.inr me1) (fc (.inr me2) fn)) (nd (by kernel_rfl!)) (.pick rm3 (.pick rm3 (.pick rm3 (.pick rm8 (.pick rm4 (.pick rm0 (.pick rm3 (.pick rm3 (.pick rm3 (.pick rm3 (.pick rm3 (.pick rm3 (.pick rm3 (.drop (.drop (.drop .refl)))))))))))))))))
  refine r_next 23 2 (segL_walk (Rd := Rd) (Td := Td) (es := es) (ρ := tL) hE hA hc1 hc3 (by lia) hes2 S11b fun Dd o7' o9 s12 S12 => ?_)
  clear S11 S11a S11b
  refine x1a1 (⟨_, rfl⟩ : ∃ t : Led, t = ((c5, .cell (some (.int sz))) :: (c6, .cell (some (.ref Td))) :: (Td, .list (es.map tieMV)) :: (tabA, .obj (tabObj ps)) :: (P, .list (pl.map nMV)) :: (c1, .cell (some (.ref P))) :: (c11, .cell none) :: (c12, .cell none) :: (c13, .cell none) :: [])) fun tM htM => ?_
  have S12a := St.wk (σ' := (Dd, .list ((dueTo es sz (sz ^ 4)).map fun r => MV.str (dS r))) :: (Rd, .list ((dueTo es sz (sz ^ 4)).map fun r => MV.str (dS r))) :: (env.locals, .ns [("due", some (.ref Dd)), ("rows", some (.ref Rd)), ("count", some (.int cnt))]) :: (c10, .cell none) :: tM) S12 (by rw [htL, htM]; exact .pick rm0 (.pick rm6 (.pick rm0 (.pick rm8 (.pick rm0 (.pick rm0 (.pick rm2 (.pick rm2 (.pick rm2 (.pick rm2 (.pick rm2 (.pick rm2 (.pick rm2 (.drop (.drop .refl)))))))))))))))
  refine r_next 25 4 (segM_walk (Rd := Rd) (Dd := Dd) (rows := dueTo es sz (sz ^ 4)) (ρ := tM) hE hA S12a fun Cd' Gd Kd s13 S13 => ?_)
  clear S12 S12a
  have hW := pW pl es cnt hcnt hpl hpw hp20 hesl hes2
  refine x0a2 (pS pl es cnt hcnt hpl hpw hp20 hesl hes2) fun hS1 hS2 => ?_
  refine x1a1 (⟨_, rfl⟩ : ∃ t : Led, t = ((c5, .cell (some (.int sz))) :: (c13, .cell none) :: (tabA, .obj (tabObj ps)) :: [])) fun tN htN => ?_
  have S13a := St.wk (σ' := nFr env Cd' Gd Kd Rd Td P c1 c6 c10 c11 c12 (FF pl cnt) cnt pl es (dueTo es sz (sz ^ 4)) [] 0 [] none none ++ tN) S13 (by simp only [nFr, List.range_zero, List.map_nil, List.cons_append, List.nil_append]; rw [htM, htN]; exact .pick rm2 (.pick rm2 (.pick rm2 (.pick rm2 (.pick rm0 (.pick rm6 (.pick rm5 (.pick rm2 (.pick rm2 (.pick rm0 (.pick rm2 (.pick rm2 (.pick rm0 (.pick rm1 .refl))))))))))))))
  refine r_next 29 1 (segN_walk (ρ := tN) hE hA hcnt hpl hp20 hesl hW S13a fun o11 o12 s14 S14 => ?_)
  clear S13 S13a
  have hR32 : (ringsTo (FF pl cnt) es cnt (2 ^ cnt)).length ≤ 32 := Nat.le_trans (ringsTo_len _) (by rcases hcnt with rfl | rfl <;> decide)
  refine r_next 30 2 (segO_walk (ρ := tN) hE hA hcnt hW hR32 hS1 S14 fun Qd s15 S15 => ?_)
  clear S14
  refine x0a2 (due_rows (es := es) hc1 hc3) fun hr1 hr2 => ?_
  refine segP_walk (Qd := Qd) (Rd := Rd) (ρ := [(tabA, .obj (tabObj ps))]) hE hA hc1 hc3 hS1 (kept_le (by lia)).1 hr1 hr2 (fun q h1 h2 => hS2 sz q h1 h2 hc3) (St.wk S15 (by rw [htN]; exact .refl)) fun s16 S16 => ⟨ps, S16⟩
end
end
section
open Float64
section
variable {B : Base} {σ : Led} {s : Shared} {prog : Program} {A : Around} {k : Nat}
theorem St0.wk {σ σ' : Led} (S : St0 B σ s) (w : Wk σ' σ) : St0 B σ' s := fun k hk => St.wk (S k hk) w
theorem law_call (pL : PlainLex) (pR : PlainRows) (pW : PlainWords) (pS : PlainSum) {fa : Addr} {o : Obj} {pm cd doc : Value} {script : List Int} {ls : Addr} {vs : List Value} {R : Result → Shared → Prop} (S0 : St0 B [(tabA, .obj (tabObj #[]))] s) (hA : Ok A (k + 6))
    (ho : s.heap.get? fa = some o) (hdata : o.data = .func (Calls.docDef "law" lawParams lawBody lawScope pm cd doc)) (hcd : s.heap.CodeRec cd "law") (hn : script.length ≤ 63) (hv : B.h.IsList ls vs.toArray) (ha : IntsAre vs script)
    (h : ∀ ps s', St B [(tabA, .obj (tabObj ps))] s' → R (.ok (.ret (.bool true))) s') : codeAny (model prog B.w) A (.call (.ref fa) ⟨[.ref ls], []⟩) R s := by
  refine' r_callCells0 (ln := lawLn) (gn := lawGn) (cn := ["most", "touched", "mask", "broken", "t", "spot", "row", "ties", "size", "sign", "line", "second", "places"]) (mvs := [.ref ls]) (ns := [("script", some (.ref ls)), ("cells", none), ("count", none), ("k", none), ("drawn", none), ("share", none), ("value", none), ("ends", none), ("hue", none), ("words", none), ("manners", none), ("word", none), ("text", none), ("heard", none), ("colours", none), ("number", none), ("red", none), ("green", none), ("blue", none), ("told", none), ("rows", none), ("turn", none), ("due", none), ("choices", none), ("rings", none), ("chosen", none), ("flags", none), ("held", none), ("odd", none), ("kept", none), ("total", none)]) S0 hA ho hdata hcd (.cons rfl .nil) ?f2 ?f3 ?f4 ?f5 ?_
  case f2 => kernel_rfl!
  case f3 => exact all1 fun _ => rfl
  case f4 => exact ⟨rfl, by decide +kernel, by decide +kernel, by decide +kernel, by decide +kernel, by decide +kernel, by decide +kernel, rfl, rfl⟩
  case f5 => exact ⟨rfl, by decide +kernel, by decide +kernel, by decide +kernel⟩
  intro env as s2 has hE he S2 hs2 hA2
  obtain ⟨c1, c2, c3, c4, c5, c6, c7, c8, c9, c10, c11, c12, c13, rfl⟩ : ∃ c1 c2 c3 c4 c5 c6 c7 c8 c9 c10 c11 c12 c13, as = [c13, c12, c11, c10, c9, c8, c7, c6, c5, c4, c3, c2, c1] := by
    rcases ex_list 13 as has with ⟨_, q⟩ | ⟨f, hf⟩
    · cases q
    · exact ⟨f 12, f 11, f 10, f 9, f 8, f 7, f 6, f 5, f 4, f 3, f 2, f 1, f 0, hf⟩
  simp only [cellLed, List.map_cons, List.map_nil, List.cons_append, List.nil_append, List.zip_cons_cons, List.zip_nil_right] at S2 hE
  have S3 : St0 B [(env.locals, .ns [("script", some (.ref ls))]), (c1, .cell none), (c2, .cell none), (c3, .cell none), (c4, .cell none), (c5, .cell none), (c6, .cell none), (c7, .cell none), (c8, .cell none), (c9, .cell none), (c10, .cell none), (c11, .cell none), (c12, .cell none), (c13, .cell none), (tabA, .obj (tabObj #[]))] s2 := St0.wk S2 (.ns rm0 (fc (.inr me0) fn) (nd (by kernel_rfl!)) (.pick (.there (.there (.there (.there (rm8))))) (.pick (.there (.there (.there (rm8)))) (.pick (.there (.there (rm8))) (.pick (.there (rm8)) (.pick rm8 (.pick rm7 (.pick rm6 (.pick rm5 (.pick rm4 (.pick rm3 (.pick rm2 (.pick rm1 .refl)))))))))))))
  refine wpAny_mono (law_body pL pR pW pS hE hA2 S3 hn hv ha) (fun f s' hf => ?_) fun _ _ x => x
  refine x0a2 hf fun qz010 oz01 => ?_; clear hf; subst qz010; refine x1a1 oz01 fun ps S' => ?_; clear oz01
  exact h ps s' S'
end
theorem law_top (pL : PlainLex) (pR : PlainRows) (pW : PlainWords) (pS : PlainSum) : PySem.Challenge.rw_ty0023_01.Holds := by
  refine hd ?_
  intro w s₀ s₁ mg mb G Y fa o pm cd doc dV kV ho hd' hcd hD hmg hg args vals as hpre hlay hrd hwl hlo
  refine x0a2 Y fun KX h94 => ?_; clear Y
  refine Ground.open G ?_
  intro T B0 D TE TW
  have h94 := h94 94 (.head _)
  wrow_args hpre hlay hrd hwl hlo
  rename_i script hs1 hs2 hs3 hs4 hs5 a1 a2 ls vs a3 hL ra w1 r0 hI hr hc1 hc2
  clear hmg
  obtain rfl : dV = .none := hD.none rfl
  obtain rfl : kV = .none := hD.kw.elim (·.2) fun q => absurd rfl q.1
  have hT : TabsAt [(98, 94)] s₁.heap := by
    intro q hq
    obtain rfl := List.mem_singleton.mp hq
    exact ⟨codeHd_of_K (c := 98) (P := 94) KX (by kernel_rfl), h94⟩
  have hGP : mainGlobals ≠ 94 := by decide
  refine x2a6 T.bmain fun bm ob b1 b2 b3 b4 b5 b6 => ?_
  have hbP : bm ≠ 94 := fun q => by
    rw [q, h94] at b3; cases b3; cases b4
  have hbG : bm ≠ mainGlobals := fun q => by
    refine x3a3 T.g fun o es ep e hdd _ => ?_
    rw [q, e] at b3; cases b3; rw [hdd] at b6; cases b6
  have hbm : (ghostOf s₁.heap [(98, 94)]).get? bm = some ob := ghost_get hT b3 (fun q => by rw [q] at b4; cases b4)
  have KG : (KK w.params).In (ghostOf s₁.heap [(98, 94)]) := ghost_K hT KX (by kernel_rfl)
  have TT := ghost_top hT T
  have hhid : (ghostOf s₁.heap [(98, 94)]).get? tabA = none := hideAll_none _ (.head _)
  refine enter_call (kn_post hT (fun _ _ => rfl) ?_)
  refine law_call (k := 0) (B := { w := w, h := ghostOf s₁.heap [(98, 94)], gens := s₁.gens, drawn := s₁.drawn, os := s₁.os, mg := mg, mb := mb, KX := KG, g := TT.g, b := TT.b, blt := T.builtins, nl := TT.nolimit, hid := hhid, bm := ⟨bm, ob, b1, b2, hbG, hbP, hbm, b4, b5, b6⟩ }) pL pR pW pS ?_ ⟨by decide, by decide, rfl⟩ ho hd' hcd (by omega) ?_ hI ?_
  · intro k hk
    refine ⟨fun b o e _ => of_hideAll _ e, fun p hp => ?_, fun p hp => ?_, by simp, rfl, rfl, rfl, Nat.lt_of_le_of_lt (Nat.zero_le _) hk⟩
    · rw [List.mem_singleton.mp hp]
      exact ⟨h94, fun e => nomatch e⟩
    · rw [List.mem_singleton.mp hp]
      exact hhid
  · exact ghost_list hT hL
  · intro ps s' S'
    refine ⟨⟨.inl ⟨.bool true, .bool true, [], rfl, fun _ => rfl, .bool true, ?_, fun _ => ⟨List.nodup_nil, fun a ha => nomatch ha⟩⟩, fun b o e => S'.old b o e (fun q => by rw [q] at e; rw [hhid] at e; cases e), S'.os, S'.gens.trans hg⟩, ⟨ps, ?_⟩, trivial⟩
    · show WTm.holds _ (.eq .res (.lit (.bool true))) _ = true
      simp [WTm.holds, WTm.value, same]
    · exact (S'.at (o := .obj _) (.head _)).1
end
section
theorem fm_isEmpty {α β : Type} (f : α → Option β) : ∀ l : List α, (l.filterMap f).isEmpty = l.all fun a => (f a).isNone
  | [] => rfl
  | a :: l => by
    rw [List.filterMap_cons, List.all_cons, ← fm_isEmpty f l]
    cases f a <;> simp
noncomputable def E6 : List (Nat × Nat) := [(0, 1), (0, 2), (1, 2), (0, 3), (1, 3), (2, 3)]
theorem mem_E6 {e : Nat × Nat} (h : e.1 < e.2 ∧ e.2 < 4) : e ∈ E6 := by
  obtain ⟨a, b⟩ := e
  have : ∀ b, b < 4 → ∀ a, a < b → (a, b) ∈ E6 := by decide
  exact this b h.2 a h.1
/-- the ties that a list of ties holds, each once and in one order -/
noncomputable def norm (es : List (Nat × Nat)) : List (Nat × Nat) := E6.filter fun e => es.contains e
theorem all_norm {es : List (Nat × Nat)} (h : ∀ e ∈ es, e.1 < e.2 ∧ e.2 < 4) (f : Nat × Nat → Bool) : es.all f = (norm es).all f := by
  rw [Bool.eq_iff_iff, List.all_eq_true, List.all_eq_true]
  constructor
  · intro q e he
    have := (List.mem_filter.mp he).2
    exact q e (by simpa using this)
  · intro q e he
    exact q e (List.mem_filter.mpr ⟨mem_E6 (h e he), by simpa using he⟩)
theorem qok_norm {es : List (Nat × Nat)} (h : ∀ e ∈ es, e.1 < e.2 ∧ e.2 < 4) (r : List Nat) (d : Nat) : qok es r d = qok (norm es) r d := by
  unfold qok; rw [fm_isEmpty, fm_isEmpty, all_norm h]
theorem dok_norm {es : List (Nat × Nat)} (h : ∀ e ∈ es, e.1 < e.2 ∧ e.2 < 4) (r : List Nat) : dok es r = dok (norm es) r := by
  unfold dok; rw [fm_isEmpty, fm_isEmpty, all_norm h]
theorem qrun_norm {es : List (Nat × Nat)} (h : ∀ e ∈ es, e.1 < e.2 ∧ e.2 < 4) (sz : Nat) : ∀ n, qrun es sz n = qrun (norm es) sz n
  | 0 => rfl
  | n + 1 => by
    unfold qrun
    rw [qrun_norm h sz n]
    cases qrun (norm es) sz n with | mk q rows =>
    cases q with
    | nil => rfl
    | cons r q =>
      have e1 : qok es r = qok (norm es) r := funext (qok_norm h r)
      have e2 : qext es sz r = qext (norm es) sz r := by unfold qext; rw [e1]
      show (if r.length = 4 then (q, rows ++ [r]) else (q ++ qext es sz r, rows)) = if r.length = 4 then (q, rows ++ [r]) else (q ++ qext (norm es) sz r, rows)
      rw [e2]
theorem dueTo_norm {es : List (Nat × Nat)} (h : ∀ e ∈ es, e.1 < e.2 ∧ e.2 < 4) (sz n : Nat) : dueTo es sz n = dueTo (norm es) sz n := by
  unfold dueTo
  have : dok es = dok (norm es) := funext (dok_norm h)
  rw [this]
noncomputable def sub6 (b1 b2 b3 b4 b5 b6 : Bool) : List (Nat × Nat) :=
  (if b1 then [(0, 1)] else []) ++ ((if b2 then [(0, 2)] else []) ++ ((if b3 then [(1, 2)] else []) ++ ((if b4 then [(0, 3)] else []) ++ ((if b5 then [(1, 3)] else []) ++ (if b6 then [(2, 3)] else [])))))
theorem norm_sub (es : List (Nat × Nat)) : norm es = sub6 (es.contains (0, 1)) (es.contains (0, 2)) (es.contains (1, 2)) (es.contains (0, 3)) (es.contains (1, 3)) (es.contains (2, 3)) := by
  unfold norm E6 sub6
  simp only [List.filter_cons, List.filter_nil]
  repeat' split
  all_goals rfl
noncomputable def rowsOk (es : List (Nat × Nat)) (sz : Nat) : Bool := decide ((qrun es sz 121).2 = dueTo es sz (sz ^ 4))
theorem rows_all (sz : Nat) (h1 : 1 ≤ sz) (h3 : sz ≤ 3) : ∀ b1 b2 b3 b4 b5 b6, rowsOk (sub6 b1 b2 b3 b4 b5 b6) sz = true := by
  have : sz = 1 ∨ sz = 2 ∨ sz = 3 := by lia
  rcases this with rfl | rfl | rfl
  · decide +kernel
  · decide +kernel
  · decide +kernel
theorem plain_rows : PlainRows := by
  intro es sz h1 h3 h
  rw [qrun_norm h, dueTo_norm h, norm_sub]
  exact of_decide_eq_true (rows_all sz h1 h3 _ _ _ _ _ _)
end
section
section
open Builtin.Str StrLaws
noncomputable abbrev L (x : Str) : List Nat := x.cps.toList
theorem L_len (x : Str) : (L x).length = x.length := by simp [Str.length]
theorem L_app (x y : Str) : L (x ++ y) = L x ++ L y := by simp only [L, Str.cps_append, Array.toList_append]
theorem L_ext {x y : Str} (h : L x = L y) : x = y := Str.ext' (Array.toList_inj.mp h)
theorem at_iff {x y : Str} {hi i : Nat} : At x y hi i ↔ i + y.length ≤ hi ∧ ((L x).drop i).take y.length = L y := by
  unfold At
  rw [subAt_eq, beq_iff_eq]
theorem at_of_app {x y : Str} {i : Nat} {R : List Nat} (hy : 0 < y.length) (h : (L x).drop i = L y ++ R) : At x y x.length i := by
  rw [at_iff]
  have h1 := congrArg List.length h
  rw [List.length_append, List.length_drop, L_len, L_len] at h1
  refine ⟨by omega, by rw [h, ← L_len y, List.take_left]⟩
theorem at_head {x y : Str} {i hi c0 : Nat} {ys : List Nat} (hy : L y = c0 :: ys) (h : At x y hi i) : (L x)[i]? = some c0 := by
  rw [at_iff] at h
  have h2 := congrArg (fun l : List Nat => l[0]?) h.2
  have hl : 0 < y.length := by rw [← L_len, hy]; simp
  simp only [hy, List.getElem?_cons_zero] at h2
  rw [List.getElem?_take_of_lt hl, List.getElem?_drop] at h2
  simpa using h2
theorem L_join_cons (y p q : Str) (ps : List Str) : L (Str.join y (p :: q :: ps)) = L p ++ (L y ++ L (Str.join y (q :: ps))) := by
  show L (p ++ y ++ Str.join y (q :: ps)) = _
  rw [L_app, L_app, List.append_assoc]
theorem sub_L (x : Str) (a c : Nat) : L (strSub x a c) = ((L x).drop a).take (c - a) := strSub_toList x a c
theorem parts_join {x y : Str} {c0 : Nat} {ys : List Nat} (hy : L y = c0 :: ys) : ∀ (ps : List Str) (a : Nat) (cuts : List Nat) (f : Nat), ps ≠ [] → (∀ p ∈ ps, c0 ∉ L p) → (L x).drop a = L (Str.join y ps) →
    ChainG x y x.length a cuts f → (∀ k, f ≤ k → ¬ At x y x.length k) → partsFrom x y.length a cuts = ps
  | [], _, _, _, h, _, _, _, _ => absurd rfl h
  | [p], a, cuts, f, _, hp, hx, hc, hf => by
    have hx' : (L x).drop a = L p := hx
    cases cuts with
    | nil =>
      show [strSub x a x.length] = [p]
      congr 1
      apply L_ext
      rw [sub_L, hx', List.take_of_length_le]
      have := congrArg List.length hx'
      rw [List.length_drop, L_len] at this
      lia
    | cons c r =>
      exfalso
      have hA := hc.2.1
      have h1 := at_head hy hA
      have h2 : (L p)[c - a]? = some c0 := by
        rw [← hx', List.getElem?_drop, show a + (c - a) = c by have := hc.1; grind]; exact h1
      exact hp p (.head _) (List.mem_of_getElem? h2)
  | p :: q :: ps, a, cuts, f, _, hp, hx, hc, hf => by
    rw [L_join_cons] at hx
    have hyl : 0 < y.length := by rw [← L_len, hy]; simp
    have hx2 : (L x).drop (a + p.length) = L y ++ L (Str.join y (q :: ps)) := by
      rw [← List.drop_drop, hx, ← L_len p, List.drop_left]
    have hAt : At x y x.length (a + p.length) := at_of_app hyl hx2
    cases cuts with
    | nil =>
      exfalso
      have e : f = a := hc
      exact hf (a + p.length) (by lia) hAt
    | cons c r =>
      have hca := hc.1
      have hce : c = a + p.length := by
        rcases Nat.lt_trichotomy c (a + p.length) with hlt | he | hgt
        · exfalso
          have h1 := at_head hy hc.2.1
          have h2 : (L p)[c - a]? = some c0 := by
            have h3 : ((L x).drop a)[c - a]? = some c0 := by rw [List.getElem?_drop, show a + (c - a) = c by grind]; exact h1
            rw [hx, List.getElem?_append_left (by rw [L_len]; lia)] at h3
            exact h3
          exact hp p (.head _) (List.mem_of_getElem? h2)
        · exact he
        · exact absurd hAt (hc.2.2.1 _ (by lia) hgt)
      subst hce
      show strSub x a (a + p.length) :: partsFrom x y.length (a + p.length + y.length) r = _
      congr 1
      · apply L_ext
        rw [sub_L, hx, show a + p.length - a = (L p).length by rw [L_len]; lia, List.take_left]
      · refine parts_join hy (q :: ps) _ r f (by simp) (fun p' h' => hp p' (.tail _ h')) ?_ hc.2.2.2 hf
        rw [← List.drop_drop, hx2, ← L_len y, List.drop_left]
theorem occ_join {y : Str} {c0 : Nat} {ys : List Nat} (hy : L y = c0 :: ys) (ps : List Str) (hne : ps ≠ []) (hp : ∀ p ∈ ps, c0 ∉ L p) :
    partsBetween (Str.join y ps) (occurrences (Str.join y ps) y 0 (Str.join y ps).length ((Str.join y ps).length + 1)) y.length = ps := by
  refine x1a2 (occ_tight (Str.join y ps) y (by rw [← L_len, hy]; simp)) fun f h1 h2 => ?_
  rw [partsBetween_eq]
  exact parts_join hy ps 0 _ f hne hp (by rw [List.drop_zero]) h1 h2
theorem split_join {y : Str} {c0 : Nat} {ys : List Nat} (hy : L y = c0 :: ys) (hk : Builtin.Str.strKind y = 1) (ps : List Str) (hne : ps ≠ []) (hp : ∀ p ∈ ps, c0 ∉ L p) : Txt.split (Txt.join y ps) y = ps := by
  have e : Txt.join y ps = Str.join y ps := glued_eq_join y ps
  rw [e]
  have key := occ_join hy ps hne hp
  have hkx : ∀ x : Str, 1 ≤ Builtin.Str.strKind x := fun x => by unfold Builtin.Str.strKind; split; exact Nat.le_refl _; split <;> lia
  have one : ∀ q, ps = q → Str.join y ps = Str.join y q := fun q e => by rw [e]
  unfold Txt.split
  split
  · rename_i h
    have hlt : (Str.join y ps).length < y.length := by
      rcases Bool.or_eq_true_iff.mp h with h | h
      · exact of_decide_eq_true h
      · have := of_decide_eq_true h
        have := hkx (Str.join y ps)
        lia
    match ps, hne with
    | [p], _ => rfl
    | p :: q :: r, _ =>
      exfalso
      have := congrArg List.length (L_join_cons y p q r)
      rw [List.length_append, List.length_append, L_len, L_len, L_len] at this
      lia
  · split
    · rename_i h
      have he : occurrences (Str.join y ps) y 0 (Str.join y ps).length ((Str.join y ps).length + 1) = [] := List.isEmpty_iff.mp h
      rw [he, partsBetween_eq] at key
      rw [← key]
      show [_] = [strSub _ 0 _]
      rw [sub_whole]
      congr 1
      rw [key]
    · exact key
theorem replace_join {y z : Str} {c0 : Nat} {ys : List Nat} (hy : L y = c0 :: ys) (ps : List Str) (hne : ps ≠ []) (hp : ∀ p ∈ ps, c0 ∉ L p) : Txt.replace (Txt.join y ps) y z = Txt.join z ps := by
  have e : Txt.join y ps = Str.join y ps := glued_eq_join y ps
  rw [e]
  have key := occ_join hy ps hne hp
  unfold Txt.replace
  split
  · rename_i h
    have hyl : 0 < y.length := by rw [← L_len, hy]; simp
    have he : occurrences (Str.join y ps) y 0 (Str.join y ps).length ((Str.join y ps).length + 1) = [] := by
      rcases Bool.or_eq_true_iff.mp h with h | h
      · exact List.isEmpty_iff.mp h
      · have := (Bool.and_eq_true_iff.mp h).1
        have := eq_of_beq this
        omega
    rw [he, partsBetween_eq] at key
    have k2 : [Str.join y ps] = ps := by
      rw [← sub_whole (Str.join y ps)]; exact key
    rw [← k2]
    rfl
  · rw [key]; rfl
end
end
section
section
open Builtin.Str StrLaws
structure GoodW (w : Str) : Prop where
  ne : L w ≠ []
  comma : 44 ∉ L w
  dot : 46 ∉ L w
noncomputable def tk (w : Str) : Str := Str.ofString "," ++ w ++ Str.ofString ","
theorem L_comma : L (Str.ofString ",") = [44] := by decide +kernel
theorem L_dots : L dots = [46, 46, 46] := by decide +kernel
theorem L_tk (w : Str) : L (tk w) = 44 :: (L w ++ [44]) := by
  unfold tk; rw [L_app, L_app, L_comma]; rfl
theorem tk_len (w : Str) : (tk w).length = w.length + 2 := by rw [← L_len, L_tk, ← L_len w]; simp
noncomputable def flatT (ws : List Str) : List Nat := (ws.map fun w => L (tk w)).flatten
theorem flatT_nil : flatT [] = [] := rfl
theorem flatT_cons (w : Str) (ws : List Str) : flatT (w :: ws) = 44 :: (L w ++ (44 :: flatT ws)) := by
  unfold flatT
  rw [List.map_cons, List.flatten_cons, L_tk]
  simp
theorem flatT_app (a b : List Str) : flatT (a ++ b) = flatT a ++ flatT b := by unfold flatT; rw [List.map_append, List.flatten_append]
/-- a word that stands between two commas is found only as a word -/
theorem word_prefix {w w1 : List Nat} (h : 44 ∉ w) (h1 : 44 ∉ w1) : ∀ {R R' : List Nat}, w ++ 44 :: R = w1 ++ 44 :: R' → w = w1 := by
  induction w generalizing w1 with
  | nil =>
    intro R R' e
    cases w1 with
    | nil => rfl
    | cons c w1 => rw [List.nil_append, List.cons_append] at e; injection e with e1 _; exact absurd (e1 ▸ List.mem_cons_self ..) h1
  | cons c w ih =>
    intro R R' e
    cases w1 with
    | nil => rw [List.nil_append, List.cons_append] at e; injection e with e1 _; exact absurd (e1 ▸ List.mem_cons_self ..) h
    | cons d w1 =>
      rw [List.cons_append, List.cons_append] at e
      injection e with e1 e2
      subst e1
      rw [ih (fun q => h (.tail _ q)) (fun q => h1 (.tail _ q)) e2]
theorem at_tok {w : Str} (hw : GoodW w) {x : Str} {post : List Nat} : ∀ (ws : List Str) (pre : List Nat), (∀ v ∈ ws, GoodW v) → L x = pre ++ (flatT ws ++ post) → ∀ i, pre.length ≤ i → At x (tk w) (pre.length + (flatT ws).length) i →
    ∃ ws1 ws2, ws = ws1 ++ w :: ws2 ∧ i = pre.length + (flatT ws1).length
  | [], pre, _, hx, i, hi, hA => by
    exfalso
    rw [at_iff, tk_len] at hA
    rw [flatT_nil, List.length_nil] at hA
    lia
  | v :: ws, pre, hg, hx, i, hi, hA => by
    have hv := hg v (.head _)
    have hx' : L x = (pre ++ L (tk v)) ++ (flatT ws ++ post) := by rw [hx, flatT_cons, L_tk]; simp
    have hl : (flatT (v :: ws)).length = v.length + 2 + (flatT ws).length := by rw [flatT_cons, ← L_len v]; simp; lia
    have hl2 : (pre ++ L (tk v)).length = pre.length + (v.length + 2) := by rw [List.length_append, L_len, tk_len]
    by_cases hge : pre.length + (v.length + 2) ≤ i
    · obtain ⟨ws1, ws2, e1, e2⟩ := at_tok hw ws (pre ++ L (tk v)) (fun u hu => hg u (.tail _ hu)) hx' i (by lia) (by rw [hl2]; rw [hl] at hA; rw [show pre.length + (v.length + 2) + (flatT ws).length = pre.length + (v.length + 2 + (flatT ws).length) by lia]; exact hA)
      refine k2a2 (v :: ws1) ws2 (by rw [e1]; rfl) ?_
      rw [e2, hl2, flatT_cons, ← L_len v]; simp; lia
    · -- inside the first word
      obtain ⟨j, rfl⟩ : ∃ j, i = pre.length + j := ⟨i - pre.length, by grind⟩
      have hA' := at_iff.mp hA
      have hd : (L x).drop (pre.length + j) = (44 :: (L v ++ (44 :: (flatT ws ++ post)))).drop j := by
        rw [hx, ← List.drop_drop, List.drop_left, flatT_cons]
        congr 1
        simp
      have hR : ∃ R, (44 :: (L v ++ (44 :: (flatT ws ++ post)))).drop j = 44 :: (L w ++ 44 :: R) := by
        refine ⟨((L x).drop (pre.length + j)).drop (tk w).length, ?_⟩
        rw [← hd]
        have := (List.take_append_drop (tk w).length ((L x).drop (pre.length + j))).symm
        rw [hA'.2, L_tk] at this
        refine this.trans ?_
        simp
      obtain ⟨R, hR⟩ := hR
      match j with
      | 0 =>
        rw [List.drop_zero] at hR
        injection hR with _ hR
        have := word_prefix hv.comma hw.comma hR
        have e : v = w := L_ext this
        subst e
        exact k2a2 ([]) ws rfl rfl
      | j + 1 =>
        exfalso
        rw [List.drop_succ_cons] at hR
        by_cases hj : j < v.length
        · have h1 := congrArg (fun l : List Nat => l[0]?) hR
          simp only [List.getElem?_drop, List.getElem?_cons_zero, Nat.add_zero] at h1
          rw [List.getElem?_append_left (by rw [L_len]; omega)] at h1
          exact hv.comma (List.mem_of_getElem? h1)
        · have hj' : j = (L v).length := by rw [L_len]; lia
          rw [hj', List.drop_left] at hR
          injection hR with _ hR
          cases ws with
          | nil =>
            have h3 := hA'.1
            rw [hl, tk_len, flatT_nil, List.length_nil] at h3
            have h0 : 0 < w.length := by
              rw [← L_len]; exact List.length_pos_iff.mpr hw.ne
            lia
          | cons u ws =>
            rw [flatT_cons] at hR
            cases hwl : L w with
            | nil => exact hw.ne hwl
            | cons c r =>
              rw [hwl] at hR
              injection hR with h4 _
              exact hw.comma (by rw [hwl, ← h4]; exact .head _)
theorem at_tok' {w : Str} {x : Str} {pre post : List Nat} {ws1 ws2 : List Str} (hx : L x = pre ++ (flatT (ws1 ++ w :: ws2) ++ post)) : At x (tk w) (pre.length + (flatT (ws1 ++ w :: ws2)).length) (pre.length + (flatT ws1).length) := by
  rw [at_iff]
  have hf : flatT (ws1 ++ w :: ws2) = flatT ws1 ++ (L (tk w) ++ flatT ws2) := by rw [flatT_app, flatT_cons, L_tk]; simp
  constructor
  · rw [hf, List.length_append, List.length_append, L_len]; lia
  · rw [hx, hf, ← List.drop_drop, List.drop_left, List.append_assoc, List.drop_left, ← L_len (tk w), List.append_assoc, List.take_left]
theorem find_tok {w : Str} (hw : GoodW w) {x : Str} {pre post : List Nat} {ws : List Str} (hg : ∀ v ∈ ws, GoodW v) (hx : L x = pre ++ (flatT ws ++ post)) :
    (w ∉ ws ∧ find4 x (tk w) pre.length (pre.length + (flatT ws).length) = -1) ∨
    ∃ ws1 ws2, ws = ws1 ++ w :: ws2 ∧ w ∉ ws1 ∧ find4 x (tk w) pre.length (pre.length + (flatT ws).length) = ((pre.length + (flatT ws1).length : Nat) : Int) := by
  have hm : min (pre.length + (flatT ws).length) x.length = pre.length + (flatT ws).length := by
    have := congrArg List.length hx
    rw [L_len, List.length_append, List.length_append] at this
    lia
  have hs := find4_spec x (tk w) pre.length (pre.length + (flatT ws).length)
  rw [hm] at hs
  rcases hs with ⟨h1, h2⟩ | ⟨k, h1, h2, h3, h4⟩
  · refine .inl ⟨fun hmem => ?_, h1⟩
    obtain ⟨a, b, e⟩ := List.append_of_mem hmem
    subst e
    exact h2 _ (by lia) (at_tok' hx)
  · obtain ⟨ws1, ws2, e1, e2⟩ := at_tok hw ws pre hg hx k h2 h3
    refine .inr ⟨ws1, ws2, e1, fun hmem => ?_, by rw [h1, e2]⟩
    obtain ⟨a, b, e⟩ := List.append_of_mem hmem
    subst e
    subst e1
    rw [List.append_assoc, List.cons_append] at hx h4
    refine h4 (pre.length + (flatT a).length) (by lia) ?_ (at_tok' hx)
    rw [e2, flatT_app, flatT_cons]
    simp
end
end
section
section
open Builtin.Str StrLaws
theorem sub_skip {w : Str} {ps ws : List Str} (h : w ≠ p) : (p :: ps).Sublist (w :: ws) ↔ (p :: ps).Sublist ws := by
  constructor
  · intro s
    cases s with
    | cons _ s => exact s
    | cons_cons _ s => exact absurd rfl h
  · intro s; exact s.cons _
theorem sub_skips {p : Str} {ps ws2 : List Str} : ∀ (ws1 : List Str), p ∉ ws1 → ((p :: ps).Sublist (ws1 ++ p :: ws2) ↔ ps.Sublist ws2)
  | [], _ => List.cons_sublist_cons
  | w :: ws1, h => by
    rw [List.cons_append, sub_skip (p := p) (fun e => h (by rw [e]; exact .head _))]
    exact sub_skips ws1 fun q => h (.tail _ q)
theorem find_emp {x : Str} {i j : Nat} (h : i ≤ min j x.length) : find4 x Str.empty i j = (i : Int) := by
  have hA : At x Str.empty (min j x.length) i := by
    rw [at_iff]; exact ⟨h, rfl⟩
  rcases find4_spec x Str.empty i j with ⟨_, h2⟩ | ⟨k, h1, h2, _, h4⟩
  · exact absurd hA (h2 i (Nat.le_refl _))
  · have : k = i := by
      rcases Nat.lt_or_ge i k with q | q
      · exact absurd hA (h4 i (Nat.le_refl _) q)
      · lia
    rw [h1, this]
theorem go_tok {x : Str} {tl : List Str} (htl : tl = [] ∨ tl = [Str.empty]) : ∀ (ps ws : List Str) (pre post : List Nat), (∀ v ∈ ps, GoodW v) → (∀ v ∈ ws, GoodW v) → L x = pre ++ (flatT ws ++ post) →
    (ellGo x (pre.length + (flatT ws).length) pre.length (ps.map tk ++ tl) = true ↔ ps.Sublist ws)
  | [], ws, pre, post, _, _, hx => by
    have hm : pre.length + (flatT ws).length ≤ x.length := by
      have := congrArg List.length hx
      rw [L_len, List.length_append, List.length_append] at this
      lia
    rcases htl with rfl | rfl
    · exact ⟨fun _ => List.nil_sublist _, fun _ => rfl⟩
    · refine ⟨fun _ => List.nil_sublist _, fun _ => ?_⟩
      show (if find4 x Str.empty pre.length (pre.length + (flatT ws).length) < 0 then false else ellGo x _ _ []) = true
      rw [find_emp (by lia), if_neg (by lia)]
      rfl
  | p :: ps, ws, pre, post, hp, hg, hx => by
    show (if find4 x (tk p) pre.length (pre.length + (flatT ws).length) < 0 then false else ellGo x (pre.length + (flatT ws).length) ((find4 x (tk p) pre.length (pre.length + (flatT ws).length)).toNat + (tk p).length) (ps.map tk ++ tl)) = true ↔ _
    rcases find_tok (hp p (.head _)) hg hx with ⟨hno, hf⟩ | ⟨ws1, ws2, e, hno, hf⟩
    · rw [hf, if_pos (by decide)]
      refine ⟨fun q => (by cases q), fun q => ?_⟩
      exact absurd (q.subset (.head _)) hno
    · subst e
      rw [hf, if_neg (by lia), sub_skips ws1 hno, Int.toNat_natCast]
      have hfl : flatT (ws1 ++ p :: ws2) = flatT ws1 ++ (L (tk p) ++ flatT ws2) := by rw [flatT_app, flatT_cons, L_tk]; simp
      have hpre : (pre ++ (flatT ws1 ++ L (tk p))).length = pre.length + (flatT ws1).length + (tk p).length := by
        rw [List.length_append, List.length_append, L_len]; lia
      have hx' : L x = (pre ++ (flatT ws1 ++ L (tk p))) ++ (flatT ws2 ++ post) := by rw [hx, hfl]; simp
      have ih := go_tok htl ps ws2 (pre ++ (flatT ws1 ++ L (tk p))) post (fun v hv => hp v (.tail _ hv)) (fun v hv => hg v (List.mem_append_right _ (.tail _ hv))) hx'
      rw [hpre] at ih
      rw [show pre.length + (flatT (ws1 ++ p :: ws2)).length = pre.length + (flatT ws1).length + (tk p).length + (flatT ws2).length by rw [hfl, List.length_append, List.length_append, L_len]; lia]
      exact ih
theorem dots_kind : Builtin.Str.strKind dots = 1 := by decide +kernel
theorem split_dots (P : List Str) (hne : P ≠ []) (hp : ∀ p ∈ P, 46 ∉ L p) : Txt.split (Txt.join dots P) dots = P := split_join L_dots dots_kind P hne hp
theorem has_dots (p q : Str) (P : List Str) : Txt.contains (Txt.join dots (p :: q :: P)) dots = true := by
  have e : Txt.join dots (p :: q :: P) = Str.join dots (p :: q :: P) := glued_eq_join _ _
  rw [e]
  refine (found_iff _ _).mpr ⟨p.length, at_of_app (y := dots) (R := L (Str.join dots (q :: P))) (by decide +kernel) ?_⟩
  rw [L_join_cons, ← L_len p, List.drop_left]
theorem no_dots {x : Str} (h : 46 ∉ L x) : Txt.contains x dots = false := by
  rw [Bool.eq_false_iff]
  intro q
  refine x1a1 ((found_iff _ _).mp q) fun i hi => ?_
  exact h (List.mem_of_getElem? (at_head L_dots (show At x dots x.length i from hi)))
theorem ell_dots (p q : Str) (P : List Str) (x : Str) (hp : ∀ v ∈ p :: q :: P, 46 ∉ L v) : ellM (Txt.join dots (p :: q :: P)) x = if p.length != 0 then (if Txt.startswith x p then ellEnd x p.length (q :: P) else false) else ellEnd x 0 (p :: q :: P) := by
  unfold ellM
  rw [if_neg (by rw [has_dots]; decide), split_dots _ (by simp) hp]
theorem tk_dot {w : Str} (h : GoodW w) : 46 ∉ L (tk w) := by
  rw [L_tk]
  simp only [List.mem_cons, List.mem_append, List.not_mem_nil, or_false, not_or]
  exact ⟨by decide, h.dot, by decide⟩
theorem emp_dot : 46 ∉ L Str.empty := by decide
theorem tks_dot {ps : List Str} (hp : ∀ v ∈ ps, GoodW v) : ∀ v ∈ ps.map tk, 46 ∉ L v := fun v hv => by
  refine x1a2 (List.mem_map.mp hv) fun w hw qz112 => ?_; subst qz112
  exact tk_dot (hp w hw)
/-- dots at both ends -/
theorem ell_both {ps ws : List Str} {x : Str} (hp : ∀ v ∈ ps, GoodW v) (hg : ∀ v ∈ ws, GoodW v) (hx : L x = flatT ws) :
    ellM (Txt.join dots (Str.empty :: (ps.map tk ++ [Str.empty]))) x = true ↔ ps.Sublist ws := by
  have hlen : x.length = (flatT ws).length := by rw [← L_len, hx]
  obtain ⟨q, P, e⟩ : ∃ q P, ps.map tk ++ [Str.empty] = q :: P := by
    cases ps with
    | nil => exact k2a1 _ _ rfl
    | cons a l => exact k2a1 _ _ rfl
  have hd : ∀ v ∈ Str.empty :: q :: P, 46 ∉ L v := by
    rw [← e]
    intro v hv
    rcases List.mem_cons.mp hv with rfl | hv
    · exact emp_dot
    · rcases List.mem_append.mp hv with hv | hv
      · exact tks_dot hp v hv
      · rw [List.mem_singleton.mp hv]; exact emp_dot
  rw [e, ell_dots _ _ _ _ hd, if_neg (by decide), ← e]
  unfold ellEnd
  have hl : (Str.empty :: (ps.map tk ++ [Str.empty])).getLast?.getD Str.empty = Str.empty := by
    rw [← List.cons_append, List.getLast?_append]; rfl
  simp only [hl]
  rw [if_neg (by decide), if_neg (by lia)]
  show (if find4 x Str.empty 0 x.length < 0 then false else ellGo x x.length ((find4 x Str.empty 0 x.length).toNat + Str.empty.length) (ps.map tk ++ [Str.empty])) = true ↔ _
  rw [find_emp (by lia), if_neg (by lia)]
  have key := go_tok (x := x) (.inr rfl) ps ws [] [] hp hg (by rw [hx]; simp)
  simp only [List.length_nil, Nat.zero_add, ← hlen] at key
  exact key
theorem starts_tok {p : Str} (hp : GoodW p) {ws : List Str} (hg : ∀ v ∈ ws, GoodW v) {x : Str} (hx : L x = flatT ws) : Txt.startswith x (tk p) = true ↔ ∃ ws', ws = p :: ws' := by
  have hlen : x.length = (flatT ws).length := by rw [← L_len, hx]
  have hS : Txt.startswith x (tk p) = true ↔ At x (tk p) x.length 0 := by
    unfold Txt.startswith At
    rw [Bool.and_eq_true, decide_eq_true_iff]
  rw [hS]
  constructor
  · intro h
    refine x2a2 (at_tok hp ws [] hg (post := []) (by rw [hx]; simp) 0 (Nat.zero_le _) (by rw [List.length_nil, Nat.zero_add, ← hlen]; exact h)) fun ws1 ws2 e1 e2 => ?_
    cases ws1 with
    | nil => exact ⟨ws2, e1⟩
    | cons a l => rw [flatT_cons] at e2; simp at e2
  · rintro or1
    refine x1a1 or1 fun ws' qz311 => ?_; clear or1; subst qz311
    have := at_tok' (w := p) (x := x) (pre := []) (post := []) (ws1 := []) (ws2 := ws') (by rw [hx]; simp)
    rw [List.length_nil, Nat.zero_add, List.nil_append, ← hlen] at this
    exact this
/-- dots behind alone -/
theorem ell_behind {p : Str} {ps ws : List Str} {x : Str} (hp : ∀ v ∈ p :: ps, GoodW v) (hg : ∀ v ∈ ws, GoodW v) (hx : L x = flatT ws) :
    ellM (Txt.join dots ((p :: ps).map tk ++ [Str.empty])) x = true ↔ ∃ ws', ws = p :: ws' ∧ ps.Sublist ws' := by
  have hp0 := hp p (.head _)
  have hlen : x.length = (flatT ws).length := by rw [← L_len, hx]
  obtain ⟨q, P, e⟩ : ∃ q P, ps.map tk ++ [Str.empty] = q :: P := by
    cases ps with
    | nil => exact k2a1 _ _ rfl
    | cons a l => exact k2a1 _ _ rfl
  have hd : ∀ v ∈ tk p :: q :: P, 46 ∉ L v := by
    rw [← e]
    intro v hv
    rcases List.mem_cons.mp hv with rfl | hv
    · exact tk_dot hp0
    · rcases List.mem_append.mp hv with hv | hv
      · exact tks_dot (fun v hv => hp v (.tail _ hv)) v hv
      · rw [List.mem_singleton.mp hv]; exact emp_dot
  rw [List.map_cons, List.cons_append, e, ell_dots _ _ _ _ hd, if_pos (by rw [tk_len]; simp), ← e]
  by_cases hs : Txt.startswith x (tk p) = true
  · rw [if_pos hs]
    refine x1a1 ((starts_tok hp0 hg hx).mp hs) fun ws' qz411 => ?_; subst qz411
    have hfl : flatT (p :: ws') = L (tk p) ++ flatT ws' := by rw [flatT_cons, L_tk]; simp
    have hle : (tk p).length ≤ x.length := by rw [hlen, hfl, List.length_append, L_len]; lia
    unfold ellEnd
    have hl : (ps.map tk ++ [Str.empty]).getLast?.getD Str.empty = Str.empty := by
      rw [List.getLast?_append]; rfl
    simp only [hl]
    rw [if_neg (by decide), if_neg (by lia)]
    have key := go_tok (x := x) (.inr rfl) ps ws' (L (tk p)) [] (fun v hv => hp v (.tail _ hv)) (fun v hv => hg v (.tail _ hv)) (by rw [hx, hfl]; simp)
    rw [L_len, show (tk p).length + (flatT ws').length = x.length by rw [hlen, hfl, List.length_append, L_len]] at key
    rw [key]
    constructor
    · intro h; exact k1a2 ws' rfl h
    · rintro ⟨w2, e2, h⟩; injection e2 with _ e3; rw [e3]; exact h
  · rw [if_neg hs]
    refine ⟨fun q => (by cases q), ?_⟩
    rintro or2
    refine x1a2 or2 fun ws' e2 _ => ?_; clear or2
    exact absurd ((starts_tok hp0 hg hx).mpr ⟨ws', e2⟩) hs
theorem ends_tok {p : Str} (hp : GoodW p) {ws : List Str} (hg : ∀ v ∈ ws, GoodW v) {x : Str} (hx : L x = flatT ws) : Txt.endswith x (tk p) = true ↔ ∃ ws', ws = ws' ++ [p] := by
  have hlen : x.length = (flatT ws).length := by rw [← L_len, hx]
  constructor
  · intro h
    unfold Txt.endswith at h
    rw [Bool.and_eq_true, decide_eq_true_iff] at h
    have hA : At x (tk p) x.length (x.length - (tk p).length) := ⟨by lia, h.2⟩
    refine x2a2 (at_tok hp ws [] hg (post := []) (by rw [hx]; simp) _ (Nat.zero_le _) (by rw [List.length_nil, Nat.zero_add, ← hlen]; exact hA)) fun ws1 ws2 e1 e2 => ?_
    rw [List.length_nil, Nat.zero_add] at e2
    have h3 : (flatT ws).length = (flatT ws1).length + ((tk p).length + (flatT ws2).length) := by
      rw [e1, flatT_app, flatT_cons, tk_len, ← L_len p]; simp; lia
    have h4 : (flatT ws2).length = 0 := by lia
    cases ws2 with
    | nil => exact ⟨ws1, e1⟩
    | cons a l => rw [flatT_cons] at h4; simp at h4
  · rintro or3
    refine x1a1 or3 fun ws' qz711 => ?_; clear or3; subst qz711
    have hA := at_tok' (w := p) (x := x) (pre := []) (post := []) (ws1 := ws') (ws2 := []) (by rw [hx]; simp)
    rw [List.length_nil, Nat.zero_add, Nat.zero_add, ← hlen] at hA
    have h3 : (flatT (ws' ++ [p])).length = (flatT ws').length + (tk p).length := by
      rw [flatT_app, flatT_cons, flatT_nil, tk_len, ← L_len p]; simp
    have e : (flatT ws').length = x.length - (tk p).length := by lia
    rw [e] at hA
    unfold Txt.endswith
    rw [Bool.and_eq_true, decide_eq_true_iff]
    exact ⟨by lia, hA.2⟩
/-- dots ahead alone -/
theorem ell_ahead {p : Str} {ps ws : List Str} {x : Str} (hp : ∀ v ∈ ps ++ [p], GoodW v) (hg : ∀ v ∈ ws, GoodW v) (hx : L x = flatT ws) :
    ellM (Txt.join dots (Str.empty :: (ps ++ [p]).map tk)) x = true ↔ ∃ ws', ws = ws' ++ [p] ∧ ps.Sublist ws' := by
  have hp0 := hp p (by simp)
  have hlen : x.length = (flatT ws).length := by rw [← L_len, hx]
  obtain ⟨q, P, e⟩ : ∃ q P, (ps ++ [p]).map tk = q :: P := by
    cases ps with
    | nil => exact k2a1 _ _ rfl
    | cons a l => exact k2a1 _ _ rfl
  have hd : ∀ v ∈ Str.empty :: q :: P, 46 ∉ L v := by
    rw [← e]
    intro v hv
    rcases List.mem_cons.mp hv with rfl | hv
    · exact emp_dot
    · exact tks_dot hp v hv
  rw [e, ell_dots _ _ _ _ hd, if_neg (by decide), ← e]
  unfold ellEnd
  have hl : (Str.empty :: (ps ++ [p]).map tk).getLast?.getD Str.empty = tk p := by
    rw [List.map_append, ← List.cons_append, List.map_cons, List.map_nil, List.getLast?_append]; rfl
  have hdl : (Str.empty :: (ps ++ [p]).map tk).dropLast = Str.empty :: ps.map tk := by
    rw [List.map_append, ← List.cons_append, List.map_cons, List.map_nil, List.dropLast_concat]
  simp only [hl, hdl]
  rw [if_pos (by rw [tk_len]; simp)]
  by_cases hs : Txt.endswith x (tk p) = true
  · rw [if_pos hs]
    refine x1a1 ((ends_tok hp0 hg hx).mp hs) fun ws' qz811 => ?_; subst qz811
    have hfl : flatT (ws' ++ [p]) = flatT ws' ++ L (tk p) := by rw [flatT_app, flatT_cons, flatT_nil, L_tk]
    have hsub : x.length - (tk p).length = (flatT ws').length := by rw [hlen, hfl, List.length_append, L_len]; lia
    rw [if_neg (by lia)]
    show (if find4 x Str.empty 0 (x.length - (tk p).length) < 0 then false else ellGo x (x.length - (tk p).length) ((find4 x Str.empty 0 (x.length - (tk p).length)).toNat + Str.empty.length) (ps.map tk)) = true ↔ _
    rw [find_emp (by lia), if_neg (by lia)]
    have key := go_tok (x := x) (.inl rfl) ps ws' [] (L (tk p)) (fun v hv => hp v (List.mem_append_left _ hv)) (fun v hv => hg v (List.mem_append_left _ hv)) (by rw [hx, hfl]; simp)
    simp only [List.length_nil, Nat.zero_add, List.append_nil] at key
    rw [hsub]
    refine Iff.trans key ⟨fun h => ⟨ws', rfl, h⟩, ?_⟩
    rintro or4
    refine x1a2 or4 fun w2 e2 h => ?_; clear or4
    rw [List.append_cancel_right e2]; exact h
  · rw [if_neg hs]
    refine ⟨fun q => (by cases q), ?_⟩
    rintro or5
    refine x1a2 or5 fun ws' e2 _ => ?_; clear or5
    exact absurd ((ends_tok hp0 hg hx).mpr ⟨ws', e2⟩) hs
end
end
section
section
open Builtin.Str StrLaws
noncomputable def goodB (w : Str) : Bool := !(L w).isEmpty && !(L w).contains 44 && !(L w).contains 46 && decide (w.length ≤ 20)
theorem goodB_iff {w : Str} (h : goodB w = true) : GoodW w ∧ w.length ≤ 20 := by
  unfold goodB at h
  simp only [Bool.and_eq_true, Bool.not_eq_true', decide_eq_true_iff] at h
  obtain ⟨⟨⟨h1, h2⟩, h3⟩, h4⟩ := h
  refine ⟨⟨fun e => (by rw [e] at h1; cases h1), fun q => ?_, fun q => ?_⟩, h4⟩
  · rw [List.contains_iff_mem.mpr q] at h2; cases h2
  · rw [List.contains_iff_mem.mpr q] at h3; cases h3
theorem flag_good : ∀ p, p < 20 → goodB (flagName p) = true := by decide +kernel
theorem flag_inj : ∀ p, p < 20 → ∀ q, q < 20 → flagName p = flagName q → p = q := by decide +kernel
noncomputable def zeroW : Str := Str.ofString "0x0"
theorem zero_good : goodB zeroW = true := by decide +kernel
theorem flag_zero : ∀ p, p < 20 → flagName p ≠ zeroW := by decide +kernel
theorem pretty_zero : pretty 0 = zeroW := by decide +kernel
theorem sum_mul {j : Nat} : ∀ (ps : List Nat), (∀ p ∈ ps, j ≤ p) → ∃ c, (ps.map (2 ^ ·)).sum = 2 ^ j * c
  | [], _ => ⟨0, rfl⟩
  | p :: ps, h => by
    obtain ⟨c, hc⟩ := sum_mul ps fun q hq => h q (.tail _ hq)
    refine ⟨2 ^ (p - j) + c, ?_⟩
    rw [List.map_cons, List.sum_cons, hc, Nat.mul_add, ← Nat.pow_add, show j + (p - j) = p by have := h p (.head _); grind]
theorem go_names : ∀ (t i : Nat) (ps : List Nat) (ns : List Str), ps ≠ [] → ps.Pairwise (· < ·) → (∀ p ∈ ps, i ≤ p ∧ p < i + t) → prettyGo t i (ps.map (2 ^ ·)).sum ns = ns ++ ps.map flagName
  | 0, i, ps, ns, hne, _, hp => by
    cases ps with
    | nil => exact absurd rfl hne
    | cons p r => have := hp p (.head _); lia
  | t + 1, i, [], ns, hne, _, _ => absurd rfl hne
  | t + 1, i, p :: r, ns, _, hw, hp => by
    have hw' := List.pairwise_cons.mp hw
    have hpi := hp p (.head _)
    unfold prettyGo
    rw [Nat.testBit_eq_decide_div_mod_eq]
    by_cases hi : p = i
    · subst hi
      obtain ⟨c, hc⟩ := sum_mul (j := p + 1) r fun q hq => hw'.1 q hq
      have hs : ((p :: r).map (2 ^ ·)).sum = 2 ^ p + (r.map (2 ^ ·)).sum := by rw [List.map_cons, List.sum_cons]
      have hdiv : ((p :: r).map (2 ^ ·)).sum / 2 ^ p = 1 + 2 * c := by
        rw [hs, hc, Nat.pow_succ, Nat.mul_assoc]
        rw [show 2 ^ p + 2 ^ p * (2 * c) = 2 ^ p * (1 + 2 * c) by rw [Nat.mul_add, Nat.mul_one]]
        exact Nat.mul_div_cancel_left _ (Nat.two_pow_pos p)
      rw [hdiv, if_pos (by rw [decide_eq_true_iff]; lia)]
      have hsub : ((p :: r).map (2 ^ ·)).sum - 2 ^ p = (r.map (2 ^ ·)).sum := by rw [hs]; omega
      rw [hsub]
      cases r with
      | nil => rw [if_pos (show (List.map (2 ^ ·) ([] : List Nat)).sum = 0 from rfl)]; rfl
      | cons q r' =>
        have hpos : (((q :: r').map (2 ^ ·)).sum) ≠ 0 := by
          rw [List.map_cons, List.sum_cons]
          have := Nat.two_pow_pos q
          lia
        rw [if_neg hpos, go_names t (p + 1) (q :: r') _ (by simp) hw'.2 (fun u hu => by
          have h1 := hw'.1 u hu
          have h2 := hp u (.tail _ hu)
          lia)]
        simp
    · obtain ⟨c, hc⟩ := sum_mul (j := i + 1) (p :: r) (fun q hq => by
        rcases List.mem_cons.mp hq with rfl | hq
        · lia
        · have := hw'.1 q hq; lia)
      have hdiv : ((p :: r).map (2 ^ ·)).sum / 2 ^ i = 2 * c := by
        rw [hc, Nat.pow_succ, Nat.mul_assoc]
        exact Nat.mul_div_cancel_left _ (Nat.two_pow_pos i)
      rw [hdiv, if_neg (by rw [decide_eq_true_iff]; lia)]
      exact go_names t (i + 1) (p :: r) ns (by simp) hw (fun u hu => by
        have h2 := hp u hu
        rcases List.mem_cons.mp hu with rfl | hu
        · lia
        · have := hw'.1 u hu; grind)
theorem pretty_sum {ps : List Nat} (hne : ps ≠ []) (hw : ps.Pairwise (· < ·)) (hp : ∀ p ∈ ps, p < 20) : pretty (ps.map (2 ^ ·)).sum = Txt.join (Str.ofString ", ") (ps.map flagName) := by
  unfold pretty prettyNames
  rw [go_names 32 0 ps [] hne hw (fun p h => ⟨Nat.zero_le _, by have := hp p h; lia⟩), List.nil_append]
theorem L_cs : L (Str.ofString ", ") = [44, 32] := by decide +kernel
theorem L_cc : L (Str.ofString ",,") = [44, 44] := by decide +kernel
theorem L_cdc : L (Str.ofString ",...,") = [44, 46, 46, 46, 44] := by decide +kernel
theorem L_dc : L (Str.ofString "...,") = [46, 46, 46, 44] := by decide +kernel
theorem L_cd : L (Str.ofString ",...") = [44, 46, 46, 46] := by decide +kernel
theorem cc_flat : ∀ (W : List Str), W ≠ [] → 44 :: (L (Str.join (Str.ofString ",,") W) ++ [44]) = flatT W
  | [], h => absurd rfl h
  | [w], _ => by rw [flatT_cons, flatT_nil]; rfl
  | w :: v :: W, _ => by
    have ih := cc_flat (v :: W) (by simp)
    rw [L_join_cons, flatT_cons, ← ih, L_cc]
    simp
theorem held_L {W : List Str} (hne : W ≠ []) (hg : ∀ v ∈ W, GoodW v) : L (Str.ofString "," ++ Txt.replace (Txt.join (Str.ofString ", ") W) (Str.ofString ", ") (Str.ofString ",,") ++ Str.ofString ",") = flatT W := by
  rw [replace_join L_cs W hne (fun p hp => (hg p hp).comma), L_app, L_app, L_comma, ← cc_flat W hne]
  rw [show Txt.join (Str.ofString ",,") W = Str.join (Str.ofString ",,") W from glued_eq_join _ _]
  simp
theorem cdc_flat : ∀ (W : List Str), W ≠ [] → L (Str.join dots (W.map tk ++ [Str.empty])) = 44 :: (L (Str.join (Str.ofString ",...,") W) ++ [44, 46, 46, 46])
  | [], h => absurd rfl h
  | [w], _ => by
    show L (tk w ++ dots ++ Str.empty) = 44 :: (L w ++ [44, 46, 46, 46])
    rw [L_app, L_app, L_tk, L_dots]
    simp [Str.empty]
  | w :: v :: W, _ => by
    have ih := cdc_flat (v :: W) (by simp)
    rw [L_join_cons]
    have e : (w :: v :: W).map tk ++ [Str.empty] = tk w :: tk v :: (W.map tk ++ [Str.empty]) := rfl
    rw [e, L_join_cons]
    have e2 : (v :: W).map tk ++ [Str.empty] = tk v :: (W.map tk ++ [Str.empty]) := rfl
    rw [← e2, ih, L_tk, L_dots, L_cdc]
    simp
theorem pat_eq {W : List Str} (hne : W ≠ []) (hg : ∀ v ∈ W, GoodW v) : pattern (Txt.join (Str.ofString ", ") W) = Txt.join dots (Str.empty :: (W.map tk ++ [Str.empty])) := by
  unfold pattern
  rw [replace_join L_cs W hne (fun p hp => (hg p hp).comma)]
  apply L_ext
  rw [show Txt.join dots (Str.empty :: (W.map tk ++ [Str.empty])) = Str.join dots (Str.empty :: (W.map tk ++ [Str.empty])) from glued_eq_join _ _]
  rw [show Txt.join (Str.ofString ",...,") W = Str.join (Str.ofString ",...,") W from glued_eq_join _ _]
  obtain ⟨q, P, e⟩ : ∃ q P, W.map tk ++ [Str.empty] = q :: P := by
    cases W with
    | nil => exact absurd rfl hne
    | cons a l => exact k2a1 _ _ rfl
  rw [e, L_join_cons, ← e, cdc_flat W hne, L_app, L_app, L_dc, L_cd, L_dots]
  simp [Str.empty]
end
end
section
section
open Builtin.Str StrLaws
theorem L_empty : L Str.empty = [] := rfl
theorem join_snoc (y : Str) : ∀ (P : List Str), P ≠ [] → L (Str.join y (P ++ [Str.empty])) = L (Str.join y P) ++ L y
  | [], h => absurd rfl h
  | [p], _ => by
    show L (p ++ y ++ Str.empty) = L p ++ L y
    rw [L_app, L_app, L_empty, List.append_nil]
  | p :: q :: P, _ => by
    have ih := join_snoc y (q :: P) (by simp)
    have e : p :: q :: P ++ [Str.empty] = p :: q :: (P ++ [Str.empty]) := rfl
    have e2 : q :: P ++ [Str.empty] = q :: (P ++ [Str.empty]) := rfl
    rw [e, L_join_cons, L_join_cons, ← e2, ih]
    simp
theorem join_lead (y : Str) (P : List Str) (h : P ≠ []) : L (Str.join y (Str.empty :: P)) = L y ++ L (Str.join y P) := by
  cases P with
  | nil => exact absurd rfl h
  | cons q P => rw [L_join_cons, L_empty, List.nil_append]
theorem txt_join (y : Str) (P : List Str) : Txt.join y P = Str.join y P := glued_eq_join _ _
theorem join_cat : ∀ (W : List Str), L (Txt.join (Str.ofString "") (W.map tk)) = flatT W := by
  intro W
  rw [txt_join]
  have he : L (Str.ofString "") = [] := by decide +kernel
  induction W with
  | nil => rfl
  | cons w W ih =>
    cases W with
    | nil =>
      show L (tk w) = _
      rw [flatT_cons, flatT_nil, L_tk]
    | cons v W =>
      have e : (w :: v :: W).map tk = tk w :: tk v :: W.map tk := rfl
      have e2 : (v :: W).map tk = tk v :: W.map tk := rfl
      rw [e, L_join_cons, ← e2, ih, he, L_tk, flatT_cons w (v :: W)]
      simp
theorem dots_both (P : List Str) (h : P ≠ []) : dots ++ Txt.join dots P ++ dots = Txt.join dots (Str.empty :: (P ++ [Str.empty])) := by
  apply L_ext
  rw [txt_join, txt_join, join_lead _ _ (by simp), join_snoc _ _ h, L_app, L_app]
  simp
theorem dots_behind (P : List Str) (h : P ≠ []) : Txt.join dots P ++ dots = Txt.join dots (P ++ [Str.empty]) := by
  apply L_ext
  rw [txt_join, txt_join, join_snoc _ _ h, L_app]
theorem dots_ahead (P : List Str) (h : P ≠ []) : dots ++ Txt.join dots P = Txt.join dots (Str.empty :: P) := by
  apply L_ext
  rw [txt_join, txt_join, join_lead _ _ h, L_app]
theorem once_tok {w : Str} (hw : GoodW w) : onceM (tk w) = true := by
  have hpos : 0 < (tk w).length := by rw [tk_len]; lia
  have h1 : L (tk w) = flatT [w] := by rw [flatT_cons, flatT_nil, L_tk]
  have h2 : L (tk w ++ tk w) = flatT [w, w] := by rw [L_app, flatT_cons, flatT_cons, flatT_nil, L_tk]; simp
  have hg1 : ∀ v ∈ [w], GoodW v := fun v hv => by rw [List.mem_singleton.mp hv]; exact hw
  have hg2 : ∀ v ∈ [w, w], GoodW v := fun v hv => by
    simp only [List.mem_cons, List.not_mem_nil, or_false, or_self] at hv
    rw [hv]; exact hw
  have hmid : tk w ++ Str.ofString "..." ++ tk w = Txt.join dots [tk w, tk w] := by rw [txt_join]; rfl
  have hd : ∀ v ∈ [tk w, tk w], 46 ∉ L v := tks_dot (ps := [w, w]) hg2
  have hne : ((tk w).length != 0) = true := by simpa using Nat.pos_iff_ne_zero.mp hpos
  unfold onceM onceAsked
  simp only [List.all_cons, List.all_nil, Bool.and_true, Bool.and_eq_true, beq_iff_eq]
  refine ⟨?_, ?_, ?_, ?_, ?_⟩
  · unfold ellM
    rw [if_pos (no_dots (tk_dot hw))]
    exact beq_self_eq_true _
  · unfold ellM
    rw [if_pos (no_dots (tk_dot hw)), beq_eq_false_iff_ne]
    intro e
    have := congrArg Str.length e
    rw [Str.length_append] at this
    lia
  · rw [hmid, ell_dots _ _ _ _ hd, if_pos hne, if_pos ((starts_tok hw hg2 h2).mpr ⟨_, rfl⟩)]
    unfold ellEnd
    show (if (tk w).length != 0 then (if Txt.endswith (tk w ++ tk w) (tk w) then (if (tk w).length > (tk w ++ tk w).length - (tk w).length then false else ellGo (tk w ++ tk w) _ _ []) else false) else _) = true
    rw [if_pos hne, if_pos ((ends_tok hw hg2 h2).mpr ⟨[w], rfl⟩), if_neg (by rw [Str.length_append]; omega)]
    rfl
  · rw [hmid, ell_dots _ _ _ _ hd, if_pos hne, if_pos ((starts_tok hw hg1 h1).mpr ⟨_, rfl⟩)]
    unfold ellEnd
    show (if (tk w).length != 0 then (if Txt.endswith (tk w) (tk w) then (if (tk w).length > (tk w).length - (tk w).length then false else ellGo (tk w) _ _ []) else false) else _) = false
    rw [if_pos hne, if_pos ((ends_tok hw hg1 h1).mpr ⟨[], rfl⟩), if_pos (by lia)]
  · rw [hmid, dots_both _ (by simp)]
    rw [Bool.eq_false_iff]
    intro q
    have := (ell_both (ps := [w, w]) hg2 hg1 h1).mp q
    have := this.length_le
    simp at this
theorem round_tok {ws : List Str} (hg : ∀ v ∈ ws, GoodW v) (hn : ws.Nodup) : roundM (ws.map tk) = true := by
  unfold roundM
  rw [List.all_eq_true]
  intro i hi
  have hi : i < ws.length := by simpa using hi
  unfold roundOk
  dsimp only
  rw [← List.map_drop, ← List.map_take, ← List.map_append]
  generalize hrot : ws.drop i ++ ws.take i = rot
  have hrn : rot ≠ [] := by
    intro e
    have := congrArg List.length e
    rw [← hrot] at this
    simp at this
    lia
  have hrl : rot.length = ws.length := by rw [← hrot]; simp; grind
  have hrg : ∀ v ∈ rot, GoodW v := fun v hv => by
    rw [← hrot] at hv
    rcases List.mem_append.mp hv with hv | hv
    · exact hg v (List.mem_of_mem_drop hv)
    · exact hg v (List.mem_of_mem_take hv)
  have hmn : rot.map tk ≠ [] := by simpa using hrn
  have hx := join_cat ws
  generalize Txt.join (Str.ofString "") (ws.map tk) = held at hx
  have hx2 : L (held ++ held) = flatT (ws ++ ws) := by rw [L_app, hx, flatT_app]
  have hg2 : ∀ v ∈ ws ++ ws, GoodW v := fun v hv => (List.mem_append.mp hv).elim (hg v) (hg v)
  have hr0 : rot[0]? = ws[i]? := by
    rw [← hrot, List.getElem?_append_left (by simp; lia), List.getElem?_drop, Nat.add_zero]
  have hz : i = 0 → rot = ws := fun e => by rw [← hrot, e]; simp
  have hinj : ∀ j k, j < ws.length → k < ws.length → ws[j]? = ws[k]? → j = k := fun j k hj hk e => (List.getElem?_inj hj hn).mp e
  simp only [Bool.and_eq_true, beq_iff_eq]
  refine ⟨⟨?_, ?_⟩, ?_⟩
  · rw [show Str.ofString "..." = dots from rfl, dots_both _ hmn, Bool.eq_iff_iff, ell_both hrg hg hx, beq_iff_eq]
    constructor
    · intro h
      have e := h.eq_of_length hrl
      exact hinj i 0 hi (Nat.zero_lt_of_lt hi) (by rw [← hr0, e])
    · intro h; rw [hz h]; exact List.Sublist.refl _
  · rw [show Str.ofString "..." = dots from rfl, dots_behind _ hmn, Bool.eq_iff_iff, beq_iff_eq]
    obtain ⟨p, r, e⟩ : ∃ p r, rot = p :: r := by
      cases rot with
      | nil => exact absurd rfl hrn
      | cons p r => exact k2a1 p r rfl
    rw [e, ell_behind (by rw [← e]; exact hrg) hg2 hx2]
    constructor
    · rintro or1
      refine x1a2 or1 fun ws' e2 _ => ?_; clear or1
      have h1 := congrArg (fun l : List Str => l[0]?) e2
      simp only [List.getElem?_cons_zero] at h1
      rw [List.getElem?_append_left (Nat.zero_lt_of_lt hi)] at h1
      exact hinj i 0 hi (Nat.zero_lt_of_lt hi) (by rw [← hr0, h1, e]; rfl)
    · intro h
      have e3 := hz h
      rw [e] at e3
      refine k1a2 (r ++ ws) (by rw [← e3]; rfl) (List.sublist_append_left _ _)
  · rw [show Str.ofString "..." = dots from rfl, dots_ahead _ hmn, Bool.eq_iff_iff, beq_iff_eq]
    refine x2a1 (⟨rot.dropLast, rot.getLast hrn, (List.dropLast_concat_getLast hrn).symm⟩ : ∃ r p, rot = r ++ [p]) fun r p e => ?_
    have hlast : rot[rot.length - 1]? = some p := by rw [e]; simp
    rw [e, ell_ahead (by rw [← e]; exact hrg) hg2 hx2]
    constructor
    · rintro or2
      refine x1a2 or2 fun ws' e2 _ => ?_; clear or2
      by_cases h0 : i = 0
      · exact h0
      exfalso
      have h1 : (ws ++ ws)[(ws ++ ws).length - 1]? = some p := by rw [e2]; simp
      rw [List.getElem?_append_right (by simp; omega), List.length_append, show ws.length + ws.length - 1 - ws.length = ws.length - 1 by lia] at h1
      have h2 : rot[rot.length - 1]? = ws[i - 1]? := by
        rw [← hrot, List.getElem?_append_right (by simp; lia)]
        rw [List.getElem?_take_of_lt (by simp; grind)]
        congr 1
        simp
        lia
      have := hinj (i - 1) (ws.length - 1) (Nat.lt_of_le_of_lt (Nat.sub_le i 1) hi) (Nat.sub_lt (Nat.zero_lt_of_lt hi) Nat.one_pos) (by rw [← h2, hlast, h1])
      clear h1 h2 hlast hrl hrg hr0 hz hinj hrot
      lia
    · intro h
      have e3 := hz h
      rw [e] at e3
      refine k1a2 (ws ++ r) (by rw [← e3]; simp) (List.sublist_append_right _ _)
/-- the last word cut off -/
theorem cut_join {W : List Str} {w : Str} (hne : W ≠ []) (hg : ∀ v ∈ W ++ [w], GoodW v) :
    lastOccurrence (Txt.join (Str.ofString ", ") (W ++ [w])) (Str.ofString ", ") 0 (Txt.join (Str.ofString ", ") (W ++ [w])).length = some (Txt.join (Str.ofString ", ") W).length := by
  have hcat : ∀ V : List Str, V ≠ [] → L (Txt.join (Str.ofString ", ") (V ++ [w])) = L (Txt.join (Str.ofString ", ") V) ++ (L (Str.ofString ", ") ++ L w) := by
    intro V
    rw [txt_join, txt_join]
    induction V with
    | nil => intro h; exact absurd rfl h
    | cons a V ih =>
      intro _
      cases V with
      | nil => exact L_join_cons _ _ _ _
      | cons b V =>
        have e : a :: b :: V ++ [w] = a :: b :: (V ++ [w]) := rfl
        have e2 : b :: V ++ [w] = b :: (V ++ [w]) := rfl
        rw [e, L_join_cons, L_join_cons, ← e2, ih (by simp)]
        simp
  have hx := hcat W hne
  have hA : At (Txt.join (Str.ofString ", ") (W ++ [w])) (Str.ofString ", ") (Txt.join (Str.ofString ", ") (W ++ [w])).length (Txt.join (Str.ofString ", ") W).length := by
    refine at_of_app (R := L w) (by decide +kernel) ?_
    rw [hx, ← L_len (Txt.join (Str.ofString ", ") W), List.drop_left]
  rcases last_spec (Txt.join (Str.ofString ", ") (W ++ [w])) (Str.ofString ", ") with ⟨_, h2⟩ | ⟨i, h1, h2, h3⟩
  · exact absurd hA (h2 _)
  · rw [h1]
    congr 1
    rcases Nat.lt_trichotomy i (Txt.join (Str.ofString ", ") W).length with hlt | he | hgt
    · exact absurd hA (h3 _ hlt)
    · exact he
    · exfalso
      have h4 := at_head L_cs h2
      rw [hx, List.getElem?_append_right (by rw [L_len]; lia), L_len, L_cs] at h4
      refine x1a1 (⟨i - (Txt.join (Str.ofString ", ") W).length - 1, by grind⟩ : ∃ j, i - (Txt.join (Str.ofString ", ") W).length = j + 1) fun j hj => ?_
      rw [hj] at h4
      match j with
      | 0 => simp at h4
      | j + 1 =>
        have h5 : (L w)[j]? = some 44 := by simpa using h4
        exact (hg w (by simp)).comma (List.mem_of_getElem? h5)
theorem cut_take {W : List Str} {w : Str} (hne : W ≠ []) : (L (Txt.join (Str.ofString ", ") (W ++ [w]))).take (Txt.join (Str.ofString ", ") W).length = L (Txt.join (Str.ofString ", ") W) := by
  have hcat : ∀ V : List Str, V ≠ [] → L (Txt.join (Str.ofString ", ") (V ++ [w])) = L (Txt.join (Str.ofString ", ") V) ++ (L (Str.ofString ", ") ++ L w) := by
    intro V
    rw [txt_join, txt_join]
    induction V with
    | nil => intro h; exact absurd rfl h
    | cons a V ih =>
      intro _
      cases V with
      | nil => exact L_join_cons _ _ _ _
      | cons b V =>
        have e : a :: b :: V ++ [w] = a :: b :: (V ++ [w]) := rfl
        have e2 : b :: V ++ [w] = b :: (V ++ [w]) := rfl
        rw [e, L_join_cons, L_join_cons, ← e2, ih (by simp)]
        simp
  rw [hcat W hne, ← L_len (Txt.join (Str.ofString ", ") W), List.take_left]
end
end
section
section
open Builtin.Str StrLaws
noncomputable def plAt (pl : List Nat) (k : Nat) : Nat := pl[k]?.getD 0
noncomputable def namesOf (pl bs : List Nat) : List Str := bs.map fun k => flagName (plAt pl k)
noncomputable def wordsOf (pl : List Nat) (cnt m : Nat) : List Str := if bitsOf cnt m = [] then [zeroW] else namesOf pl (bitsOf cnt m)
theorem bits_sorted {cnt m : Nat} : (bitsOf cnt m).Pairwise (· < ·) := List.Pairwise.filter _ List.pairwise_lt_range
structure PlOk (pl : List Nat) (cnt : Nat) : Prop where
  ct : cnt = 4 ∨ cnt = 5
  len : pl.length = cnt
  mono : pl.Pairwise (· < ·)
  lt : ∀ p ∈ pl, p < 20
section
variable {pl : List Nat} {cnt : Nat} (h : PlOk pl cnt)
include h
theorem plAt_lt {k : Nat} (hk : k < cnt) : plAt pl k < 20 := by
  have hk' : k < pl.length := by rw [h.len]; exact hk
  unfold plAt
  rw [List.getElem?_eq_getElem hk']
  exact h.lt _ (List.getElem_mem hk')
theorem plAt_mono {j k : Nat} (hjk : j < k) (hk : k < cnt) : plAt pl j < plAt pl k := by
  have hk' : k < pl.length := by rw [h.len]; exact hk
  have hj' : j < pl.length := by lia
  unfold plAt
  rw [List.getElem?_eq_getElem hk', List.getElem?_eq_getElem hj']
  exact List.pairwise_iff_getElem.mp h.mono j k hj' hk' hjk
theorem plAt_inj {j k : Nat} (hj : j < cnt) (hk : k < cnt) (e : plAt pl j = plAt pl k) : j = k := by
  rcases Nat.lt_trichotomy j k with q | q | q
  · have := plAt_mono h q hk; lia
  · exact q
  · have := plAt_mono h q hj; lia
theorem name_inj {j k : Nat} (hj : j < cnt) (hk : k < cnt) (e : flagName (plAt pl j) = flagName (plAt pl k)) : j = k :=
  plAt_inj h hj hk (flag_inj _ (plAt_lt h hj) _ (plAt_lt h hk) e)
theorem names_good {bs : List Nat} (hb : ∀ b ∈ bs, b < cnt) : ∀ w ∈ namesOf pl bs, GoodW w ∧ w.length ≤ 20 := fun w hw => by
  refine x1a2 (List.mem_map.mp hw) fun k hk qz012 => ?_; subst qz012
  exact goodB_iff (flag_good _ (plAt_lt h (hb k hk)))
theorem words_good {m : Nat} : ∀ w ∈ wordsOf pl cnt m, GoodW w ∧ w.length ≤ 20 := fun w hw => by
  unfold wordsOf at hw
  split at hw
  · rw [List.mem_singleton.mp hw]; exact goodB_iff zero_good
  · exact names_good h bits_lt w hw
theorem words_ne {m : Nat} : wordsOf pl cnt m ≠ [] := by
  unfold wordsOf
  split
  · exact List.cons_ne_nil _ _
  · rename_i hb
    simpa [namesOf] using hb
theorem flags_words {bs : List Nat} (hne : bs ≠ []) (hs : bs.Pairwise (· < ·)) (hb : ∀ b ∈ bs, b < cnt) : flagsOf pl bs = Txt.join (Str.ofString ", ") (namesOf pl bs) := by
  have e : (bs.map fun k => 2 ^ (pl[k]?.getD 0)) = (bs.map (plAt pl)).map (2 ^ ·) := by rw [List.map_map]; rfl
  unfold flagsOf
  rw [e, pretty_sum (by simpa using hne) (List.pairwise_map.mpr (hs.imp_of_mem fun ha hb' hab => plAt_mono h hab (hb _ hb'))) (fun p hp => by
    refine x1a2 (List.mem_map.mp hp) fun k hk qz112 => ?_; subst qz112
    exact plAt_lt h (hb k hk)), List.map_map]
  rfl
theorem FF_words (m : Nat) : FF pl cnt m = Txt.join (Str.ofString ", ") (wordsOf pl cnt m) := by
  unfold FF wordsOf
  split
  · rename_i hb
    rw [hb]
    exact pretty_zero
  · rename_i hb
    exact flags_words h hb bits_sorted bits_lt
theorem names_nodup {m : Nat} : (namesOf pl (bitsOf cnt m)).Nodup := by
  unfold namesOf List.Nodup
  rw [List.pairwise_map]
  refine List.Pairwise.imp_of_mem (fun {a b} ha hb hab => ?_) (bits_sorted (cnt := cnt) (m := m))
  intro e
  have := name_inj h (bits_lt _ ha) (bits_lt _ hb) e
  lia
theorem words_len {m : Nat} : (wordsOf pl cnt m).length ≤ 5 := by
  have := h.ct
  unfold wordsOf
  split
  · exact Nat.succ_le_succ (Nat.zero_le _)
  · unfold namesOf
    rw [List.length_map]
    have := bits_len (cnt := cnt) (m := m)
    lia
end
theorem join_size (y : Str) : ∀ (P : List Str), (Str.join y P).length ≤ (P.map (·.length)).sum + P.length * y.length
  | [] => Nat.zero_le _
  | [p] => by simp [Str.join]
  | p :: q :: P => by
    have ih := join_size y (q :: P)
    have e := congrArg List.length (L_join_cons y p q P)
    rw [List.length_append, List.length_append, L_len, L_len, L_len, L_len] at e
    rw [List.map_cons, List.sum_cons, List.length_cons, Nat.add_mul]
    lia
theorem sum_le {f : Str → Nat} {M : Nat} : ∀ (P : List Str), (∀ p ∈ P, f p ≤ M) → (P.map f).sum ≤ P.length * M
  | [], _ => by simp
  | p :: P, h => by
    have ih := sum_le P fun q hq => h q (.tail _ hq)
    have := h p (.head _)
    rw [List.map_cons, List.sum_cons, List.length_cons, Nat.add_mul]
    lia
theorem cs_kind : Builtin.Str.strKind (Str.ofString ", ") = 1 := by decide +kernel
theorem two_bits {es : List (Nat × Nat)} {cnt : Nat} (hl : es.length = cnt) (he : ∀ e ∈ es, e.1 < e.2 ∧ e.2 < 4) {k : Nat} (hk : k < cnt) : oddOf es [k] ≠ [] := by
  have hk' : k < es.length := by lia
  have hx := he _ (List.getElem_mem hk')
  intro e
  have hm : es[k].1 ∈ oddOf es [k] := by
    unfold oddOf
    rw [List.mem_filter]
    refine ⟨List.mem_range.mpr (by lia), ?_⟩
    have ht : touched es [k] = [es[k].1, es[k].2] := by
      unfold touched
      rw [List.map_cons, List.map_cons, List.getElem?_eq_getElem hk']
      rfl
    rw [ht, List.count_cons_self, List.count_cons_of_ne (by omega)]
    rfl
  rw [e] at hm
  cases hm
theorem split_last {α : Type} {l : List α} (h : 2 ≤ l.length) : ∃ l' a, l = l' ++ [a] ∧ l' ≠ [] := by
  have hne : l ≠ [] := fun e => by rw [e] at h; simp at h
  refine k2a2 l.dropLast (l.getLast hne) ((List.dropLast_concat_getLast hne).symm) (fun e => ?_)
  have := congrArg List.length e
  rw [List.length_dropLast] at this
  simp at this
  omega
theorem ring_two {pl : List Nat} {es : List (Nat × Nat)} {cnt m : Nat} (h : PlOk pl cnt) (hl : es.length = cnt) (he : ∀ e ∈ es, e.1 < e.2 ∧ e.2 < 4) (hb : bitsOf cnt m ≠ []) (ho : oddOf es (bitsOf cnt m) = []) : 2 ≤ (bitsOf cnt m).length := by
  have hlt := bits_lt (cnt := cnt) (m := m)
  rcases e : bitsOf cnt m with _ | ⟨k, _ | ⟨k2, r⟩⟩
  · exact absurd e hb
  · rw [e] at ho hlt
    exact absurd ho (two_bits hl he (hlt k (.head _)))
  · simp
theorem plain_words : PlainWords := by
  intro pl es cnt hc hl hm hp hel he
  have h : PlOk pl cnt := ⟨hc, hl, hm, hp⟩
  have hsp : ∀ m, Txt.split (FF pl cnt m) (Str.ofString ", ") = wordsOf pl cnt m := fun m => by
    rw [FF_words h]
    exact split_join L_cs cs_kind _ (words_ne h) fun p hp => (words_good h p hp).1.comma
  refine ⟨fun m => rfl, fun m => ?_, fun m _ h1 => ?_, fun m _ hb _ => ?_, fun m => ?_, fun m _ hb ho => ?_⟩
  · rw [FF_words h, txt_join]
    have h1 := join_size (Str.ofString ", ") (wordsOf pl cnt m)
    have h2 := sum_le (f := (·.length)) (M := 20) (wordsOf pl cnt m) fun p hp => (words_good h p hp).2
    have h3 := words_len (m := m) h
    have h4 : (Str.ofString ", ").length = 2 := by decide +kernel
    rw [h4] at h1
    lia
  · refine x1a1 (List.length_eq_one_iff.mp h1) fun k hk => ?_
    have hw : wordsOf pl cnt m = [flagName (plAt pl k)] := by
      unfold wordsOf
      rw [hk, if_neg (List.cons_ne_nil _ _)]
      rfl
    have hg := (words_good h (m := m) (flagName (plAt pl k)) (by rw [hw]; exact .head _)).1
    have e : heldOf (FF pl cnt m) = tk (flagName (plAt pl k)) := by
      apply L_ext
      rw [FF_words h, hw]
      unfold heldOf
      rw [held_L (List.cons_ne_nil _ _) (fun v hv => by rw [List.mem_singleton.mp hv]; exact hg), flatT_cons, flatT_nil, L_tk]
    rw [e]
    exact once_tok hg
  · rw [hsp]
    refine round_tok (fun v hv => (words_good h v hv).1) ?_
    unfold wordsOf
    rw [if_neg hb]
    exact names_nodup h
  · rw [hsp]
    have h2 := sum_le (f := (·.length)) (M := 20) (wordsOf pl cnt m) fun p hp => (words_good h p hp).2
    have h3 := words_len (m := m) h
    lia
  · have h2 := ring_two h hel he hb ho
    have hw : wordsOf pl cnt m = namesOf pl (bitsOf cnt m) := by unfold wordsOf; rw [if_neg hb]
    refine x2a2 (split_last (l := wordsOf pl cnt m) (by rw [hw]; unfold namesOf; rw [List.length_map]; exact h2)) fun W w e hne => ?_
    have key := cut_join hne (w := w) (fun v hv => (words_good h v (by rw [e]; exact hv)).1)
    unfold cutAt
    rw [FF_words h, e, key]
    rfl
end
end
section
section
open Builtin.Str StrLaws
theorem slice_take (x : Str) {n : Nat} (h : n ≤ x.length) : L (Txt.slice x none (some (n : Int))) = (L x).take n := by
  have h1 := strSliceIndices_plain (Nat.zero_le n) h
  have h2 := sliced_plain x (Nat.zero_le n) h
  unfold Txt.slice
  rw [sliceIdx_none_lo]
  rw [Int.ofNat_zero] at h1 h2
  split
  · rename_i hq
    rw [h1] at hq
    simp at hq
    rw [hq, ← L_len, List.take_length]
  · show (List.toArray _).toList = _
    rw [h2, List.drop_zero]
    rfl
theorem sub_of_subset : ∀ (l2 l1 : List Nat), l1.Pairwise (· < ·) → l2.Pairwise (· < ·) → (∀ x ∈ l1, x ∈ l2) → l1.Sublist l2
  | [], l1, _, _, h => by
    cases l1 with
    | nil => exact List.Sublist.refl _
    | cons a l => exact absurd (h a (.head _)) (by simp)
  | b :: l2, [], _, _, _ => List.nil_sublist _
  | b :: l2, a :: l1, h1, h2, h => by
    have h1' := List.pairwise_cons.mp h1
    have h2' := List.pairwise_cons.mp h2
    by_cases e : a = b
    · subst e
      refine (sub_of_subset l2 l1 h1'.2 h2'.2 fun x hx => ?_).cons_cons a
      rcases List.mem_cons.mp (h x (.tail _ hx)) with e | hm
      · have := h1'.1 x hx; lia
      · exact hm
    · have ha : a ∈ l2 := by
        rcases List.mem_cons.mp (h a (.head _)) with e' | hm
        · exact absurd e' e
        · exact hm
      have hba := h2'.1 a ha
      refine (sub_of_subset l2 (a :: l1) h1 h2'.2 fun x hx => ?_).cons b
      rcases List.mem_cons.mp (h x hx) with e' | hm
      · rcases List.mem_cons.mp hx with e'' | hm
        · lia
        · have := h1'.1 x hm; lia
      · exact hm
theorem names_sub {pl : List Nat} {cnt m : Nat} (h : PlOk pl cnt) {bs : List Nat} (hne : bs ≠ []) (hs : bs.Pairwise (· < ·)) (hb : ∀ b ∈ bs, b < cnt) :
    (namesOf pl bs).Sublist (wordsOf pl cnt m) ↔ ∀ b ∈ bs, b ∈ bitsOf cnt m := by
  constructor
  · intro hS b hb'
    have hm : flagName (plAt pl b) ∈ wordsOf pl cnt m := hS.subset (List.mem_map_of_mem hb')
    unfold wordsOf at hm
    split at hm
    · exact absurd (List.mem_singleton.mp hm) (flag_zero _ (plAt_lt h (hb b hb')))
    · refine x1a2 (List.mem_map.mp hm) fun k hk e => ?_
      have := name_inj h (bits_lt k hk) (hb b hb') e
      rw [← this]
      exact hk
  · intro hS
    have hn : bitsOf cnt m ≠ [] := by
      intro e
      cases bs with
      | nil => exact hne rfl
      | cons b r =>
        have := hS b (.head _)
        rw [e] at this
        cases this
    unfold wordsOf
    rw [if_neg hn]
    exact (sub_of_subset _ _ hs bits_sorted hS).map _
theorem ell_words {pl : List Nat} {cnt m : Nat} (h : PlOk pl cnt) {bs : List Nat} (hne : bs ≠ []) (hs : bs.Pairwise (· < ·)) (hb : ∀ b ∈ bs, b < cnt) :
    ellM (pattern (Txt.join (Str.ofString ", ") (namesOf pl bs))) (heldOf (FF pl cnt m)) = true ↔ ∀ b ∈ bs, b ∈ bitsOf cnt m := by
  have hn : namesOf pl bs ≠ [] := by simpa [namesOf] using hne
  have hg := fun v hv => (names_good h hb v hv).1
  have hx : L (heldOf (FF pl cnt m)) = flatT (wordsOf pl cnt m) := by
    rw [FF_words h]
    exact held_L (words_ne h) fun v hv => (words_good h v hv).1
  rw [pat_eq hn hg, ell_both hg (fun v hv => (words_good h v hv).1) hx, names_sub h hne hs hb]
theorem ell_ring {pl : List Nat} {cnt r m : Nat} (h : PlOk pl cnt) (hr : bitsOf cnt r ≠ []) :
    ellM (pattern (FF pl cnt r)) (heldOf (FF pl cnt m)) = true ↔ ∀ b ∈ bitsOf cnt r, b ∈ bitsOf cnt m := by
  have e : FF pl cnt r = Txt.join (Str.ofString ", ") (namesOf pl (bitsOf cnt r)) := flags_words h hr bits_sorted bits_lt
  rw [e]
  exact ell_words h hr bits_sorted bits_lt
theorem ell_broken {pl : List Nat} {cnt r m : Nat} (h : PlOk pl cnt) {bs : List Nat} {t : Nat} (e : bitsOf cnt r = bs ++ [t]) (hne : bs ≠ []) :
    ellM (pattern (cutOf (FF pl cnt r))) (heldOf (FF pl cnt m)) = true ↔ ∀ b ∈ bs, b ∈ bitsOf cnt m := by
  have hs : (bs ++ [t]).Pairwise (· < ·) := by rw [← e]; exact bits_sorted
  have hlt : ∀ b ∈ bs ++ [t], b < cnt := by rw [← e]; exact bits_lt
  have hw : FF pl cnt r = Txt.join (Str.ofString ", ") (namesOf pl bs ++ [flagName (plAt pl t)]) := by
    have := flags_words h (bs := bitsOf cnt r) (by rw [e]; simp) bits_sorted bits_lt
    rw [e] at this
    unfold FF
    rw [e, this]
    unfold namesOf
    rw [List.map_append]
    rfl
  have hn : namesOf pl bs ≠ [] := by simpa [namesOf] using hne
  have hg : ∀ v ∈ namesOf pl bs ++ [flagName (plAt pl t)], GoodW v := fun v hv => by
    have : namesOf pl bs ++ [flagName (plAt pl t)] = namesOf pl (bs ++ [t]) := by unfold namesOf; rw [List.map_append]; rfl
    rw [this] at hv
    exact (names_good h hlt v hv).1
  have hcut : cutOf (FF pl cnt r) = Txt.join (Str.ofString ", ") (namesOf pl bs) := by
    have key := cut_join hn hg
    have ht := cut_take (w := flagName (plAt pl t)) hn
    unfold cutOf cutAt
    rw [hw, key]
    apply L_ext
    show L (Txt.slice _ none (some (((Txt.join (Str.ofString ", ") (namesOf pl bs)).length : Nat) : Int))) = _
    rw [slice_take _ ?_, ht]
    have := congrArg List.length ht
    rw [List.length_take, L_len, L_len] at this
    lia
  rw [hcut]
  exact ell_words h hne (List.pairwise_append.mp hs).1 fun b hb => hlt b (List.mem_append_left _ hb)
end
end
section
structure Nd where
  p : Nat
  xs : List Nat
  R : List Nat
  K : List (Nat × Nat)
  g : Nat
noncomputable def subB (b m : Nat) : Bool := Nat.beq (Nat.land b m) b
noncomputable def ndRings (v p : Nat) : List Nat → Nat → List Nat → List Nat
  | [], _, R => R
  | x :: xs, m, R => ndRings v p xs (m + 1) (if Nat.beq x v && !(R.any fun r => subB r (m + p)) then R ++ [m + p] else R)
noncomputable def ndNew (p : Nat) (R : List Nat) : List Nat := (R.filter fun r => Nat.ble p r).map fun r => r - p
noncomputable def ndStep (st : Nd) (i v : Nat) : Nd :=
  let R' := ndRings v st.p st.xs 0 st.R
  let N := ndNew st.p R'
  let K' := st.K.filter fun k => !(N.any fun b => subB b k.1)
  ⟨st.p * 2, st.xs ++ st.xs.map (fun x => Nat.xor x v), R', K' ++ K'.map (fun k => (k.1 + st.p, k.2 * 64)), Nat.lor st.g (2 ^ i)⟩
noncomputable def nd0 : Nd := ⟨1, [0], [], [(0, 1)], 0⟩
noncomputable def vs6 : List (Nat × Nat) := [(0, 3), (1, 5), (2, 6), (3, 9), (4, 10), (5, 12)]
noncomputable def ndN (st : Nd) : Nat := (st.K.map (·.2)).sum
noncomputable def T6 : List Nat := [1, 65, 65, 4225, 65, 4225, 4225, 8385, 65, 4225, 4225, 274625, 4225, 274625, 274625, 545025, 65, 4225, 4225, 274625, 4225, 274625, 274625, 545025, 4225, 8385, 274625, 545025, 274625, 545025, 811265, 1081665, 65, 4225, 4225, 274625, 4225, 274625, 274625, 545025, 4225, 274625, 8385, 545025, 274625, 811265, 545025, 1081665, 4225, 274625, 274625, 811265, 8385, 545025, 545025, 1081665, 274625, 545025, 545025, 1081665, 545025, 1081665, 1081665, 1618305]
noncomputable def chk : Nat → Nd → Bool
  | 0, st => Nat.beq (ndN st) (T6[st.g]?.getD 0)
  | d + 1, st => vs6.all fun i => chk d (ndStep st i.1 i.2)
theorem chk_all {d : Nat} {st : Nd} (a : chk d (ndStep st 0 3) = true) (b : chk d (ndStep st 1 5) = true) (c : chk d (ndStep st 2 6) = true) (e : chk d (ndStep st 3 9) = true) (f : chk d (ndStep st 4 10) = true) (g : chk d (ndStep st 5 12) = true) : chk (d + 1) st = true := by
  show vs6.all (fun i => chk d (ndStep st i.1 i.2)) = true
  unfold vs6
  simp only [List.all_cons, List.all_nil, a, b, c, e, f, g, Bool.and_self]
theorem chk4 : chk 4 nd0 = true := chk_all (by decide +kernel) (by decide +kernel) (by decide +kernel) (by decide +kernel) (by decide +kernel) (by decide +kernel)
theorem chk5_0 : chk 4 (ndStep nd0 0 3) = true := chk_all (by decide +kernel) (by decide +kernel) (by decide +kernel) (by decide +kernel) (by decide +kernel) (by decide +kernel)
theorem chk5_1 : chk 4 (ndStep nd0 1 5) = true := chk_all (by decide +kernel) (by decide +kernel) (by decide +kernel) (by decide +kernel) (by decide +kernel) (by decide +kernel)
theorem chk5_2 : chk 4 (ndStep nd0 2 6) = true := chk_all (by decide +kernel) (by decide +kernel) (by decide +kernel) (by decide +kernel) (by decide +kernel) (by decide +kernel)
theorem chk5_3 : chk 4 (ndStep nd0 3 9) = true := chk_all (by decide +kernel) (by decide +kernel) (by decide +kernel) (by decide +kernel) (by decide +kernel) (by decide +kernel)
theorem chk5_4 : chk 4 (ndStep nd0 4 10) = true := chk_all (by decide +kernel) (by decide +kernel) (by decide +kernel) (by decide +kernel) (by decide +kernel) (by decide +kernel)
theorem chk5_5 : chk 4 (ndStep nd0 5 12) = true := chk_all (by decide +kernel) (by decide +kernel) (by decide +kernel) (by decide +kernel) (by decide +kernel) (by decide +kernel)
theorem chk5 : chk 5 nd0 = true := chk_all chk5_0 chk5_1 chk5_2 chk5_3 chk5_4 chk5_5
end
section
noncomputable def bitsN (n m : Nat) : List Nat := (List.range n).filter fun k => m / 2 ^ k % 2 == 1
noncomputable def vOf (e : Nat × Nat) : Nat := Nat.xor (2 ^ e.1) (2 ^ e.2)
noncomputable def tieAt (es : List (Nat × Nat)) (k : Nat) : Nat × Nat := es[k]?.getD (0, 0)
noncomputable def xorL (l : List Nat) : Nat := l.foldl Nat.xor 0
noncomputable def par (es : List (Nat × Nat)) (m : Nat) : Nat := xorL ((bitsN es.length m).map fun k => vOf (tieAt es k))
noncomputable def stepM (es : List (Nat × Nat)) (R : List Nat) (m : Nat) : List Nat := if m ≠ 0 ∧ par es m = 0 ∧ (R.any fun r => subB r m) = false then R ++ [m] else R
noncomputable def ringsM (es : List (Nat × Nat)) (n : Nat) : List Nat := (List.range n).foldl (stepM es) []
noncomputable def cutM (r : Nat) : Nat := r - 2 ^ r.log2
noncomputable def keptM (es : List (Nat × Nat)) : List Nat := (List.range (2 ^ es.length)).filter fun m => !((ringsM es (2 ^ es.length)).any fun r => subB (cutM r) m)
theorem bitsN_lt {n m : Nat} (h : m < 2 ^ n) : bitsN (n + 1) m = bitsN n m := by
  unfold bitsN
  have e : List.filter (fun k => m / 2 ^ k % 2 == 1) [n] = [] := by
    rw [List.filter_cons, Nat.div_eq_of_lt h]; rfl
  rw [List.range_succ, List.filter_append, e]
  exact List.append_nil _
theorem div_add_bit {n m k : Nat} (hk : k < n) : (2 ^ n + m) / 2 ^ k % 2 = m / 2 ^ k % 2 := by
  have e : 2 ^ n = 2 ^ k * (2 * 2 ^ (n - k - 1)) := by
    rw [← Nat.mul_assoc, Nat.mul_comm (2 ^ k) 2, ← Nat.pow_succ', ← Nat.pow_add]
    congr 1
    omega
  rw [e, Nat.mul_add_div (Nat.two_pow_pos k), Nat.mul_add_mod]
theorem bitsN_add {n m : Nat} (h : m < 2 ^ n) : bitsN (n + 1) (2 ^ n + m) = bitsN n m ++ [n] := by
  unfold bitsN
  rw [List.range_succ, List.filter_append]
  congr 1
  · refine List.filter_congr fun k hk => ?_
    rw [div_add_bit (List.mem_range.mp hk)]
  · rw [List.filter_cons, Nat.add_div_left _ (Nat.two_pow_pos n), Nat.div_eq_of_lt h]
    rfl
theorem tieAt_left {es : List (Nat × Nat)} {e : Nat × Nat} {k : Nat} (h : k < es.length) : tieAt (es ++ [e]) k = tieAt es k := by
  unfold tieAt; rw [List.getElem?_append_left h]
theorem tieAt_last {es : List (Nat × Nat)} {e : Nat × Nat} : tieAt (es ++ [e]) es.length = e := by
  unfold tieAt; rw [List.getElem?_append_right (Nat.le_refl _)]; simp
theorem mem_bitsN {n m b : Nat} : b ∈ bitsN n m ↔ b < n ∧ m / 2 ^ b % 2 = 1 := by
  unfold bitsN; rw [List.mem_filter, List.mem_range, beq_iff_eq]
theorem vmap_left {es : List (Nat × Nat)} {e : Nat × Nat} {m : Nat} : ((bitsN es.length m).map fun k => vOf (tieAt (es ++ [e]) k)) = (bitsN es.length m).map fun k => vOf (tieAt es k) :=
  List.map_congr_left fun k hk => by rw [tieAt_left (mem_bitsN.mp hk).1]
theorem par_lt {es : List (Nat × Nat)} {e : Nat × Nat} {m : Nat} (h : m < 2 ^ es.length) : par (es ++ [e]) m = par es m := by
  unfold par
  rw [List.length_append, List.length_singleton, bitsN_lt h, vmap_left]
theorem par_add {es : List (Nat × Nat)} {e : Nat × Nat} {m : Nat} (h : m < 2 ^ es.length) : par (es ++ [e]) (2 ^ es.length + m) = Nat.xor (par es m) (vOf e) := by
  unfold par
  rw [List.length_append, List.length_singleton, bitsN_add h, List.map_append, vmap_left]
  unfold xorL
  rw [List.foldl_append, List.map_cons, tieAt_last]
  rfl
theorem stepM_lt {es : List (Nat × Nat)} {e : Nat × Nat} {m : Nat} {R : List Nat} (h : m < 2 ^ es.length) : stepM (es ++ [e]) R m = stepM es R m := by
  unfold stepM; rw [par_lt h]
theorem foldl_congr' {α β : Type} {f g : β → α → β} : ∀ (l : List α) (b : β), (∀ x ∈ l, ∀ b, f b x = g b x) → l.foldl f b = l.foldl g b
  | [], _, _ => rfl
  | a :: l, b, h => by
    rw [List.foldl_cons, List.foldl_cons, h a (.head _) b]
    exact foldl_congr' l _ fun x hx => h x (.tail _ hx)
theorem ringsM_lt {es : List (Nat × Nat)} {e : Nat × Nat} : ringsM (es ++ [e]) (2 ^ es.length) = ringsM es (2 ^ es.length) :=
  foldl_congr' _ _ fun m hm b => stepM_lt (List.mem_range.mp hm)
theorem xor_zero_iff {a b : Nat} : Nat.xor a b = 0 ↔ a = b := by
  constructor
  · intro h
    apply Nat.eq_of_testBit_eq
    intro i
    have h1 : (a ^^^ b).testBit i = false := by
      show (Nat.xor a b).testBit i = false
      rw [h]; exact Nat.zero_testBit i
    rw [Nat.testBit_xor] at h1
    cases ha : a.testBit i <;> cases hb : b.testBit i <;> rw [ha, hb] at h1 <;> simp_all
  · rintro rfl; exact Nat.xor_self a
theorem ndRings_eq {es : List (Nat × Nat)} {e : Nat × Nat} : ∀ (c m : Nat) (R : List Nat), m + c ≤ 2 ^ es.length →
    ndRings (vOf e) (2 ^ es.length) ((List.range' m c).map (par es)) m R = (List.range' m c).foldl (fun R k => stepM (es ++ [e]) R (2 ^ es.length + k)) R
  | 0, _, _, _ => rfl
  | c + 1, m, R, h => by
    rw [List.range'_succ, List.map_cons, List.foldl_cons]
    unfold ndRings
    rw [ndRings_eq c (m + 1) _ (by lia)]
    congr 1
    unfold stepM
    rw [par_add (by lia), Nat.add_comm m]
    have hp := Nat.two_pow_pos es.length
    have hb : (Nat.beq (par es m) (vOf e) = true) ↔ Nat.xor (par es m) (vOf e) = 0 := by
      rw [xor_zero_iff]; exact Nat.beq_eq ▸ Iff.rfl
    by_cases h1 : Nat.xor (par es m) (vOf e) = 0
    · rw [hb.mpr h1]
      by_cases h2 : (R.any fun r => subB r (2 ^ es.length + m)) = false
      · rw [if_pos (by rw [h2]; rfl), if_pos ⟨by lia, h1, h2⟩]
      · rw [if_neg (by intro q; apply h2; rw [Bool.true_and, Bool.not_eq_true'] at q; exact q), if_neg fun q => h2 q.2.2]
    · rw [if_neg (by intro q; exact h1 (hb.mp (Bool.and_eq_true_iff.mp q).1)), if_neg fun q => h1 q.2.1]
theorem ringsM_step {es : List (Nat × Nat)} {e : Nat × Nat} : ndRings (vOf e) (2 ^ es.length) ((List.range (2 ^ es.length)).map (par es)) 0 (ringsM es (2 ^ es.length)) = ringsM (es ++ [e]) (2 ^ (es ++ [e]).length) := by
  rw [List.range_eq_range', ndRings_eq _ _ _ (by lia), List.length_append, List.length_singleton, Nat.pow_succ, Nat.mul_two]
  unfold ringsM
  rw [List.range_add, List.foldl_append, List.foldl_map, ← List.range_eq_range']
  congr 1
  exact ringsM_lt.symm
theorem stepM_mem {es : List (Nat × Nat)} {R : List Nat} {m : Nat} : ∃ X, stepM es R m = R ++ X ∧ ∀ x ∈ X, x = m ∧ m ≠ 0 ∧ par es m = 0 := by
  unfold stepM
  split
  · rename_i h
    exact k1a2 ([m]) rfl (fun x hx => ⟨List.mem_singleton.mp hx, h.1, h.2.1⟩)
  · exact k1a2 ([]) ((List.append_nil _).symm) (fun x hx => by cases hx)
theorem fold_mem {es : List (Nat × Nat)} : ∀ (l R : List Nat), ∃ X, l.foldl (stepM es) R = R ++ X ∧ ∀ x ∈ X, x ∈ l ∧ x ≠ 0 ∧ par es x = 0
  | [], R => ⟨[], (List.append_nil _).symm, fun x hx => by cases hx⟩
  | m :: l, R => by
    refine x1a2 (stepM_mem (es := es) (R := R) (m := m)) fun X h1 h2 => ?_
    refine x1a2 (fold_mem (es := es) l (R ++ X)) fun Y h3 h4 => ?_
    refine k1a2 (X ++ Y) (by rw [List.foldl_cons, h1, h3, List.append_assoc]) (fun x hx => ?_)
    rcases List.mem_append.mp hx with hx | hx
    · refine x0a2 (h2 x hx) fun qz210 h => ?_; subst qz210; exact ⟨.head _, h⟩
    · exact ⟨.tail _ (h4 x hx).1, (h4 x hx).2⟩
theorem ringsM_mem {es : List (Nat × Nat)} {n r : Nat} (h : r ∈ ringsM es n) : r < n ∧ r ≠ 0 ∧ par es r = 0 := by
  refine x1a2 (fold_mem (es := es) (List.range n) []) fun X h1 h2 => ?_
  unfold ringsM at h
  rw [h1] at h
  have := h2 r (by simpa using h)
  exact ⟨List.mem_range.mp this.1, this.2⟩
theorem ringsM_new {es : List (Nat × Nat)} {e : Nat × Nat} : ∃ X, ringsM (es ++ [e]) (2 ^ (es ++ [e]).length) = ringsM es (2 ^ es.length) ++ X ∧ ∀ x ∈ X, 2 ^ es.length ≤ x ∧ x < 2 ^ es.length * 2 := by
  rw [List.length_append, List.length_singleton, Nat.pow_succ]
  unfold ringsM
  rw [Nat.mul_two, List.range_add, List.foldl_append]
  refine x1a2 (fold_mem (es := es ++ [e]) ((List.range (2 ^ es.length)).map fun x => 2 ^ es.length + x) ((List.range (2 ^ es.length)).foldl (stepM (es ++ [e])) [])) fun X h1 h2 => ?_
  refine k1a2 X ?_ (fun x hx => ?_)
  · rw [h1]
    congr 1
    exact ringsM_lt
  · refine x1a2 (List.mem_map.mp (h2 x hx).1) fun k hk qz512 => ?_; subst qz512
    have := List.mem_range.mp hk
    lia
theorem cutM_top {n x : Nat} (h1 : 2 ^ n ≤ x) (h2 : x < 2 ^ n * 2) : cutM x = x - 2 ^ n := by
  have hp := Nat.two_pow_pos n
  unfold cutM
  rw [(Nat.log2_eq_iff (by lia)).mpr ⟨h1, by rw [Nat.pow_succ]; exact h2⟩]
theorem ndNew_eq {p : Nat} {R X : List Nat} (h1 : ∀ r ∈ R, r < p) (h2 : ∀ x ∈ X, p ≤ x) : ndNew p (R ++ X) = X.map fun r => r - p := by
  unfold ndNew
  rw [List.filter_append]
  have e1 : R.filter (fun r => Nat.ble p r) = [] := List.filter_eq_nil_iff.mpr fun r hr => by
    have := h1 r hr
    intro q
    have := Nat.le_of_ble_eq_true q
    lia
  have e2 : X.filter (fun r => Nat.ble p r) = X := List.filter_eq_self.mpr fun x hx => Nat.ble_eq_true_of_le (h2 x hx)
  rw [e1, e2]; rfl
theorem subB_iff {b m : Nat} : subB b m = true ↔ ∀ i, b.testBit i = true → m.testBit i = true := by
  have e : subB b m = true ↔ b &&& m = b := Nat.beq_eq ▸ Iff.rfl
  rw [e]
  constructor
  · intro h i hi
    have := congrArg (fun x => Nat.testBit x i) h
    simp only [Nat.testBit_and, hi, Bool.true_and] at this
    exact this
  · intro h
    apply Nat.eq_of_testBit_eq
    intro i
    rw [Nat.testBit_and]
    cases hb : b.testBit i
    · rfl
    · rw [h i hb]; rfl
theorem subB_add {n b m : Nat} (hb : b < 2 ^ n) : subB b (2 ^ n + m) = subB b m := by
  rw [Bool.eq_iff_iff, subB_iff, subB_iff]
  have key : ∀ i, b.testBit i = true → (2 ^ n + m).testBit i = m.testBit i := by
    intro i hi
    refine Nat.testBit_two_pow_add_gt ?_ m
    rcases Nat.lt_or_ge i n with q | q
    · exact q
    · rw [Nat.testBit_lt_two_pow (Nat.lt_of_lt_of_le hb (Nat.pow_le_pow_right (by decide) q))] at hi
      cases hi
  exact ⟨fun h i hi => by rw [← key i hi]; exact h i hi, fun h i hi => by rw [key i hi]; exact h i hi⟩
theorem cutM_lt {n r : Nat} (h0 : r ≠ 0) (h : r < 2 ^ (n + 1)) : cutM r < 2 ^ n := by
  have h1 := (Nat.log2_eq_iff h0 (k := r.log2)).mp rfl
  have h2 : r.log2 ≤ n := by
    rcases Nat.lt_or_ge n r.log2 with q | q
    · have := Nat.pow_le_pow_right (n := 2) (by decide) q
      grind
    · exact q
  have h3 := Nat.pow_le_pow_right (n := 2) (by decide) h2
  have h4 := h1.2
  rw [Nat.pow_succ] at h4
  unfold cutM
  omega
theorem keptM_snoc {es : List (Nat × Nat)} {e : Nat × Nat} {X : List Nat} (hX : ringsM (es ++ [e]) (2 ^ (es ++ [e]).length) = ringsM es (2 ^ es.length) ++ X) (hX2 : ∀ x ∈ X, 2 ^ es.length ≤ x ∧ x < 2 ^ es.length * 2) :
    keptM (es ++ [e]) = ((keptM es).filter fun m => !((X.map fun r => r - 2 ^ es.length).any fun b => subB b m)) ++ ((keptM es).filter fun m => !((X.map fun r => r - 2 ^ es.length).any fun b => subB b m)).map fun m => 2 ^ es.length + m := by
  have hany : ∀ m, ((ringsM es (2 ^ es.length) ++ X).any fun r => subB (cutM r) m) = (((ringsM es (2 ^ es.length)).any fun r => subB (cutM r) m) || ((X.map fun r => r - 2 ^ es.length).any fun b => subB b m)) := by
    intro m
    rw [List.any_append, List.any_map]
    congr 1
    rw [Bool.eq_iff_iff, List.any_eq_true, List.any_eq_true]
    constructor
    · rintro ⟨x, hx, h⟩; exact k1a2 x hx (by rw [cutM_top (hX2 x hx).1 (hX2 x hx).2] at h; exact h)
    · rintro ⟨x, hx, h⟩; exact k1a2 x hx (by rw [cutM_top (hX2 x hx).1 (hX2 x hx).2]; exact h)
  have hany2 : ∀ m, ((ringsM (es ++ [e]) (2 ^ (es ++ [e]).length)).any fun r => subB (cutM r) (2 ^ es.length + m)) = ((ringsM (es ++ [e]) (2 ^ (es ++ [e]).length)).any fun r => subB (cutM r) m) := by
    intro m
    rw [Bool.eq_iff_iff, List.any_eq_true, List.any_eq_true]
    have key : ∀ r ∈ ringsM (es ++ [e]) (2 ^ (es ++ [e]).length), subB (cutM r) (2 ^ es.length + m) = subB (cutM r) m := fun r hr => by
      have := ringsM_mem hr
      exact subB_add (cutM_lt this.2.1 (by have h := this.1; rw [List.length_append, List.length_singleton] at h; exact h))
    exact ⟨fun ⟨r, hr, h⟩ => ⟨r, hr, by rw [← key r hr]; exact h⟩, fun ⟨r, hr, h⟩ => ⟨r, hr, by rw [key r hr]; exact h⟩⟩
  have hp : (List.range (2 ^ es.length)).filter (fun m => !((ringsM (es ++ [e]) (2 ^ (es ++ [e]).length)).any fun r => subB (cutM r) m)) = (keptM es).filter fun m => !((X.map fun r => r - 2 ^ es.length).any fun b => subB b m) := by
    unfold keptM
    rw [List.filter_filter]
    refine List.filter_congr fun m _ => ?_
    rw [hX, hany, Bool.not_or, Bool.and_comm]
  have hl : keptM (es ++ [e]) = (List.range (2 ^ es.length + 2 ^ es.length)).filter fun m => !((ringsM (es ++ [e]) (2 ^ (es ++ [e]).length)).any fun r => subB (cutM r) m) := by
    have : 2 ^ (es ++ [e]).length = 2 ^ es.length + 2 ^ es.length := by rw [List.length_append, List.length_singleton, Nat.pow_succ, Nat.mul_two]
    unfold keptM
    rw [← this]
  rw [hl, List.range_add, List.filter_append, hp, List.filter_map]
  congr 1
  congr 1
  rw [← hp]
  refine List.filter_congr fun m _ => ?_
  show (!_) = _
  rw [hany2]
end
section
noncomputable def idxE (e : Nat × Nat) : Nat := [(0, 1), (0, 2), (1, 2), (0, 3), (1, 3), (2, 3)].idxOf e
noncomputable def stepE (st : Nd) (e : Nat × Nat) : Nd := ndStep st (idxE e) (vOf e)
noncomputable def gOf (es : List (Nat × Nat)) : Nat := es.foldl (fun g e => Nat.lor g (2 ^ idxE e)) 0
noncomputable def wt (n m : Nat) : Nat := 64 ^ (bitsN n m).length
structure NdOk (es : List (Nat × Nat)) (st : Nd) : Prop where
  p : st.p = 2 ^ es.length
  xs : st.xs = (List.range (2 ^ es.length)).map (par es)
  R : st.R = ringsM es (2 ^ es.length)
  K : st.K = (keptM es).map fun m => (m, wt es.length m)
  g : st.g = gOf es
theorem ok_nil : NdOk [] nd0 := ⟨by decide, by decide, by decide, by decide, by decide⟩
theorem keptM_lt {es : List (Nat × Nat)} {m : Nat} (h : m ∈ keptM es) : m < 2 ^ es.length := List.mem_range.mp (List.mem_filter.mp h).1
theorem ok_step {es : List (Nat × Nat)} {st : Nd} (e : Nat × Nat) (h : NdOk es st) : NdOk (es ++ [e]) (stepE st e) := by
  have hlen : (es ++ [e]).length = es.length + 1 := by simp
  have hR : (stepE st e).R = ringsM (es ++ [e]) (2 ^ (es ++ [e]).length) := by
    show ndRings (vOf e) st.p st.xs 0 st.R = _
    rw [h.p, h.xs, h.R, ringsM_step]
  refine x1a2 (ringsM_new (es := es) (e := e)) fun X hX hX2 => ?_
  refine ⟨?_, ?_, hR, ?_, ?_⟩
  · show st.p * 2 = _
    rw [h.p, hlen, Nat.pow_succ]
  · show st.xs ++ st.xs.map (fun x => Nat.xor x (vOf e)) = _
    rw [h.xs, hlen, Nat.pow_succ, Nat.mul_two, List.range_add, List.map_append, List.map_map, List.map_map]
    congr 1
    · exact List.map_congr_left fun m hm => (par_lt (List.mem_range.mp hm)).symm
    · exact List.map_congr_left fun m hm => (par_add (List.mem_range.mp hm)).symm
  · have hN : ndNew st.p (stepE st e).R = X.map fun r => r - 2 ^ es.length := by
      rw [hR, hX, h.p]
      exact ndNew_eq (fun r hr => (ringsM_mem hr).1) fun x hx => (hX2 x hx).1
    have hK : (stepE st e).K = (st.K.filter fun k => !((ndNew st.p (stepE st e).R).any fun b => subB b k.1)) ++ (st.K.filter fun k => !((ndNew st.p (stepE st e).R).any fun b => subB b k.1)).map fun k => (k.1 + st.p, k.2 * 64) := rfl
    rw [hK, hN, keptM_snoc hX hX2, h.K, List.filter_map, List.map_append, List.map_map, List.map_map, hlen, h.p]
    have hf : ((keptM es).filter ((fun k : Nat × Nat => !((X.map fun r => r - 2 ^ es.length).any fun b => subB b k.1)) ∘ fun m => (m, wt es.length m))) = (keptM es).filter fun m => !((X.map fun r => r - 2 ^ es.length).any fun b => subB b m) := rfl
    rw [hf]
    congr 1
    · refine List.map_congr_left fun m hm => ?_
      have := keptM_lt (List.mem_filter.mp hm).1
      unfold wt
      rw [bitsN_lt this]
    · refine List.map_congr_left fun m hm => ?_
      have := keptM_lt (List.mem_filter.mp hm).1
      show (m + 2 ^ es.length, wt es.length m * 64) = (2 ^ es.length + m, wt (es.length + 1) (2 ^ es.length + m))
      unfold wt
      rw [bitsN_add this, List.length_append, List.length_singleton, Nat.pow_succ, Nat.add_comm]
  · show Nat.lor st.g (2 ^ idxE e) = _
    unfold gOf
    rw [List.foldl_append, h.g]
    rfl
theorem ok_fold : ∀ (l es : List (Nat × Nat)) (st : Nd), NdOk es st → NdOk (es ++ l) (l.foldl stepE st)
  | [], es, st, h => by rw [List.append_nil]; exact h
  | e :: l, es, st, h => by
    have := ok_fold l (es ++ [e]) _ (ok_step e h)
    rw [List.append_assoc] at this
    exact this
theorem mem_vs6 {e : Nat × Nat} (h : e.1 < e.2 ∧ e.2 < 4) : (idxE e, vOf e) ∈ vs6 := by
  obtain ⟨a, b⟩ := e
  have : ∀ b, b < 4 → ∀ a, a < b → (idxE (a, b), vOf (a, b)) ∈ vs6 := by decide
  exact this b h.2 a h.1
theorem chk_sound : ∀ (l : List (Nat × Nat)) (st : Nd), chk l.length st = true → (∀ e ∈ l, e.1 < e.2 ∧ e.2 < 4) → ndN (l.foldl stepE st) = T6[(l.foldl stepE st).g]?.getD 0
  | [], st, h, _ => Nat.eq_of_beq_eq_true h
  | e :: l, st, h, he => by
    have h1 : vs6.all (fun i => chk l.length (ndStep st i.1 i.2)) = true := h
    exact chk_sound l (stepE st e) (List.all_eq_true.mp h1 _ (mem_vs6 (he e (.head _)))) fun x hx => he x (.tail _ hx)
theorem kept_sum {es : List (Nat × Nat)} (hl : es.length = 4 ∨ es.length = 5) (he : ∀ e ∈ es, e.1 < e.2 ∧ e.2 < 4) : ((keptM es).map fun m => 64 ^ (bitsN es.length m).length).sum = T6[gOf es]?.getD 0 := by
  have h1 := ok_fold es [] nd0 ok_nil
  rw [List.nil_append] at h1
  have h2 := chk_sound es nd0 (hl.elim (fun e => by rw [e]; exact chk4) fun e => by rw [e]; exact chk5) he
  rw [h1.g] at h2
  rw [← h2]
  unfold ndN
  rw [h1.K, List.map_map]
  rfl
theorem g_fold {i : Nat} : ∀ (l : List (Nat × Nat)) (g : Nat), (l.foldl (fun g e => Nat.lor g (2 ^ idxE e)) g).testBit i = (g.testBit i || l.any fun e => idxE e == i)
  | [], g => by rw [List.foldl_nil, List.any_nil, Bool.or_false]
  | e :: l, g => by
    rw [List.foldl_cons, g_fold l, List.any_cons, ← Bool.or_assoc]
    congr 1
    show (g ||| 2 ^ idxE e).testBit i = _
    rw [Nat.testBit_or, Nat.testBit_two_pow]
    rfl
theorem g_lt : ∀ (l : List (Nat × Nat)) (g : Nat), g < 2 ^ 6 → (∀ e ∈ l, e.1 < e.2 ∧ e.2 < 4) → l.foldl (fun g e => Nat.lor g (2 ^ idxE e)) g < 2 ^ 6
  | [], g, h, _ => h
  | e :: l, g, h, he => by
    refine g_lt l _ (Nat.or_lt_two_pow h ?_) fun x hx => he x (.tail _ hx)
    have := mem_vs6 (he e (.head _))
    have hv : ∀ i ∈ vs6, i.1 < 6 := by decide
    exact Nat.pow_lt_pow_right (by decide) (hv _ this)
noncomputable def L6 : List (Nat × Nat) := [(0, 1), (0, 2), (1, 2), (0, 3), (1, 3), (2, 3)]
theorem mem_L6 {e : Nat × Nat} (h : e.1 < e.2 ∧ e.2 < 4) : e ∈ L6 := by
  obtain ⟨a, b⟩ := e
  have : ∀ b, b < 4 → ∀ a, a < b → (a, b) ∈ L6 := by decide
  exact this b h.2 a h.1
theorem idx_inj {e f : Nat × Nat} (h : e.1 < e.2 ∧ e.2 < 4) (h' : f.1 < f.2 ∧ f.2 < 4) (q : idxE e = idxE f) : e = f := by
  have : ∀ e ∈ L6, ∀ f ∈ L6, idxE e = idxE f → e = f := by decide
  exact this e (mem_L6 h) f (mem_L6 h') q
theorem g_bit {es : List (Nat × Nat)} (he : ∀ e ∈ es, e.1 < e.2 ∧ e.2 < 4) {f : Nat × Nat} (hf : f.1 < f.2 ∧ f.2 < 4) : (gOf es).testBit (idxE f) = es.contains f := by
  unfold gOf
  rw [g_fold, Nat.zero_testBit, Bool.false_or, Bool.eq_iff_iff, List.any_eq_true, List.contains_iff_mem]
  constructor
  · rintro or1
    refine x1a2 or1 fun e h1 h2 => ?_; clear or1
    rw [← idx_inj (he e h1) hf (eq_of_beq h2)]
    exact h1
  · intro h; exact k1a2 f h (beq_self_eq_true _)
end
section
section
open Builtin.Str StrLaws
theorem bits_N {cnt m : Nat} : bitsOf cnt m = bitsN cnt m := rfl
theorem mem_bits {n m b : Nat} (h : m < 2 ^ n) : b ∈ bitsN n m ↔ m.testBit b = true := by
  rw [mem_bitsN, Nat.testBit_eq_decide_div_mod_eq, decide_eq_true_iff]
  refine ⟨fun q => q.2, fun q => ⟨?_, q⟩⟩
  rcases Nat.lt_or_ge b n with hb | hb
  · exact hb
  · rw [Nat.div_eq_of_lt (Nat.lt_of_lt_of_le h (Nat.pow_le_pow_right (by decide) hb))] at q
    cases q
theorem bits_nil {n m : Nat} (h : m < 2 ^ n) : bitsN n m ≠ [] ↔ m ≠ 0 := by
  constructor
  · rintro q rfl
    apply q
    unfold bitsN
    rw [List.filter_eq_nil_iff]
    intro k _
    rw [Nat.zero_div]
    decide
  · intro q e
    refine x1a1 (Nat.exists_testBit_of_ne_zero q) fun i hi => ?_
    have := (mem_bits h).mpr hi
    rw [e] at this
    cases this
theorem sub_bits {n r m : Nat} {N : Nat} (hr : r < 2 ^ n) (hm : m < 2 ^ N) : (∀ b ∈ bitsN n r, b ∈ bitsN N m) ↔ subB r m = true := by
  rw [subB_iff]
  exact ⟨fun h i hi => (mem_bits hm).mp (h i ((mem_bits hr).mpr hi)), fun h i hi => (mem_bits hm).mpr (h i ((mem_bits hr).mp hi))⟩
theorem bitsN_le {n m : Nat} (h : m < 2 ^ n) : ∀ d, bitsN (n + d) m = bitsN n m
  | 0 => rfl
  | d + 1 => by
    rw [← Nat.add_assoc, bitsN_lt (Nat.lt_of_lt_of_le h (Nat.pow_le_pow_right (by decide) (Nat.le_add_right _ _))), bitsN_le h d]
theorem bits_top {cnt r : Nat} (h0 : r ≠ 0) (h : r < 2 ^ cnt) : bitsN cnt r = bitsN r.log2 (cutM r) ++ [r.log2] ∧ cutM r < 2 ^ r.log2 := by
  have h1 := (Nat.log2_eq_iff h0 (k := r.log2)).mp rfl
  have h2 : r.log2 < cnt := by
    rcases Nat.lt_or_ge r.log2 cnt with q | q
    · exact q
    · have := Nat.pow_le_pow_right (n := 2) (by decide) q
      grind
  have h4 := h1.2
  rw [Nat.pow_succ] at h4
  have h3 : cutM r < 2 ^ r.log2 := by unfold cutM; omega
  refine ⟨?_, h3⟩
  have e : cnt = (r.log2 + 1) + (cnt - r.log2 - 1) := by grind
  rw [e, bitsN_le h1.2]
  have e2 : r = 2 ^ r.log2 + cutM r := by unfold cutM; grind
  have := bitsN_add h3
  rw [← e2] at this
  exact this
noncomputable def tcnt (es : List (Nat × Nat)) (s : Nat) (bs : List Nat) : Nat := (touched es bs).count s
theorem tcnt_cons {es : List (Nat × Nat)} {s b : Nat} {bs : List Nat} : tcnt es s (b :: bs) = tcnt es s bs + (if (tieAt es b).1 = s then 1 else 0) + (if (tieAt es b).2 = s then 1 else 0) := by
  unfold tcnt touched
  rw [List.map_cons, List.map_cons, List.count_append, List.count_append, List.count_cons, List.count_cons]
  simp only [beq_iff_eq]
  show _ + (if (tieAt es b).1 = s then 1 else 0) + (_ + (if (tieAt es b).2 = s then 1 else 0)) = _
  lia
theorem xor_bit {es : List (Nat × Nat)} {s : Nat} : ∀ (bs : List Nat) (a : Nat), ((bs.map fun k => vOf (tieAt es k)).foldl Nat.xor a).testBit s = (a.testBit s ^^ decide (tcnt es s bs % 2 = 1))
  | [], a => by
    show a.testBit s = _
    rw [show tcnt es s [] = 0 from rfl]
    simp
  | b :: bs, a => by
    rw [List.map_cons, List.foldl_cons, xor_bit bs, tcnt_cons]
    have e : (Nat.xor a (vOf (tieAt es b))).testBit s = (a.testBit s ^^ (decide ((tieAt es b).1 = s) ^^ decide ((tieAt es b).2 = s))) := by
      show (a ^^^ (2 ^ (tieAt es b).1 ^^^ 2 ^ (tieAt es b).2)).testBit s = _
      rw [Nat.testBit_xor, Nat.testBit_xor, Nat.testBit_two_pow, Nat.testBit_two_pow]
    rw [e, Bool.xor_assoc]
    congr 1
    generalize tcnt es s bs = c
    by_cases h1 : (tieAt es b).1 = s <;> by_cases h2 : (tieAt es b).2 = s <;> simp only [h1, h2, if_true, if_false, decide_true, decide_false, Bool.xor_false, Bool.false_xor, Bool.true_xor, Bool.xor_true, Bool.not_true, Bool.not_false, Nat.add_zero]
    · congr 1; rw [eq_iff_iff]; lia
    · rw [← decide_not]; congr 1; rw [eq_iff_iff]; lia
    · rw [← decide_not]; congr 1; rw [eq_iff_iff]; lia
theorem odd_iff {es : List (Nat × Nat)} {m : Nat} (he : ∀ e ∈ es, e.1 < e.2 ∧ e.2 < 4) : oddOf es (bitsOf es.length m) = [] ↔ par es m = 0 := by
  have hp : ∀ s, (par es m).testBit s = decide (tcnt es s (bitsOf es.length m) % 2 = 1) := fun s => by
    have := xor_bit (es := es) (s := s) (bitsN es.length m) 0
    rw [Nat.zero_testBit, Bool.false_xor] at this
    exact this
  have hbig : ∀ s, 4 ≤ s → tcnt es s (bitsOf es.length m) = 0 := fun s hs => by
    unfold tcnt
    rw [List.count_eq_zero]
    intro hm
    have key : ∀ b ∈ bitsOf es.length m, (es[b]?.getD (0, 0)).1 < 4 ∧ (es[b]?.getD (0, 0)).2 < 4 := fun b hb => by
      have hb' := bits_lt b hb
      rw [List.getElem?_eq_getElem hb']
      have := he _ (List.getElem_mem hb')
      exact ⟨Nat.lt_trans this.1 this.2, this.2⟩
    unfold touched at hm
    rcases List.mem_append.mp hm with hm | hm
    · refine x1a2 (List.mem_map.mp hm) fun b hb e => ?_
      have := (key b hb).1
      lia
    · refine x1a2 (List.mem_map.mp hm) fun b hb e => ?_
      have := (key b hb).2
      lia
  unfold oddOf
  rw [List.filter_eq_nil_iff]
  constructor
  · intro h
    apply Nat.eq_of_testBit_eq
    intro s
    rw [hp, Nat.zero_testBit, decide_eq_false_iff_not]
    rcases Nat.lt_or_ge s 4 with hs | hs
    · intro q
      exact h s (List.mem_range.mpr hs) (by rw [beq_iff_eq]; exact q)
    · rw [hbig s hs]; decide
  · intro h s _ q
    have := hp s
    rw [h, Nat.zero_testBit] at this
    exact absurd (eq_of_beq q) (decide_eq_false_iff_not.mp this.symm)
section
variable {pl : List Nat} {es : List (Nat × Nat)} (h : PlOk pl es.length) (he : ∀ e ∈ es, e.1 < e.2 ∧ e.2 < 4)
include h
theorem ell_sub {r m : Nat} (hr0 : r ≠ 0) (hr : r < 2 ^ es.length) (hm : m < 2 ^ es.length) : ellM (pattern (FF pl es.length r)) (heldOf (FF pl es.length m)) = subB r m := by
  rw [Bool.eq_iff_iff, ell_ring h ((bits_nil hr).mpr hr0)]
  exact sub_bits hr hm
include he
theorem ell_cut {r m : Nat} (hr0 : r ≠ 0) (hr : r < 2 ^ es.length) (hp : par es r = 0) (hm : m < 2 ^ es.length) : ellM (pattern (cutOf (FF pl es.length r))) (heldOf (FF pl es.length m)) = subB (cutM r) m := by
  refine x0a2 (bits_top hr0 hr) fun e hc => ?_
  have h2 := ring_two h rfl he ((bits_nil hr).mpr hr0) ((odd_iff he).mpr hp)
  rw [bits_N, e, List.length_append, List.length_singleton] at h2
  rw [Bool.eq_iff_iff, ell_broken h e (fun q => by rw [q] at h2; simp at h2)]
  exact sub_bits hc hm
theorem any_same {α : Type} {f g : α → Bool} : ∀ {l : List α}, (∀ x ∈ l, f x = g x) → l.any f = l.any g
  | [], _ => rfl
  | a :: l, q => by rw [List.any_cons, List.any_cons, q a (.head _), any_same fun x hx => q x (.tail _ hx)]
theorem rings_eq : ∀ n, n ≤ 2 ^ es.length → ringsTo (FF pl es.length) es es.length n = ringsM es n
  | 0, _ => rfl
  | n + 1, hn => by
    rw [ringsTo_succ, rings_eq n (by lia)]
    have e : ringsM es (n + 1) = stepM es (ringsM es n) n := by
      unfold ringsM; rw [List.range_succ, List.foldl_append]; rfl
    rw [e]
    have ha : ((ringsM es n).any fun r => ellM (pattern (FF pl es.length r)) (heldOf (FF pl es.length n))) = ((ringsM es n).any fun r => subB r n) :=
      any_same h he fun r hr => by
        have := ringsM_mem hr
        exact ell_sub h this.2.1 (by lia) (by lia)
    unfold ringStep stepM
    rw [ha]
    have h1 : bitsOf es.length n ≠ [] ↔ n ≠ 0 := bits_nil (by lia)
    have h2 := odd_iff (m := n) he
    by_cases hc : n ≠ 0 ∧ par es n = 0 ∧ ((ringsM es n).any fun r => subB r n) = false
    · rw [if_pos hc, if_pos ⟨h1.mpr hc.1, h2.mpr hc.2.1, hc.2.2⟩]
    · rw [if_neg hc, if_neg fun q => hc ⟨h1.mp q.1, h2.mp q.2.1, q.2.2⟩]
theorem kept_eq : kept (FF pl es.length) es.length (ringsTo (FF pl es.length) es es.length (2 ^ es.length)) = (keptM es).map fun m => (bitsN es.length m).length := by
  rw [rings_eq h he _ (Nat.le_refl _)]
  unfold kept keptM
  congr 1
  refine List.filter_congr fun m hm => ?_
  have hm' := List.mem_range.mp hm
  congr 1
  exact any_same h he fun r hr => by
    have := ringsM_mem hr
    exact ell_cut h he this.2.1 this.1 this.2.2 hm'
end
theorem mul_succ' (c x : Int) : (c + 1) * x = c * x + x := by rw [Int.add_mul, Int.one_mul]
/-- a sum over numbers of at most three, by how often each stands there -/
theorem sum_by (f : Nat → Int) : ∀ ks : List Nat, (∀ n ∈ ks, n ≤ 3) → (ks.map f).sum = (ks.count 0 : Nat) * f 0 + (ks.count 1 : Nat) * f 1 + (ks.count 2 : Nat) * f 2 + (ks.count 3 : Nat) * f 3
  | [], _ => by simp
  | n :: ks, h => by
    rw [List.map_cons, List.sum_cons, sum_by f ks fun m hm => h m (.tail _ hm)]
    have hn := h n (.head _)
    match n, hn with
    | 0, _ => rw [List.count_cons_self, List.count_cons_of_ne (by decide), List.count_cons_of_ne (by decide), List.count_cons_of_ne (by decide), Int.natCast_add, Int.natCast_one, mul_succ']; simp only [Int.add_assoc, Int.add_left_comm]
    | 1, _ => rw [List.count_cons_self, List.count_cons_of_ne (by decide), List.count_cons_of_ne (by decide), List.count_cons_of_ne (by decide), Int.natCast_add, Int.natCast_one, mul_succ']; simp only [Int.add_assoc, Int.add_left_comm]
    | 2, _ => rw [List.count_cons_self, List.count_cons_of_ne (by decide), List.count_cons_of_ne (by decide), List.count_cons_of_ne (by decide), Int.natCast_add, Int.natCast_one, mul_succ']; simp only [Int.add_assoc, Int.add_left_comm]
    | 3, _ => rw [List.count_cons_self, List.count_cons_of_ne (by decide), List.count_cons_of_ne (by decide), List.count_cons_of_ne (by decide), Int.natCast_add, Int.natCast_one, mul_succ']; simp only [Int.add_assoc, Int.add_left_comm, Int.add_comm]
theorem lin4 {A B C D N : Int} (h : A + C = B + D + N) : A + -B + C + -D = N := by lia
theorem dig {T c r : Nat} (e : T = c + 64 * r) (h : c < 64) : T % 64 = c ∧ T / 64 = r := by lia
noncomputable def sub6g (g : Nat) : List (Nat × Nat) := sub6 (g.testBit 0) (g.testBit 1) (g.testBit 2) (g.testBit 3) (g.testBit 4) (g.testBit 5)
noncomputable def tblOk (sz q g : Nat) : Bool :=
  Nat.beq (T6[g]?.getD 0 % 64 * q ^ 4 + T6[g]?.getD 0 / 64 / 64 % 64 * q ^ 2) (T6[g]?.getD 0 / 64 % 64 * q ^ 3 + T6[g]?.getD 0 / 64 / 64 / 64 * q ^ 1 + ((dueTo (sub6g g) sz (sz ^ 4)).filter (below q)).length)
theorem t_small : ∀ g, g < 64 → T6[g]?.getD 0 < 64 ^ 4 := by decide +kernel
theorem t_tab : ∀ sz, sz < 4 → ∀ q, q < 4 → 1 ≤ q → q ≤ sz → ∀ g, g < 64 → tblOk sz q g = true := by decide +kernel
theorem t_all {sz q g : Nat} (h1 : 1 ≤ q) (h2 : q ≤ sz) (h3 : sz ≤ 3) (hg : g < 64) : tblOk sz q g = true :=
  t_tab sz (Nat.lt_succ_of_le h3) q (Nat.lt_succ_of_le (Nat.le_trans h2 h3)) h1 h2 g hg
theorem sum_ge {f : Nat → Nat} : ∀ (l : List Nat), ∀ x ∈ l, f x ≤ (l.map f).sum
  | a :: l, x, hx => by
    rw [List.map_cons, List.sum_cons]
    rcases List.mem_cons.mp hx with rfl | hx
    · lia
    · have := sum_ge (f := f) l x hx; lia
theorem g_norm {es : List (Nat × Nat)} (he : ∀ e ∈ es, e.1 < e.2 ∧ e.2 < 4) : norm es = sub6g (gOf es) := by
  rw [norm_sub]
  unfold sub6g
  rw [← g_bit he (f := (0, 1)) (by decide), ← g_bit he (f := (0, 2)) (by decide), ← g_bit he (f := (1, 2)) (by decide), ← g_bit he (f := (0, 3)) (by decide), ← g_bit he (f := (1, 3)) (by decide), ← g_bit he (f := (2, 3)) (by decide)]
  rfl
theorem plain_sum : PlainSum := by
  intro pl es cnt hc hl hm hp hel he
  subst hel
  have h : PlOk pl es.length := ⟨hc, hl, hm, hp⟩
  have hs := kept_sum hc he
  have hg : gOf es < 64 := g_lt es 0 (by decide) he
  have hks := kept_eq h he
  have hle := kept_le (F := FF pl es.length) (cnt := es.length) (R := ringsTo (FF pl es.length) es es.length (2 ^ es.length)) (by lia)
  generalize kept (FF pl es.length) es.length (ringsTo (FF pl es.length) es es.length (2 ^ es.length)) = ks at *
  have hN : (ks.map (64 ^ ·)).sum = T6[gOf es]?.getD 0 := by
    rw [hks, List.map_map]; exact hs
  have ht := t_small _ hg
  have h3 : ∀ n ∈ ks, n ≤ 3 := fun n hn => by
    have h1 := sum_ge (f := (64 ^ ·)) ks n hn
    rw [hN] at h1
    rcases Nat.lt_or_ge n 4 with q | q
    · lia
    · have : 64 ^ 4 ≤ 64 ^ n := Nat.pow_le_pow_right (by decide) q
      lia
  refine ⟨h3, fun sz q hq1 hq2 hsz => ?_⟩
  have hT := Nat.eq_of_beq_eq_true (t_all hq1 hq2 hsz hg)
  rw [dueTo_norm he, g_norm he]
  have hc : ∀ k, ks.count k < 64 := fun k => Nat.lt_of_le_of_lt (Nat.le_trans List.count_le_length hle.1) (by decide)
  have e2 : T6[gOf es]?.getD 0 = ks.count 0 + 64 * (ks.count 1 + 64 * (ks.count 2 + 64 * ks.count 3)) := by
    rw [← hN]
    have := sum_by (fun n => ((64 ^ n : Nat) : Int)) ks h3
    have e : (ks.map fun n => ((64 ^ n : Nat) : Int)) = (ks.map (64 ^ ·)).map fun n : Nat => (n : Int) := by rw [List.map_map]; rfl
    rw [e, sum_cast] at this
    refine Int.ofNat_inj.mp (this.trans ?_)
    rw [show ((64 ^ 0 : Nat) : Int) = 1 from rfl, show ((64 ^ 1 : Nat) : Int) = 64 from rfl, show ((64 ^ 2 : Nat) : Int) = 64 * 64 from rfl, show ((64 ^ 3 : Nat) : Int) = 64 * (64 * 64) from rfl]
    simp only [Int.natCast_add, Int.natCast_mul]
    lia
  refine x0a2 (dig e2 (hc 0)) fun d0 r0 => ?_
  refine x0a2 (dig r0 (hc 1)) fun d1 r1 => ?_
  refine x0a2 (dig r1 (hc 2)) fun d2 r2 => ?_
  rw [d0, d1, d2, r2] at hT
  have hTi := congrArg (fun n : Nat => (n : Int)) hT
  simp only [Int.natCast_add, Int.natCast_mul] at hTi
  have hw := sum_by (fun n => (-1 : Int) ^ n * (q : Int) ^ (4 - n)) ks h3
  refine hw.trans ?_
  have hq : ∀ k : Nat, (q : Int) ^ k = ((q ^ k : Nat) : Int) := fun k => by simp
  have m0 : (-1 : Int) ^ 0 * (q : Int) ^ (4 - 0) = ((q ^ 4 : Nat) : Int) := by rw [hq, show (-1 : Int) ^ 0 = 1 from rfl, Int.one_mul]
  have m1 : (-1 : Int) ^ 1 * (q : Int) ^ (4 - 1) = -((q ^ 3 : Nat) : Int) := by rw [hq, show (-1 : Int) ^ 1 = -1 from rfl, Int.neg_mul, Int.one_mul]
  have m2 : (-1 : Int) ^ 2 * (q : Int) ^ (4 - 2) = ((q ^ 2 : Nat) : Int) := by rw [hq, show (-1 : Int) ^ 2 = 1 from rfl, Int.one_mul]
  have m3 : (-1 : Int) ^ 3 * (q : Int) ^ (4 - 3) = -((q ^ 1 : Nat) : Int) := by rw [hq, show (-1 : Int) ^ 3 = -1 from rfl, Int.neg_mul, Int.one_mul]
  rw [m0, m1, m2, m3, Int.mul_neg, Int.mul_neg]
  exact lin4 hTi
end
end
section
section
open Builtin.Str StrLaws
noncomputable def escL : List Nat → List Nat
  | [] => []
  | c :: r => if c = 34 then 92 :: 34 :: escL r else c :: escL r
noncomputable def bsL : List Nat → List Nat
  | [] => []
  | c :: r => 92 :: c :: bsL r
/-- what is asked of a word that is written -/
noncomputable def wordOk (w : Str) : Bool := !(L w).isEmpty && !(L w).contains 92 && decide (L (writtenQ w) = 34 :: (escL (L w) ++ [34, 32])) && decide (L (writtenB w) = bsL (L w) ++ [10])
theorem octets_ok : ∀ n, n < 256 → wordOk (octets n) = true := by decide +kernel
theorem tieW_ok : ∀ a, a < 4 → ∀ b, b < 4 → wordOk (tieW (a, b)) = true := by decide +kernel
structure WOk (w : Str) : Prop where
  ne : L w ≠ []
  nb : 92 ∉ L w
  q : L (writtenQ w) = 34 :: (escL (L w) ++ [34, 32])
  b : L (writtenB w) = bsL (L w) ++ [10]
theorem wok {w : Str} (h : wordOk w = true) : WOk w := by
  unfold wordOk at h
  simp only [Bool.and_eq_true, Bool.not_eq_true', decide_eq_true_iff] at h
  refine x0a2 h fun oy010 h4 => ?_; clear h; obtain ⟨⟨h1, h2⟩, h3⟩ := oy010
  refine ⟨fun e => (by rw [e] at h1; cases h1), fun q => ?_, h3, h4⟩
  rw [List.contains_iff_mem.mpr q] at h2; cases h2
theorem app_one (acc : Str) (c : Nat) (l : List Nat) : acc ++ ⟨#[c]⟩ ++ (⟨l.toArray⟩ : Str) = acc ++ ⟨(c :: l).toArray⟩ := by
  apply L_ext
  rw [L_app, L_app, L_app, List.append_assoc]
  rfl
theorem app_none (acc : Str) : acc ++ (⟨([] : List Nat).toArray⟩ : Str) = acc := by
  apply L_ext
  rw [L_app]
  simp
theorem emp_app (x : Str) : Str.ofString "" ++ x = x := by
  apply L_ext
  rw [L_app, show L (Str.ofString "") = [] by decide +kernel]
  rfl
theorem mk_L (x : Str) : (⟨(L x).toArray⟩ : Str) = x := by
  apply L_ext; simp
theorem tokQ_esc : ∀ (cs : List Nat) (acc : Str) (r : List Nat), 92 ∉ cs → tokQ (escL cs ++ 34 :: r) acc = (acc ++ ⟨cs.toArray⟩, r)
  | [], acc, r, _ => by
    show tokQ (34 :: r) acc = _
    rw [tokQ_cons, if_pos rfl, app_none]
  | c :: cs, acc, r, h => by
    have hc : c ≠ 92 := fun e => h (by rw [e]; exact .head _)
    have ih := fun acc => tokQ_esc cs acc r fun q => h (.tail _ q)
    unfold escL
    by_cases h34 : c = 34
    · subst h34
      rw [if_pos rfl]
      show tokQ (92 :: (34 :: (escL cs ++ 34 :: r))) acc = _
      rw [tokQ_cons, if_neg (by decide), if_pos rfl]
      show tokQ (escL cs ++ 34 :: r) (acc ++ ⟨#[34]⟩) = _
      rw [ih, app_one]
    · rw [if_neg h34]
      show tokQ (c :: (escL cs ++ 34 :: r)) acc = _
      rw [tokQ_cons, if_neg h34, if_neg hc, ih, app_one]
theorem tokB_bs : ∀ (cs : List Nat) (acc : Str) (r : List Nat), tokB (bsL cs ++ 10 :: r) acc = (acc ++ ⟨cs.toArray⟩, r)
  | [], acc, r => by
    show tokB (10 :: r) acc = _
    rw [tokB_cons, if_pos (by decide), app_none]
  | c :: cs, acc, r => by
    show tokB (92 :: (c :: (bsL cs ++ 10 :: r))) acc = _
    rw [tokB_cons, if_neg (by decide), if_pos rfl]
    show tokB (bsL cs ++ 10 :: r) (acc ++ ⟨#[c]⟩) = _
    rw [tokB_bs cs, app_one]
theorem run_space {ws : List Str} {r : List Nat} (h : LexRun ws r) : LexRun ws (32 :: r) := by
  have e : tok (32 :: r) = tok r := by rw [tok_cons, if_pos (by decide)]
  cases h with
  | nil h => exact .nil (by rw [e, h])
  | cons h h2 => exact .cons (by rw [e, h]) h2
theorem run_word {w : Str} {q : Int} {ws : List Str} {r : List Nat} (hw : WOk w) (h : LexRun ws r) : LexRun (w :: ws) (L (written w q) ++ r) := by
  unfold written
  by_cases hq : q = 1
  · rw [if_pos hq, hw.q]
    refine .cons (r' := 32 :: r) ?_ (run_space h)
    show tok (34 :: ((escL (L w) ++ [34, 32]) ++ r)) = _
    rw [tok_cons, if_neg (by decide), if_pos rfl, List.append_assoc]
    show tokQ (escL (L w) ++ 34 :: (32 :: r)) _ = _
    rw [tokQ_esc _ _ _ hw.nb, mk_L, emp_app]
  · rw [if_neg hq, hw.b]
    refine .cons (r' := r) ?_ h
    rw [List.append_assoc]
    show tok (bsL (L w) ++ 10 :: r) = _
    cases hl : L w with
    | nil => exact absurd hl hw.ne
    | cons c cs =>
      show tok (92 :: (c :: (bsL cs ++ 10 :: r))) = _
      rw [tok_cons, if_neg (by decide), if_neg (by decide), if_pos rfl]
      show tokB (bsL cs ++ 10 :: r) (Str.ofString "" ++ ⟨#[c]⟩) = _
      rw [tokB_bs, app_one, emp_app, ← hl, mk_L]
theorem join_emp : ∀ P : List Str, L (Txt.join (Str.ofString "") P) = (P.map L).flatten := by
  intro P
  rw [txt_join]
  have he : L (Str.ofString "") = [] := by decide +kernel
  induction P with
  | nil => rfl
  | cons w P ih =>
    cases P with
    | nil =>
      show L w = _
      simp
    | cons v P =>
      rw [L_join_cons, ih, he]
      simp
theorem run_all : ∀ (ws : List Str) (ms : List Int), ws.length = ms.length → (∀ w ∈ ws, WOk w) → LexRun ws (((ws.zip ms).map fun p => written p.1 p.2).map L).flatten
  | [], _, _, _ => .nil rfl
  | w :: ws, [], h, _ => by cases h
  | w :: ws, q :: ms, h, hw => by
    have ih := run_all ws ms (by simpa using h) fun v hv => hw v (.tail _ hv)
    exact run_word (q := q) (hw w (.head _)) ih
theorem cnt_count (c : Nat) : ∀ l : List Nat, cnt c l = (l.count c : Nat)
  | [] => rfl
  | n :: r => by
    rw [cnt_cons, cnt_count c r, List.count_cons]
    by_cases h : n = c <;> simp [h] <;> lia
theorem nl_count (x : Str) : (L x).count 10 = (occurrences x (Str.ofString "\n") 0 x.length (x.length + 1)).length := by
  have e : Str.ofString "\n" = ⟨#[10]⟩ := by decide +kernel
  rw [e]
  refine x1a2 (occ_tight x ⟨#[10]⟩ (by decide)) fun f h1 h2 => ?_
  have := chain_count x 10 _ 0 f h1 h2
  rw [List.drop_zero, cnt_count] at this
  exact Int.ofNat_inj.mp this
theorem plain_lex : PlainLex := by
  intro hues ts mans h3 hh ht5 ht hm
  have hw : ∀ w ∈ hues.map octets ++ ts.map tieW, WOk w := fun w hw => by
    rcases List.mem_append.mp hw with hw | hw
    · refine x1a2 (List.mem_map.mp hw) fun n hn qz212 => ?_; subst qz212
      exact wok (octets_ok n (hh n hn))
    · refine x1a2 (List.mem_map.mp hw) fun q hq qz312 => ?_; subst qz312
      exact wok (tieW_ok q.1 (ht q hq).1 q.2 (ht q hq).2)
  have hl : (hues.map octets ++ ts.map tieW).length = mans.length := by simp [h3, hm]
  refine ⟨?_, ?_, nl_count _⟩
  · have := run_all _ mans hl hw
    have e := join_emp (((hues.map octets ++ ts.map tieW).zip mans).map fun p => written p.1 p.2)
    unfold textOf
    show LexRun _ (L _)
    rw [e]
    exact this
  · refine (textOf_len (fun w hw => ?_) (by rw [hl, hm]; lia)).2
    rcases List.mem_append.mp hw with hw | hw
    · refine x1a2 (List.mem_map.mp hw) fun n _ qz412 => ?_; subst qz412; exact octets_len
    · refine x1a2 (List.mem_map.mp hw) fun q _ qz512 => ?_; subst qz512; exact Nat.le_of_eq tieW_len
end
end
end Mine
theorem PySem.Challenge.cw_ty0023_01_holds : PySem.Challenge.rw_ty0023_01.Holds :=
  Mine.law_top Mine.plain_lex Mine.plain_rows Mine.plain_words Mine.plain_sum
