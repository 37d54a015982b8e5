import PyProof.Rows.All
import Wide.All
import OpenK.AllK
import Wide.FinOn
import Lean
import PySem.Challenge.RW_tp0061_01
set_option Elab.async false
set_option bootstrap.genMatcherCode false
set_option genInjectivity false
set_option genSizeOf false
set_option compiler.extract_closed false
set_option compiler.reuse false
set_option maxRecDepth 100000
set_option maxHeartbeats 4000000
set_option linter.unusedVariables false
open PySem PySem.Calls PySem.Spec PySem.W PyProof.Rows
namespace Internal
theorem ob_A {A1 : Prop} {R : Prop} {G : Prop} (h : A1 ∧ R) (k : A1 → R → G) : G :=
  And.elim (fun a1 h => k a1 h) h
theorem ob_E {α1 : Sort _} {R : α1 → Prop} {G : Prop} (h : ∃ x1,R x1) (k : ∀ x1,R x1 → G) : G :=
  Exists.elim h fun x1 h => k x1 h
theorem ob_AA {A1 : Prop} {A2 : Prop} {R : Prop} {G : Prop} (h : A1 ∧ A2 ∧ R) (k : A1 → A2 → R → G) : G :=
  And.elim (fun a1 h => And.elim (fun a2 h => k a1 a2 h) h) h
theorem ob_EA {α1 : Sort _} {A1 : α1 → Prop} {R : α1 → Prop} {G : Prop} (h : ∃ x1,A1 x1 ∧ R x1) (k : ∀ x1,A1 x1 → R x1 → G) : G :=
  Exists.elim h fun x1 h => And.elim (fun a1 h => k x1 a1 h) h
theorem ob_EE {α1 : Sort _} {α2 : Sort _} {R : α1 → α2 → Prop} {G : Prop} (h : ∃ x1,∃ x2,R x1 x2) (k : ∀ x1,∀ x2,R x1 x2 → G) : G :=
  Exists.elim h fun x1 h => Exists.elim h fun x2 h => k x1 x2 h
theorem ob_AAA {A1 : Prop} {A2 : Prop} {A3 : Prop} {R : Prop} {G : Prop} (h : A1 ∧ A2 ∧ A3 ∧ R) (k : A1 → A2 → A3 → R → G) : G :=
  And.elim (fun a1 h => And.elim (fun a2 h => And.elim (fun a3 h => k a1 a2 a3 h) h) h) h
theorem ob_AAE {α1 : Sort _} {A1 : Prop} {A2 : Prop} {R : α1 → Prop} {G : Prop} (h : A1 ∧ A2 ∧ ∃ x1,R x1) (k : A1 → A2 → ∀ x1,R x1 → G) : G :=
  And.elim (fun a1 h => And.elim (fun a2 h => Exists.elim h fun x1 h => k a1 a2 x1 h) h) h
theorem ob_AEA {α1 : Sort _} {A1 : Prop} {A2 : α1 → Prop} {R : α1 → Prop} {G : Prop} (h : A1 ∧ ∃ x1,A2 x1 ∧ R x1) (k : A1 → ∀ x1,A2 x1 → R x1 → G) : G :=
  And.elim (fun a1 h => Exists.elim h fun x1 h => And.elim (fun a2 h => k a1 x1 a2 h) h) h
theorem ob_EAA {α1 : Sort _} {A1 : α1 → Prop} {A2 : α1 → Prop} {R : α1 → Prop} {G : Prop} (h : ∃ x1,A1 x1 ∧ A2 x1 ∧ R x1) (k : ∀ x1,A1 x1 → A2 x1 → R x1 → G) : G :=
  Exists.elim h fun x1 h => And.elim (fun a1 h => And.elim (fun a2 h => k x1 a1 a2 h) h) h
theorem ob_EEA {α1 : Sort _} {α2 : Sort _} {A1 : α1 → α2 → Prop} {R : α1 → α2 → Prop} {G : Prop} (h : ∃ x1,∃ x2,A1 x1 x2 ∧ R x1 x2) (k : ∀ x1,∀ x2,A1 x1 x2 → R x1 x2 → G) : G :=
  Exists.elim h fun x1 h => Exists.elim h fun x2 h => And.elim (fun a1 h => k x1 x2 a1 h) h
theorem ob_EEE {α1 : Sort _} {α2 : Sort _} {α3 : Sort _} {R : α1 → α2 → α3 → Prop} {G : Prop} (h : ∃ x1,∃ x2,∃ x3,R x1 x2 x3) (k : ∀ x1,∀ x2,∀ x3,R x1 x2 x3 → G) : G :=
  Exists.elim h fun x1 h => Exists.elim h fun x2 h => Exists.elim h fun x3 h => k x1 x2 x3 h
theorem ob_AAAA {A1 : Prop} {A2 : Prop} {A3 : Prop} {A4 : Prop} {R : Prop} {G : Prop} (h : A1 ∧ A2 ∧ A3 ∧ A4 ∧ R) (k : A1 → A2 → A3 → A4 → R → G) : G :=
  And.elim (fun a1 h => And.elim (fun a2 h => And.elim (fun a3 h => And.elim (fun a4 h => k a1 a2 a3 a4 h) h) h) h) h
theorem ob_AAAE {α1 : Sort _} {A1 : Prop} {A2 : Prop} {A3 : Prop} {R : α1 → Prop} {G : Prop} (h : A1 ∧ A2 ∧ A3 ∧ ∃ x1,R x1) (k : A1 → A2 → A3 → ∀ x1,R x1 → G) : G :=
  And.elim (fun a1 h => And.elim (fun a2 h => And.elim (fun a3 h => Exists.elim h fun x1 h => k a1 a2 a3 x1 h) h) h) h
theorem ob_AEEA {α1 : Sort _} {α2 : Sort _} {A1 : Prop} {A2 : α1 → α2 → Prop} {R : α1 → α2 → Prop} {G : Prop} (h : A1 ∧ ∃ x1,∃ x2,A2 x1 x2 ∧ R x1 x2) (k : A1 → ∀ x1,∀ x2,A2 x1 x2 → R x1 x2 → G) : G :=
  And.elim (fun a1 h => Exists.elim h fun x1 h => Exists.elim h fun x2 h => And.elim (fun a2 h => k a1 x1 x2 a2 h) h) h
theorem ob_EAAA {α1 : Sort _} {A1 : α1 → Prop} {A2 : α1 → Prop} {A3 : α1 → Prop} {R : α1 → Prop} {G : Prop} (h : ∃ x1,A1 x1 ∧ A2 x1 ∧ A3 x1 ∧ R x1) (k : ∀ x1,A1 x1 → A2 x1 → A3 x1 → R x1 → G) : G :=
  Exists.elim h fun x1 h => And.elim (fun a1 h => And.elim (fun a2 h => And.elim (fun a3 h => k x1 a1 a2 a3 h) h) h) h
theorem ob_EAAE {α1 : Sort _} {α2 : Sort _} {A1 : α1 → Prop} {A2 : α1 → Prop} {R : α1 → α2 → Prop} {G : Prop} (h : ∃ x1,A1 x1 ∧ A2 x1 ∧ ∃ x2,R x1 x2) (k : ∀ x1,A1 x1 → A2 x1 → ∀ x2,R x1 x2 → G) : G :=
  Exists.elim h fun x1 h => And.elim (fun a1 h => And.elim (fun a2 h => Exists.elim h fun x2 h => k x1 a1 a2 x2 h) h) h
theorem ob_EAEA {α1 : Sort _} {α2 : Sort _} {A1 : α1 → Prop} {A2 : α1 → α2 → Prop} {R : α1 → α2 → Prop} {G : Prop} (h : ∃ x1,A1 x1 ∧ ∃ x2,A2 x1 x2 ∧ R x1 x2) (k : ∀ x1,A1 x1 → ∀ x2,A2 x1 x2 → R x1 x2 → G) : G :=
  Exists.elim h fun x1 h => And.elim (fun a1 h => Exists.elim h fun x2 h => And.elim (fun a2 h => k x1 a1 x2 a2 h) h) h
theorem ob_EEAA {α1 : Sort _} {α2 : Sort _} {A1 : α1 → α2 → Prop} {A2 : α1 → α2 → Prop} {R : α1 → α2 → Prop} {G : Prop} (h : ∃ x1,∃ x2,A1 x1 x2 ∧ A2 x1 x2 ∧ R x1 x2) (k : ∀ x1,∀ x2,A1 x1 x2 → A2 x1 x2 → R x1 x2 → G) : G :=
  Exists.elim h fun x1 h => Exists.elim h fun x2 h => And.elim (fun a1 h => And.elim (fun a2 h => k x1 x2 a1 a2 h) h) h
theorem ob_EEEA {α1 : Sort _} {α2 : Sort _} {α3 : Sort _} {A1 : α1 → α2 → α3 → Prop} {R : α1 → α2 → α3 → Prop} {G : Prop} (h : ∃ x1,∃ x2,∃ x3,A1 x1 x2 x3 ∧ R x1 x2 x3) (k : ∀ x1,∀ x2,∀ x3,A1 x1 x2 x3 → R x1 x2 x3 → G) : G :=
  Exists.elim h fun x1 h => Exists.elim h fun x2 h => Exists.elim h fun x3 h => And.elim (fun a1 h => k x1 x2 x3 a1 h) h
theorem ob_EEEE {α1 : Sort _} {α2 : Sort _} {α3 : Sort _} {α4 : Sort _} {R : α1 → α2 → α3 → α4 → Prop} {G : Prop} (h : ∃ x1,∃ x2,∃ x3,∃ x4,R x1 x2 x3 x4) (k : ∀ x1,∀ x2,∀ x3,∀ x4,R x1 x2 x3 x4 → G) : G :=
  Exists.elim h fun x1 h => Exists.elim h fun x2 h => Exists.elim h fun x3 h => Exists.elim h fun x4 h => k x1 x2 x3 x4 h
theorem ob_AAAEE {α1 : Sort _} {α2 : Sort _} {A1 : Prop} {A2 : Prop} {A3 : Prop} {R : α1 → α2 → Prop} {G : Prop} (h : A1 ∧ A2 ∧ A3 ∧ ∃ x1,∃ x2,R x1 x2) (k : A1 → A2 → A3 → ∀ x1,∀ x2,R x1 x2 → G) : G :=
  And.elim (fun a1 h => And.elim (fun a2 h => And.elim (fun a3 h => Exists.elim h fun x1 h => Exists.elim h fun x2 h => k a1 a2 a3 x1 x2 h) h) h) h
theorem ob_EAAAA {α1 : Sort _} {A1 : α1 → Prop} {A2 : α1 → Prop} {A3 : α1 → Prop} {A4 : α1 → Prop} {R : α1 → Prop} {G : Prop} (h : ∃ x1,A1 x1 ∧ A2 x1 ∧ A3 x1 ∧ A4 x1 ∧ R x1) (k : ∀ x1,A1 x1 → A2 x1 → A3 x1 → A4 x1 → R x1 → G) : G :=
  Exists.elim h fun x1 h => And.elim (fun a1 h => And.elim (fun a2 h => And.elim (fun a3 h => And.elim (fun a4 h => k x1 a1 a2 a3 a4 h) h) h) h) h
theorem ob_EEAAA {α1 : Sort _} {α2 : Sort _} {A1 : α1 → α2 → Prop} {A2 : α1 → α2 → Prop} {A3 : α1 → α2 → Prop} {R : α1 → α2 → Prop} {G : Prop} (h : ∃ x1,∃ x2,A1 x1 x2 ∧ A2 x1 x2 ∧ A3 x1 x2 ∧ R x1 x2) (k : ∀ x1,∀ x2,A1 x1 x2 → A2 x1 x2 → A3 x1 x2 → R x1 x2 → G) : G :=
  Exists.elim h fun x1 h => Exists.elim h fun x2 h => And.elim (fun a1 h => And.elim (fun a2 h => And.elim (fun a3 h => k x1 x2 a1 a2 a3 h) h) h) h
theorem ob_EEAEA {α1 : Sort _} {α2 : Sort _} {α3 : Sort _} {A1 : α1 → α2 → Prop} {A2 : α1 → α2 → α3 → Prop} {R : α1 → α2 → α3 → Prop} {G : Prop} (h : ∃ x1,∃ x2,A1 x1 x2 ∧ ∃ x3,A2 x1 x2 x3 ∧ R x1 x2 x3) (k : ∀ x1,∀ x2,A1 x1 x2 → ∀ x3,A2 x1 x2 x3 → R x1 x2 x3 → G) : G :=
  Exists.elim h fun x1 h => Exists.elim h fun x2 h => And.elim (fun a1 h => Exists.elim h fun x3 h => And.elim (fun a2 h => k x1 x2 a1 x3 a2 h) h) h
theorem ob_EEEAA {α1 : Sort _} {α2 : Sort _} {α3 : Sort _} {A1 : α1 → α2 → α3 → Prop} {A2 : α1 → α2 → α3 → Prop} {R : α1 → α2 → α3 → Prop} {G : Prop} (h : ∃ x1,∃ x2,∃ x3,A1 x1 x2 x3 ∧ A2 x1 x2 x3 ∧ R x1 x2 x3) (k : ∀ x1,∀ x2,∀ x3,A1 x1 x2 x3 → A2 x1 x2 x3 → R x1 x2 x3 → G) : G :=
  Exists.elim h fun x1 h => Exists.elim h fun x2 h => Exists.elim h fun x3 h => And.elim (fun a1 h => And.elim (fun a2 h => k x1 x2 x3 a1 a2 h) h) h
theorem ob_EEEEE {α1 : Sort _} {α2 : Sort _} {α3 : Sort _} {α4 : Sort _} {α5 : Sort _} {R : α1 → α2 → α3 → α4 → α5 → Prop} {G : Prop} (h : ∃ x1,∃ x2,∃ x3,∃ x4,∃ x5,R x1 x2 x3 x4 x5) (k : ∀ x1,∀ x2,∀ x3,∀ x4,∀ x5,R x1 x2 x3 x4 x5 → G) : G :=
  Exists.elim h fun x1 h => Exists.elim h fun x2 h => Exists.elim h fun x3 h => Exists.elim h fun x4 h => Exists.elim h fun x5 h => k x1 x2 x3 x4 x5 h
theorem ob_EEAAAA {α1 : Sort _} {α2 : Sort _} {A1 : α1 → α2 → Prop} {A2 : α1 → α2 → Prop} {A3 : α1 → α2 → Prop} {A4 : α1 → α2 → Prop} {R : α1 → α2 → Prop} {G : Prop} (h : ∃ x1,∃ x2,A1 x1 x2 ∧ A2 x1 x2 ∧ A3 x1 x2 ∧ A4 x1 x2 ∧ R x1 x2) (k : ∀ x1,∀ x2,A1 x1 x2 → A2 x1 x2 → A3 x1 x2 → A4 x1 x2 → R x1 x2 → G) : G :=
  Exists.elim h fun x1 h => Exists.elim h fun x2 h => And.elim (fun a1 h => And.elim (fun a2 h => And.elim (fun a3 h => And.elim (fun a4 h => k x1 x2 a1 a2 a3 a4 h) h) h) h) h
theorem ob_EEEAAA {α1 : Sort _} {α2 : Sort _} {α3 : Sort _} {A1 : α1 → α2 → α3 → Prop} {A2 : α1 → α2 → α3 → Prop} {A3 : α1 → α2 → α3 → Prop} {R : α1 → α2 → α3 → Prop} {G : Prop} (h : ∃ x1,∃ x2,∃ x3,A1 x1 x2 x3 ∧ A2 x1 x2 x3 ∧ A3 x1 x2 x3 ∧ R x1 x2 x3) (k : ∀ x1,∀ x2,∀ x3,A1 x1 x2 x3 → A2 x1 x2 x3 → A3 x1 x2 x3 → R x1 x2 x3 → G) : G :=
  Exists.elim h fun x1 h => Exists.elim h fun x2 h => Exists.elim h fun x3 h => And.elim (fun a1 h => And.elim (fun a2 h => And.elim (fun a3 h => k x1 x2 x3 a1 a2 a3 h) h) h) h
theorem ob_EEEAAE {α1 : Sort _} {α2 : Sort _} {α3 : Sort _} {α4 : Sort _} {A1 : α1 → α2 → α3 → Prop} {A2 : α1 → α2 → α3 → Prop} {R : α1 → α2 → α3 → α4 → Prop} {G : Prop} (h : ∃ x1,∃ x2,∃ x3,A1 x1 x2 x3 ∧ A2 x1 x2 x3 ∧ ∃ x4,R x1 x2 x3 x4) (k : ∀ x1,∀ x2,∀ x3,A1 x1 x2 x3 → A2 x1 x2 x3 → ∀ x4,R x1 x2 x3 x4 → G) : G :=
  Exists.elim h fun x1 h => Exists.elim h fun x2 h => Exists.elim h fun x3 h => And.elim (fun a1 h => And.elim (fun a2 h => Exists.elim h fun x4 h => k x1 x2 x3 a1 a2 x4 h) h) h
theorem ob_EEEEEA {α1 : Sort _} {α2 : Sort _} {α3 : Sort _} {α4 : Sort _} {α5 : Sort _} {A1 : α1 → α2 → α3 → α4 → α5 → Prop} {R : α1 → α2 → α3 → α4 → α5 → Prop} {G : Prop} (h : ∃ x1,∃ x2,∃ x3,∃ x4,∃ x5,A1 x1 x2 x3 x4 x5 ∧ R x1 x2 x3 x4 x5) (k : ∀ x1,∀ x2,∀ x3,∀ x4,∀ x5,A1 x1 x2 x3 x4 x5 → R x1 x2 x3 x4 x5 → G) : G :=
  Exists.elim h fun x1 h => Exists.elim h fun x2 h => Exists.elim h fun x3 h => Exists.elim h fun x4 h => Exists.elim h fun x5 h => And.elim (fun a1 h => k x1 x2 x3 x4 x5 a1 h) h
theorem ob_EEEEEE {α1 : Sort _} {α2 : Sort _} {α3 : Sort _} {α4 : Sort _} {α5 : Sort _} {α6 : Sort _} {R : α1 → α2 → α3 → α4 → α5 → α6 → Prop} {G : Prop} (h : ∃ x1,∃ x2,∃ x3,∃ x4,∃ x5,∃ x6,R x1 x2 x3 x4 x5 x6) (k : ∀ x1,∀ x2,∀ x3,∀ x4,∀ x5,∀ x6,R x1 x2 x3 x4 x5 x6 → G) : G :=
  Exists.elim h fun x1 h => Exists.elim h fun x2 h => Exists.elim h fun x3 h => Exists.elim h fun x4 h => Exists.elim h fun x5 h => Exists.elim h fun x6 h => k x1 x2 x3 x4 x5 x6 h
theorem ob_AAAAAAA {A1 : Prop} {A2 : Prop} {A3 : Prop} {A4 : Prop} {A5 : Prop} {A6 : Prop} {A7 : Prop} {R : Prop} {G : Prop} (h : A1 ∧ A2 ∧ A3 ∧ A4 ∧ A5 ∧ A6 ∧ A7 ∧ R) (k : A1 → A2 → A3 → A4 → A5 → A6 → A7 → R → G) : G :=
  And.elim (fun a1 h => And.elim (fun a2 h => And.elim (fun a3 h => And.elim (fun a4 h => And.elim (fun a5 h => And.elim (fun a6 h => And.elim (fun a7 h => k a1 a2 a3 a4 a5 a6 a7 h) h) h) h) h) h) h) h
theorem ob_EEAAAAA {α1 : Sort _} {α2 : Sort _} {A1 : α1 → α2 → Prop} {A2 : α1 → α2 → Prop} {A3 : α1 → α2 → Prop} {A4 : α1 → α2 → Prop} {A5 : α1 → α2 → Prop} {R : α1 → α2 → Prop} {G : Prop} (h : ∃ x1,∃ x2,A1 x1 x2 ∧ A2 x1 x2 ∧ A3 x1 x2 ∧ A4 x1 x2 ∧ A5 x1 x2 ∧ R x1 x2) (k : ∀ x1,∀ x2,A1 x1 x2 → A2 x1 x2 → A3 x1 x2 → A4 x1 x2 → A5 x1 x2 → R x1 x2 → G) : G :=
  Exists.elim h fun x1 h => Exists.elim h fun x2 h => And.elim (fun a1 h => And.elim (fun a2 h => And.elim (fun a3 h => And.elim (fun a4 h => And.elim (fun a5 h => k x1 x2 a1 a2 a3 a4 a5 h) h) h) h) h) h
theorem ob_AAAAAAAA {A1 : Prop} {A2 : Prop} {A3 : Prop} {A4 : Prop} {A5 : Prop} {A6 : Prop} {A7 : Prop} {A8 : Prop} {R : Prop} {G : Prop} (h : A1 ∧ A2 ∧ A3 ∧ A4 ∧ A5 ∧ A6 ∧ A7 ∧ A8 ∧ R) (k : A1 → A2 → A3 → A4 → A5 → A6 → A7 → A8 → R → G) : G :=
  And.elim (fun a1 h => And.elim (fun a2 h => And.elim (fun a3 h => And.elim (fun a4 h => And.elim (fun a5 h => And.elim (fun a6 h => And.elim (fun a7 h => And.elim (fun a8 h => k a1 a2 a3 a4 a5 a6 a7 a8 h) h) h) h) h) h) h) h) h
theorem ob_AAAEEEAA {α1 : Sort _} {α2 : Sort _} {α3 : Sort _} {A1 : Prop} {A2 : Prop} {A3 : Prop} {A4 : α1 → α2 → α3 → Prop} {A5 : α1 → α2 → α3 → Prop} {R : α1 → α2 → α3 → Prop} {G : Prop} (h : A1 ∧ A2 ∧ A3 ∧ ∃ x1,∃ x2,∃ x3,A4 x1 x2 x3 ∧ A5 x1 x2 x3 ∧ R x1 x2 x3) (k : A1 → A2 → A3 → ∀ x1,∀ x2,∀ x3,A4 x1 x2 x3 → A5 x1 x2 x3 → R x1 x2 x3 → G) : G :=
  And.elim (fun a1 h => And.elim (fun a2 h => And.elim (fun a3 h => Exists.elim h fun x1 h => Exists.elim h fun x2 h => Exists.elim h fun x3 h => And.elim (fun a4 h => And.elim (fun a5 h => k a1 a2 a3 x1 x2 x3 a4 a5 h) h) h) h) h) h
theorem ob_EEEAAAAA {α1 : Sort _} {α2 : Sort _} {α3 : Sort _} {A1 : α1 → α2 → α3 → Prop} {A2 : α1 → α2 → α3 → Prop} {A3 : α1 → α2 → α3 → Prop} {A4 : α1 → α2 → α3 → Prop} {A5 : α1 → α2 → α3 → Prop} {R : α1 → α2 → α3 → Prop} {G : Prop} (h : ∃ x1,∃ x2,∃ x3,A1 x1 x2 x3 ∧ A2 x1 x2 x3 ∧ A3 x1 x2 x3 ∧ A4 x1 x2 x3 ∧ A5 x1 x2 x3 ∧ R x1 x2 x3) (k : ∀ x1,∀ x2,∀ x3,A1 x1 x2 x3 → A2 x1 x2 x3 → A3 x1 x2 x3 → A4 x1 x2 x3 → A5 x1 x2 x3 → R x1 x2 x3 → G) : G :=
  Exists.elim h fun x1 h => Exists.elim h fun x2 h => Exists.elim h fun x3 h => And.elim (fun a1 h => And.elim (fun a2 h => And.elim (fun a3 h => And.elim (fun a4 h => And.elim (fun a5 h => k x1 x2 x3 a1 a2 a3 a4 a5 h) h) h) h) h) h
theorem ob_AAAEEEAAE {α1 : Sort _} {α2 : Sort _} {α3 : Sort _} {α4 : Sort _} {A1 : Prop} {A2 : Prop} {A3 : Prop} {A4 : α1 → α2 → α3 → Prop} {A5 : α1 → α2 → α3 → Prop} {R : α1 → α2 → α3 → α4 → Prop} {G : Prop} (h : A1 ∧ A2 ∧ A3 ∧ ∃ x1,∃ x2,∃ x3,A4 x1 x2 x3 ∧ A5 x1 x2 x3 ∧ ∃ x4,R x1 x2 x3 x4) (k : A1 → A2 → A3 → ∀ x1,∀ x2,∀ x3,A4 x1 x2 x3 → A5 x1 x2 x3 → ∀ x4,R x1 x2 x3 x4 → G) : G :=
  And.elim (fun a1 h => And.elim (fun a2 h => And.elim (fun a3 h => Exists.elim h fun x1 h => Exists.elim h fun x2 h => Exists.elim h fun x3 h => And.elim (fun a4 h => And.elim (fun a5 h => Exists.elim h fun x4 h => k a1 a2 a3 x1 x2 x3 a4 a5 x4 h) h) h) h) h) h
theorem ob_EEEEEEEAA {α1 : Sort _} {α2 : Sort _} {α3 : Sort _} {α4 : Sort _} {α5 : Sort _} {α6 : Sort _} {α7 : Sort _} {A1 : α1 → α2 → α3 → α4 → α5 → α6 → α7 → Prop} {A2 : α1 → α2 → α3 → α4 → α5 → α6 → α7 → Prop} {R : α1 → α2 → α3 → α4 → α5 → α6 → α7 → Prop} {G : Prop} (h : ∃ x1,∃ x2,∃ x3,∃ x4,∃ x5,∃ x6,∃ x7,A1 x1 x2 x3 x4 x5 x6 x7 ∧ A2 x1 x2 x3 x4 x5 x6 x7 ∧ R x1 x2 x3 x4 x5 x6 x7) (k : ∀ x1,∀ x2,∀ x3,∀ x4,∀ x5,∀ x6,∀ x7,A1 x1 x2 x3 x4 x5 x6 x7 → A2 x1 x2 x3 x4 x5 x6 x7 → R x1 x2 x3 x4 x5 x6 x7 → G) : G :=
  Exists.elim h fun x1 h => Exists.elim h fun x2 h => Exists.elim h fun x3 h => Exists.elim h fun x4 h => Exists.elim h fun x5 h => Exists.elim h fun x6 h => Exists.elim h fun x7 h => And.elim (fun a1 h => And.elim (fun a2 h => k x1 x2 x3 x4 x5 x6 x7 a1 a2 h) h) h
theorem ob_EEAAAAAAAA {α1 : Sort _} {α2 : Sort _} {A1 : α1 → α2 → Prop} {A2 : α1 → α2 → Prop} {A3 : α1 → α2 → Prop} {A4 : α1 → α2 → Prop} {A5 : α1 → α2 → Prop} {A6 : α1 → α2 → Prop} {A7 : α1 → α2 → Prop} {A8 : α1 → α2 → Prop} {R : α1 → α2 → Prop} {G : Prop} (h : ∃ x1,∃ x2,A1 x1 x2 ∧ A2 x1 x2 ∧ A3 x1 x2 ∧ A4 x1 x2 ∧ A5 x1 x2 ∧ A6 x1 x2 ∧ A7 x1 x2 ∧ A8 x1 x2 ∧ R x1 x2) (k : ∀ x1,∀ x2,A1 x1 x2 → A2 x1 x2 → A3 x1 x2 → A4 x1 x2 → A5 x1 x2 → A6 x1 x2 → A7 x1 x2 → A8 x1 x2 → R x1 x2 → G) : G :=
  Exists.elim h fun x1 h => Exists.elim h fun x2 h => And.elim (fun a1 h => And.elim (fun a2 h => And.elim (fun a3 h => And.elim (fun a4 h => And.elim (fun a5 h => And.elim (fun a6 h => And.elim (fun a7 h => And.elim (fun a8 h => k x1 x2 a1 a2 a3 a4 a5 a6 a7 a8 h) h) h) h) h) h) h) h) h
theorem ob_EEEEEEAAAAA {α1 : Sort _} {α2 : Sort _} {α3 : Sort _} {α4 : Sort _} {α5 : Sort _} {α6 : Sort _} {A1 : α1 → α2 → α3 → α4 → α5 → α6 → Prop} {A2 : α1 → α2 → α3 → α4 → α5 → α6 → Prop} {A3 : α1 → α2 → α3 → α4 → α5 → α6 → Prop} {A4 : α1 → α2 → α3 → α4 → α5 → α6 → Prop} {A5 : α1 → α2 → α3 → α4 → α5 → α6 → Prop} {R : α1 → α2 → α3 → α4 → α5 → α6 → Prop} {G : Prop} (h : ∃ x1,∃ x2,∃ x3,∃ x4,∃ x5,∃ x6,A1 x1 x2 x3 x4 x5 x6 ∧ A2 x1 x2 x3 x4 x5 x6 ∧ A3 x1 x2 x3 x4 x5 x6 ∧ A4 x1 x2 x3 x4 x5 x6 ∧ A5 x1 x2 x3 x4 x5 x6 ∧ R x1 x2 x3 x4 x5 x6) (k : ∀ x1,∀ x2,∀ x3,∀ x4,∀ x5,∀ x6,A1 x1 x2 x3 x4 x5 x6 → A2 x1 x2 x3 x4 x5 x6 → A3 x1 x2 x3 x4 x5 x6 → A4 x1 x2 x3 x4 x5 x6 → A5 x1 x2 x3 x4 x5 x6 → R x1 x2 x3 x4 x5 x6 → G) : G :=
  Exists.elim h fun x1 h => Exists.elim h fun x2 h => Exists.elim h fun x3 h => Exists.elim h fun x4 h => Exists.elim h fun x5 h => Exists.elim h fun x6 h => And.elim (fun a1 h => And.elim (fun a2 h => And.elim (fun a3 h => And.elim (fun a4 h => And.elim (fun a5 h => k x1 x2 x3 x4 x5 x6 a1 a2 a3 a4 a5 h) h) h) h) h) h
theorem ob_AAEEEEEAAAAAAA {α1 : Sort _} {α2 : Sort _} {α3 : Sort _} {α4 : Sort _} {α5 : Sort _} {A1 : Prop} {A2 : Prop} {A3 : α1 → α2 → α3 → α4 → α5 → Prop} {A4 : α1 → α2 → α3 → α4 → α5 → Prop} {A5 : α1 → α2 → α3 → α4 → α5 → Prop} {A6 : α1 → α2 → α3 → α4 → α5 → Prop} {A7 : α1 → α2 → α3 → α4 → α5 → Prop} {A8 : α1 → α2 → α3 → α4 → α5 → Prop} {A9 : α1 → α2 → α3 → α4 → α5 → Prop} {R : α1 → α2 → α3 → α4 → α5 → Prop} {G : Prop} (h : A1 ∧ A2 ∧ ∃ x1,∃ x2,∃ x3,∃ x4,∃ x5,A3 x1 x2 x3 x4 x5 ∧ A4 x1 x2 x3 x4 x5 ∧ A5 x1 x2 x3 x4 x5 ∧ A6 x1 x2 x3 x4 x5 ∧ A7 x1 x2 x3 x4 x5 ∧ A8 x1 x2 x3 x4 x5 ∧ A9 x1 x2 x3 x4 x5 ∧ R x1 x2 x3 x4 x5) (k : A1 → A2 → ∀ x1,∀ x2,∀ x3,∀ x4,∀ x5,A3 x1 x2 x3 x4 x5 → A4 x1 x2 x3 x4 x5 → A5 x1 x2 x3 x4 x5 → A6 x1 x2 x3 x4 x5 → A7 x1 x2 x3 x4 x5 → A8 x1 x2 x3 x4 x5 → A9 x1 x2 x3 x4 x5 → R x1 x2 x3 x4 x5 → G) : G :=
  And.elim (fun a1 h => And.elim (fun a2 h => Exists.elim h fun x1 h => Exists.elim h fun x2 h => Exists.elim h fun x3 h => Exists.elim h fun x4 h => Exists.elim h fun x5 h => And.elim (fun a3 h => And.elim (fun a4 h => And.elim (fun a5 h => And.elim (fun a6 h => And.elim (fun a7 h => And.elim (fun a8 h => And.elim (fun a9 h => k a1 a2 x1 x2 x3 x4 x5 a3 a4 a5 a6 a7 a8 a9 h) h) h) h) h) h) h) h) h) h
theorem ob_EEEEEEEAAAAAAAAA {α1 : Sort _} {α2 : Sort _} {α3 : Sort _} {α4 : Sort _} {α5 : Sort _} {α6 : Sort _} {α7 : Sort _} {A1 : α1 → α2 → α3 → α4 → α5 → α6 → α7 → Prop} {A2 : α1 → α2 → α3 → α4 → α5 → α6 → α7 → Prop} {A3 : α1 → α2 → α3 → α4 → α5 → α6 → α7 → Prop} {A4 : α1 → α2 → α3 → α4 → α5 → α6 → α7 → Prop} {A5 : α1 → α2 → α3 → α4 → α5 → α6 → α7 → Prop} {A6 : α1 → α2 → α3 → α4 → α5 → α6 → α7 → Prop} {A7 : α1 → α2 → α3 → α4 → α5 → α6 → α7 → Prop} {A8 : α1 → α2 → α3 → α4 → α5 → α6 → α7 → Prop} {A9 : α1 → α2 → α3 → α4 → α5 → α6 → α7 → Prop} {R : α1 → α2 → α3 → α4 → α5 → α6 → α7 → Prop} {G : Prop} (h : ∃ x1,∃ x2,∃ x3,∃ x4,∃ x5,∃ x6,∃ x7,A1 x1 x2 x3 x4 x5 x6 x7 ∧ A2 x1 x2 x3 x4 x5 x6 x7 ∧ A3 x1 x2 x3 x4 x5 x6 x7 ∧ A4 x1 x2 x3 x4 x5 x6 x7 ∧ A5 x1 x2 x3 x4 x5 x6 x7 ∧ A6 x1 x2 x3 x4 x5 x6 x7 ∧ A7 x1 x2 x3 x4 x5 x6 x7 ∧ A8 x1 x2 x3 x4 x5 x6 x7 ∧ A9 x1 x2 x3 x4 x5 x6 x7 ∧ R x1 x2 x3 x4 x5 x6 x7) (k : ∀ x1,∀ x2,∀ x3,∀ x4,∀ x5,∀ x6,∀ x7,A1 x1 x2 x3 x4 x5 x6 x7 → A2 x1 x2 x3 x4 x5 x6 x7 → A3 x1 x2 x3 x4 x5 x6 x7 → A4 x1 x2 x3 x4 x5 x6 x7 → A5 x1 x2 x3 x4 x5 x6 x7 → A6 x1 x2 x3 x4 x5 x6 x7 → A7 x1 x2 x3 x4 x5 x6 x7 → A8 x1 x2 x3 x4 x5 x6 x7 → A9 x1 x2 x3 x4 x5 x6 x7 → R x1 x2 x3 x4 x5 x6 x7 → G) : G :=
  Exists.elim h fun x1 h => Exists.elim h fun x2 h => Exists.elim h fun x3 h => Exists.elim h fun x4 h => Exists.elim h fun x5 h => Exists.elim h fun x6 h => Exists.elim h fun x7 h => And.elim (fun a1 h => And.elim (fun a2 h => And.elim (fun a3 h => And.elim (fun a4 h => And.elim (fun a5 h => And.elim (fun a6 h => And.elim (fun a7 h => And.elim (fun a8 h => And.elim (fun a9 h => k x1 x2 x3 x4 x5 x6 x7 a1 a2 a3 a4 a5 a6 a7 a8 a9 h) h) h) h) h) h) h) h) h) h
theorem leq2 {a b : Nat} (h : b = a) : a ≤ b := Nat.le_of_eq h.symm
theorem none_of {α : Type} {x : Option α} (h : ∀ a,x = some a → False) : x = none := by
  cases x with
  | none => rfl
  | some a => exact (h a rfl).elim
section
inductive D where
  | none
  | bool (b : Bool)
  | int (i : Int)
  | str (x : Str)
  | bytes (b : Array UInt8)
  | list (ds : List D)
  | tup (ds : List D)
mutual
inductive Rep (h : Heap) (Ex : Addr → Prop) : Value → D → Prop
  | none : Rep h Ex .none .none
  | bool (b : Bool) : Rep h Ex (.bool b) (.bool b)
  | int (i : Int) (t : Tok) : Rep h Ex (.int i t) (.int i)
  | str (x : Str) (t : Tok) : Rep h Ex (.str x t) (.str x)
  | bytes (b : Array UInt8) (t : Tok) : Rep h Ex (.bytes b t) (.bytes b)
  | list {a : Addr} {vs : List Value} {ds : List D} : ¬ Ex a → h.IsList a vs.toArray → RepAll h Ex vs ds → Rep h Ex (.ref a) (.list ds)
  | tup {a : Addr} {vs : List Value} {ds : List D} : ¬ Ex a → h.IsTuple a vs.toArray → RepAll h Ex vs ds → Rep h Ex (.ref a) (.tup ds)
inductive RepAll (h : Heap) (Ex : Addr → Prop) : List Value → List D → Prop
  | nil : RepAll h Ex [] []
  | cons {v : Value} {vs : List Value} {d : D} {ds : List D} : Rep h Ex v d → RepAll h Ex vs ds → RepAll h Ex (v :: vs) (d :: ds)
end
noncomputable def Grow (h : Heap) (Ex : Addr → Prop) (h' : Heap) (Ex' : Addr → Prop) : Prop := ∀ a o, ¬ Ex a → h.get? a = some o → ¬ Ex' a ∧ h'.get? a = some o
theorem RepAll.ind {h : Heap} {Ex : Addr → Prop} {P : List Value → List D → Prop} (n : P [] []) (c : ∀ {v : Value} {vs : List Value} {d : D} {ds : List D},Rep h Ex v d → RepAll h Ex vs ds → P vs ds → P (v :: vs) (d :: ds)) {vs : List Value} {ds : List D} (r : RepAll h Ex vs ds) : P vs ds :=
  RepAll.rec (motive_1 := fun _ _ _ => True) (motive_2 := fun vs ds _ => P vs ds) trivial (fun _ => trivial) (fun _ _ => trivial) (fun _ _ => trivial) (fun _ _ => trivial) (fun _ _ _ _ => trivial) (fun _ _ _ _ => trivial) n (fun a r _ ih => c a r ih) r
theorem Rep.mono {h h' : Heap} {Ex Ex' : Addr → Prop} (k : Grow h Ex h' Ex') {v : Value} {d : D} (r : Rep h Ex v d) : Rep h' Ex' v d :=
  Rep.rec (motive_1 := fun v d _ => Rep h' Ex' v d) (motive_2 := fun vs ds _ => RepAll h' Ex' vs ds) .none .bool .int .str .bytes (fun e l _ q => Exists.elim l fun o l => .list (k _ _ e l.1).1 ⟨o,(k _ _ e l.1).2,l.2⟩ q) (fun e l _ q => Exists.elim l fun o l => .tup (k _ _ e l.1).1 ⟨o,(k _ _ e l.1).2,l.2⟩ q) .nil (fun _ _ a b => .cons a b) r
theorem RepAll.mono {h h' : Heap} {Ex Ex' : Addr → Prop} (k : Grow h Ex h' Ex') {vs : List Value} {ds : List D} (r : RepAll h Ex vs ds) : RepAll h' Ex' vs ds := r.ind .nil fun a _ q => .cons (a.mono k) q
noncomputable abbrev Up (h h' : Heap) : Prop := ∀ b o,h.get? b = some o → h'.get? b = some o
theorem Up.grow {h h' : Heap} {Ex : Addr → Prop} (k : Up h h') : Grow h Ex h' Ex := fun a o e ho => ⟨e,k a o ho⟩
theorem Rep.up {h h' : Heap} {Ex : Addr → Prop} (k : Up h h') {v : Value} {d : D} (r : Rep h Ex v d) : Rep h' Ex v d := r.mono k.grow
theorem RepAll.up {h h' : Heap} {Ex : Addr → Prop} (k : Up h h') {v : List Value} {d : List D} (r : RepAll h Ex v d) : RepAll h' Ex v d := r.mono k.grow
theorem Up.refl (h : Heap) : Up h h := fun _ _ e => e
theorem Up.trans {a b c : Heap} (x : Up a b) (y : Up b c) : Up a c := fun i o e => y i o (x i o e)
theorem Up.push (h : Heap) (o : Obj) : Up h (h.push o) := fun _ _ e => Heap.get?_push_of_some _ e
section
variable {h : Heap} {Ex : Addr → Prop}
theorem RepAll.length {vs : List Value} {ds : List D} (r : RepAll h Ex vs ds) : vs.length = ds.length := r.ind (P := fun vs ds => vs.length = ds.length) rfl fun _ _ q => congrArg (· + 1) q
theorem RepAll.append {vs ws : List Value} {ds es : List D} (r : RepAll h Ex vs ds) (k : RepAll h Ex ws es) : RepAll h Ex (vs ++ ws) (ds ++ es) := r.ind (P := fun vs ds => RepAll h Ex (vs ++ ws) (ds ++ es)) k fun a _ q => .cons a q
theorem RepAll.one {v : Value} {d : D} (r : Rep h Ex v d) : RepAll h Ex [v] [d] := .cons r .nil
theorem no_nil {α : Type} {k : Nat} {d : α} {P : Prop} (e : ([] : List α)[k]? = some d) : P := by cases e
theorem RepAll.get {vs : List Value} {ds : List D} (r : RepAll h Ex vs ds) : ∀ {k : Nat} {d : D},ds[k]? = some d → ∃ v,vs[k]? = some v ∧ Rep h Ex v d :=
  r.ind (P := fun vs ds => ∀ {k : Nat} {d : D},ds[k]? = some d → ∃ v,vs[k]? = some v ∧ Rep h Ex v d) no_nil @fun _ _ _ _ a _ q k _ e => Nat.casesOn (motive := fun k => _ = k → _) k (fun z => by subst z; exact ⟨_,rfl,Option.some.inj e ▸ a⟩) (fun k z => by subst z; exact q (k := k) e) rfl
theorem RepAll.getV {vs : List Value} {ds : List D} (r : RepAll h Ex vs ds) : ∀ {k : Nat} {v : Value},vs[k]? = some v → ∃ d,ds[k]? = some d ∧ Rep h Ex v d :=
  r.ind (P := fun vs ds => ∀ {k : Nat} {v : Value},vs[k]? = some v → ∃ d,ds[k]? = some d ∧ Rep h Ex v d) no_nil @fun _ _ _ _ a _ q k _ e => Nat.casesOn (motive := fun k => _ = k → _) k (fun z => by subst z; exact ⟨_,rfl,Option.some.inj e ▸ a⟩) (fun k z => by subst z; exact q (k := k) e) rfl
theorem Rep.int_inv {v : Value} {i : Int} (r : Rep h Ex v (.int i)) : ∃ t,v = .int i t := by cases r; exact ⟨_,rfl⟩
theorem Rep.str_inv {v : Value} {x : Str} (r : Rep h Ex v (.str x)) : ∃ t,v = .str x t := by cases r; exact ⟨_,rfl⟩
theorem Rep.bytes_inv {v : Value} {x : Array UInt8} (r : Rep h Ex v (.bytes x)) : ∃ t,v = .bytes x t := by cases r; exact ⟨_,rfl⟩
theorem Rep.bool_inv {v : Value} {b : Bool} (r : Rep h Ex v (.bool b)) : v = .bool b := by cases r; rfl
theorem Rep.none_inv {v : Value} (r : Rep h Ex v .none) : v = .none := by cases r; rfl
theorem Rep.list_inv {v : Value} {ds : List D} (r : Rep h Ex v (.list ds)) : ∃ a vs,v = .ref a ∧ ¬ Ex a ∧ h.IsList a vs.toArray ∧ RepAll h Ex vs ds := by
  cases r with
  | list e l q => exact ⟨_,_,rfl,e,l,q⟩
theorem Rep.tup_inv {v : Value} {ds : List D} (r : Rep h Ex v (.tup ds)) : ∃ a vs,v = .ref a ∧ ¬ Ex a ∧ h.IsTuple a vs.toArray ∧ RepAll h Ex vs ds := by
  cases r with
  | tup e l q => exact ⟨_,_,rfl,e,l,q⟩
end
noncomputable def D.flat : D → Bool
  | .list _ => false
  | .tup _ => false
  | _ => true
theorem Rep.ofFlat {h h' : Heap} {Ex Ex' : Addr → Prop} {v : Value} {d : D} (f : d.flat = true) (r : Rep h Ex v d) : Rep h' Ex' v d := by
  cases r with
  | none => exact .none
  | bool b => exact .bool b
  | int i t => exact .int i t
  | str x t => exact .str x t
  | bytes x t => exact .bytes x t
  | list => cases f
  | tup => cases f
theorem RepAll.ofFlat {h h' : Heap} {Ex Ex' : Addr → Prop} {vs : List Value} {ds : List D} (f : ds.all D.flat = true) (r : RepAll h Ex vs ds) : RepAll h' Ex' vs ds :=
  r.ind (P := fun vs ds => ds.all D.flat = true → RepAll h' Ex' vs ds) (fun _ => .nil) (fun a _ q f => have g := (Bool.and_eq_true _ _).mp f; .cons (a.ofFlat g.1) (q g.2)) f
inductive Cell where
  | fz (d : D)
  | ow (ds : List D)
noncomputable def Cell.d : Cell → D
  | .fz d => d
  | .ow ds => .list ds
noncomputable abbrev Sto := List (Option Cell)
noncomputable def look : Sto → Nat → Option Cell
  | [],_ => none
  | c :: _,0 => c
  | _ :: r,n + 1 => look r n
noncomputable def put : Sto → Nat → Option Cell → Sto
  | [],_,_ => []
  | _ :: r,0,c => c :: r
  | x :: r,n + 1,c => x :: put r n c
noncomputable def Sto.get (σ : Sto) (i : Nat) : Option D := (look σ i).map Cell.d
theorem look_put : ∀ (σ : Sto) (i : Nat) (c : Option Cell) (j : Nat),look (put σ i c) j = if i = j ∧ i < σ.length then c else look σ j
  | [],i,c,j => by rw [if_neg fun q => absurd q.2 (Nat.not_lt_zero _)]; rfl
  | x :: r,0,c,0 => by rw [if_pos ⟨rfl,Nat.succ_pos _⟩]; rfl
  | x :: r,0,c,j + 1 => by rw [if_neg fun q => nomatch q.1]; rfl
  | x :: r,i + 1,c,0 => by rw [if_neg fun q => nomatch q.1]; rfl
  | x :: r,i + 1,c,j + 1 => by
    show look (put r i c) j = if i + 1 = j + 1 ∧ i + 1 < r.length + 1 then c else look r j
    rw [look_put r i c j]
    simp only [Nat.add_right_cancel_iff,Nat.add_lt_add_iff_right]
structure TE where
  sc : Scope
  vars : List Str
noncomputable def Bound (h : Heap) (env : Env) (x : Str) (v : Value) : Prop :=
  (env.kindOf x = some .local ∧ ∃ m,h.Ns env.locals m ∧ m x = some v) ∨ (env.kindOf x = some .cell ∧ ∃ c,env.cells.lookup x = some c ∧ h.IsCell c (some v))
theorem Bound.up {h h' : Heap} {env : Env} {x : Str} {v : Value} (k : Up h h') (b : Bound h env x v) : Bound h' env x v := by
  rcases b with ⟨a,m,n,e⟩ | ⟨a,c,e,r⟩
  · exact .inl ⟨a,m,n.keeps k,e⟩
  · exact .inr ⟨a,c,e,r.keeps k⟩
noncomputable def VarsR (T : TE) (env : Env) (h : Heap) (Ex : Addr → Prop) (σ : Sto) : Prop :=
  ∀ i x d,T.vars[i]? = some x → σ.get i = some d → ∃ v,Bound h env x v ∧ Rep h Ex v d
noncomputable def Bel (h : Heap) (Ex : Addr → Prop) : Prop := ∀ a,Ex a → ∃ b o,a ≤ b ∧ h.get? b = some o
theorem Bel.up {h h' : Heap} {Ex : Addr → Prop} (b : Bel h Ex) (k : Up h h') : Bel h' Ex := fun a e => let ⟨c,o,l,ho⟩ := b a e; ⟨c,o,l,k c o ho⟩
theorem Bel.lt {h : Heap} {Ex : Addr → Prop} (b : Bel h Ex) {a : Addr} (e : Ex a) : a < h.objs.size := let ⟨_,_,l,ho⟩ := b a e; Nat.lt_of_le_of_lt l (Heap.lt_size ho)
noncomputable def Tops (K : Frag) (h : Heap) : Prop := ∃ p loose mean mg mb,Top p loose mean mg mb h ∧ K.In h
theorem Tops.up {K : Frag} {h h' : Heap} (k : Up h h') (t : Tops K h) : Tops K h' := let ⟨p,l,m,g,b,t,i⟩ := t; ⟨p,l,m,g,b,t.keeps k,fun a o e => k a o (i a o e)⟩
structure AOk (n : Nat) (A : Around) : Prop where
  hd : A.handled = none
  dp : A.depth + n < recursionLimit
  un : A.units + 8 * n + 8 < cLine
structure Cx (K : Frag) (n : Nat) (T : TE) (A : Around) (env : Env) (Ex : Addr → Prop) (h : Heap) (σ : Sto) : Prop where
  a : AOk n A
  sc : env.scope = T.sc
  kd : T.sc.kind = .function
  gl : env.globals = mainGlobals
  bi : env.builtins = builtinsNs
  tops : Tops K h
  vars : VarsR T env h Ex σ
  bel : Bel h Ex
theorem Cx.up {K : Frag} {n : Nat} {T : TE} {A : Around} {env : Env} {Ex : Addr → Prop} {h h' : Heap} {σ : Sto} (C : Cx K n T A env Ex h σ) (k : Up h h') : Cx K n T A env Ex h' σ :=
  ⟨C.a,C.sc,C.kd,C.gl,C.bi,C.tops.up k,fun i x d e f => let ⟨v,b,r⟩ := C.vars i x d e f; ⟨v,b.up k,r.up k⟩,C.bel.up k⟩
theorem Cx.kind {K : Frag} {n : Nat} {T : TE} {A : Around} {env : Env} {Ex : Addr → Prop} {h : Heap} {σ : Sto} (C : Cx K n T A env Ex h σ) : env.scope.kind = .function := by rw [C.sc]; exact C.kd
noncomputable def Got (s : Shared) (Ex : Addr → Prop) (d : D) (v : Value) (s' : Shared) : Prop := PySem.Keeps s s' ∧ Rep s'.heap Ex v d
variable {prog : Program}
noncomputable def DE (prog : Program) (K : Params → Frag) (n : Nat) (T : TE) (e : Expr) (f : Sto → Option D) : Prop :=
  ∀ (w : World) (A : Around) (E : Value → Shared → Prop) (s : Shared) (env : Env) (Ex : Addr → Prop) (σ : Sto) (d : D),Cx (K w.params) n T A env Ex s.heap σ → f σ = some d → wpAny (model prog w) A (eval e env) (Got s Ex d) E s
noncomputable def DT (prog : Program) (K : Params → Frag) (n : Nat) (T : TE) (e : Expr) (f : Sto → Option Bool) : Prop :=
  ∀ (w : World) (A : Around) (E : Value → Shared → Prop) (s : Shared) (env : Env) (Ex : Addr → Prop) (σ : Sto) (b : Bool),Cx (K w.params) n T A env Ex s.heap σ → f σ = some b → wpAny (model prog w) A (isTrue e env (eval e env)) (fun c s' => c = b ∧ PySem.Keeps s s') E s
theorem keeps_refl (s : Shared) : PySem.Keeps s s := ⟨s.heap,s.toks,rfl,fun _ _ e => e⟩
theorem keeps_toks (s : Shared) (k : Nat) : PySem.Keeps s { s with toks := k } := ⟨s.heap,k,rfl,fun _ _ e => e⟩
theorem keeps_push (s : Shared) (o : Obj) (k : Nat) : PySem.Keeps s { s with heap := s.heap.push o,toks := k } := ⟨_,k,rfl,fun _ _ e => Heap.get?_push_of_some _ e⟩
theorem keeps_up {s s' : Shared} (k : PySem.Keeps s s') : Up s.heap s'.heap := by (refine ob_EEA k fun h t z1q u => ?_; try clear k; obtain rfl := z1q); exact u
theorem keeps_trans {a b c : Shared} (x : PySem.Keeps a b) (y : PySem.Keeps b c) : PySem.Keeps a c := by
  (refine ob_EEA x fun h t z2q u => ?_; try clear x; obtain rfl := z2q)
  (refine ob_EEA y fun h' t' z3q u' => ?_; try clear y; obtain rfl := z3q)
  exact ⟨h',t',rfl,fun b o e => u' b o (u b o e)⟩
theorem keeps_kept (s : Shared) : KeptByPush (PySem.Keeps s) := fun s' ob k x => keeps_trans x (keeps_push s' ob k)
theorem Got.trans {s s₁ s' : Shared} {Ex : Addr → Prop} {d : D} {v : Value} (k : PySem.Keeps s s₁) (g : Got s₁ Ex d v s') : Got s Ex d v s' := ⟨keeps_trans k g.1,g.2⟩
section
variable {K : Params → Frag} {n : Nat} {T : TE} {w : World} {A : Around} {E : Value → Shared → Prop} {s : Shared} {env : Env} {Ex : Addr → Prop} {σ : Sto}
theorem DE.use {e : Expr} {f : Sto → Option D} {d : D} {Q : Value → Shared → Prop} (H : DE prog K n T e f) (C : Cx (K w.params) n T A env Ex s.heap σ) (hf : f σ = some d)
    (k : ∀ v s',PySem.Keeps s s' → Cx (K w.params) n T A env Ex s'.heap σ → Rep s'.heap Ex v d → Q v s') : wpAny (model prog w) A (eval e env) Q E s :=
  wpAny_mono (H w A E s env Ex σ d C hf) (fun v s' g => k v s' g.1 (C.up (keeps_up g.1)) g.2) fun _ _ e => e
theorem DT.use {e : Expr} {f : Sto → Option Bool} {b : Bool} {Q : Bool → Shared → Prop} (H : DT prog K n T e f) (C : Cx (K w.params) n T A env Ex s.heap σ) (hf : f σ = some b)
    (k : ∀ s',PySem.Keeps s s' → Cx (K w.params) n T A env Ex s'.heap σ → Q b s') : wpAny (model prog w) A (isTrue e env (eval e env)) Q E s :=
  wpAny_mono (H w A E s env Ex σ b C hf) (fun v s' g => g.1 ▸ k s' g.2 (C.up (keeps_up g.2))) fun _ _ e => e
theorem wpAny_loadVar {x : Str} {v : Value} {Q : Value → Shared → Prop} (hk : env.scope.kind = .function) (b : Bound s.heap env x v) (h : Q v s) : wpAny (model prog w) A (loadName env x) Q E s := by
  rcases b with ⟨a,m,n,e⟩ | ⟨a,c,e,r⟩
  · exact wpAny_loadName_local hk a n e h
  · exact wpAny_loadName_cell hk a e r h
theorem DE.name {x : Str} {pos : Pos} {i : Nat} (hi : T.vars[i]? = some x) (hd : (x == ("__debug__" : Str)) = false) : DE prog K n T (.Name x pos) (fun σ => σ.get i) := fun w A E s env Ex σ d C hf => by
  refine ob_EA (C.vars i x d hi hf) fun v b r => ?_
  exact wpAny_Name (wpAny_loadVar C.kind b ⟨keeps_refl s,r⟩) hd
theorem DE.int {i : Int} {k : Nat} {pos : Pos} : DE prog K n T (.Constant (.int i) k pos) (fun _ => some (.int i)) := fun w A E s env Ex σ d C hf => by
  cases hf
  exact wpAny_Constant_int ⟨keeps_toks s _,.int _ _⟩
theorem DE.str {x : Str} {k : Nat} {pos : Pos} : DE prog K n T (.Constant (.str x) k pos) (fun _ => some (.str x)) := fun w A E s env Ex σ d C hf => by
  cases hf
  exact Calls.Constant_str ⟨keeps_toks s _,.str _ _⟩
end
noncomputable def OpOk (prog : Program) (op : Value → Value → Sem Value) (F : D → D → Option D) : Prop :=
  ∀ (K : Frag) (w : World) (A : Around) (E : Value → Shared → Prop) (s : Shared) (Ex : Addr → Prop) (a b : Value) (x y d : D),AOk 1 A → Tops K s.heap → Bel s.heap Ex → Rep s.heap Ex a x → Rep s.heap Ex b y → F x y = some d → wpAny (model prog w) A (op a b) (Got s Ex d) E s
section
variable {K : Params → Frag} {n : Nat} {T : TE}
theorem AOk.one {n m : Nat} {A : Around} (a : AOk n A) (h : m ≤ n) : AOk m A :=
  ⟨a.hd,Nat.lt_of_le_of_lt (Nat.add_le_add_left h _) a.dp,Nat.lt_of_le_of_lt (Nat.add_le_add_right (Nat.add_le_add_left (Nat.mul_le_mul_left 8 h) _) 8) a.un⟩
theorem DE.bin {l r : Expr} {op : Operator} {pos : Pos} {f g : Sto → Option D} {F : D → D → Option D} (hop : OpOk prog (binaryOp op) F) (hl : DE prog K n T l f) (hr : DE prog K n T r g) (hn : 1 ≤ n := by decide) :
    DE prog K n T (.BinOp l op r pos) (fun σ => (f σ).bind fun x => (g σ).bind fun y => F x y) := fun w A E s env Ex σ d C hf => by
  refine ob_EA (Option.bind_eq_some_iff.mp hf) fun x hx hf => ?_
  refine ob_EA (Option.bind_eq_some_iff.mp hf) fun y hy hf => ?_
  refine wpAny_BinOp (hl.use C hx fun a s₁ k₁ C₁ r₁ => hr.use C₁ hy fun b s₂ k₂ C₂ r₂ => ?_)
  exact wpAny_mono (hop (K w.params) w A E s₂ Ex a b x y d (C.a.one hn) C₂.tops C₂.bel (r₁.up (keeps_up k₂)) r₂ hf) (fun v s' g => g.trans (keeps_trans k₁ k₂)) fun _ _ e => e
theorem DE.cmp {l r : Expr} {op : CmpOp} {pos : Pos} {f g : Sto → Option D} {F : D → D → Option D} (hop : OpOk prog (compareOp op) F) (hl : DE prog K n T l f) (hr : DE prog K n T r g) (hb : behindInMarks op r = false) (hn : 1 ≤ n := by decide) :
    DE prog K n T (.Compare l [op] [r] pos) (fun σ => (f σ).bind fun x => (g σ).bind fun y => F x y) := fun w A E s env Ex σ d C hf => by
  refine ob_EA (Option.bind_eq_some_iff.mp hf) fun x hx hf => ?_
  refine ob_EA (Option.bind_eq_some_iff.mp hf) fun y hy hf => ?_
  refine wpAny_Compare1 (hl.use C hx fun a s₁ k₁ C₁ r₁ => hr.use C₁ hy fun b s₂ k₂ C₂ r₂ => ?_) hb
  exact wpAny_mono (hop (K w.params) w A E s₂ Ex a b x y d (C.a.one hn) C₂.tops C₂.bel (r₁.up (keeps_up k₂)) r₂ hf) (fun v s' g => g.trans (keeps_trans k₁ k₂)) fun _ _ e => e
end
end
section
variable {prog : Program}
theorem got_toks {s : Shared} {Ex : Addr → Prop} {v : Value} {d : D} {k : Nat} (r : Rep s.heap Ex v d) : Got s Ex d v { s with toks := k } := ⟨keeps_toks s k,r⟩
theorem got_list {s : Shared} {Ex : Addr → Prop} {vs : List Value} {ds : List D} {k : Nat} (hx : Bel s.heap Ex) (r : RepAll s.heap Ex vs ds) :
    Got s Ex (.list ds) (.ref s.heap.objs.size) { s with heap := s.heap.push { cls := .type "list",data := .seq vs.toArray },toks := k } := by
  refine ⟨keeps_push s _ k,.list (fun e => ?_) ⟨_,Heap.get?_push_size _ rfl,rfl,_,rfl⟩ (r.up (Up.push _ _))⟩
  exact absurd (hx.lt e) (Nat.lt_irrefl _)
noncomputable def addD : D → D → Option D
  | .int a,.int b => some (.int (a + b))
  | .str x,.str y => if x.length + y.length ≤ sizeLine then some (.str (x ++ y)) else none
  | .bytes b,.bytes c => if b.size + c.size ≤ 16777216 then some (.bytes (b ++ c)) else none
  | .list a,.list b => if a.length + b.length ≤ sizeLine then some (.list (a ++ b)) else none
  | _,_ => none
theorem nn {α : Type} {d : α} {P : Prop} (h : (none : Option α) = some d) : P := by cases h
theorem ifs {α : Type} {c : Prop} [Decidable c] {a b : α} (h : (if c then some a else none) = some b) : c ∧ a = b := by
  by_cases k : c
  · rw [if_pos k] at h; exact ⟨k,Option.some.inj h⟩
  · rw [if_neg k] at h; exact nn h
noncomputable def ints2 (g : Int → Int → Option D) : D → D → Option D
  | .int a,.int b => g a b
  | _,_ => none
theorem ints2_inv {g : Int → Int → Option D} {x y d : D} {P : Prop} (h : ints2 g x y = some d) (k : ∀ a b,x = .int a → y = .int b → g a b = some d → P) : P := by
  cases x with
  | int a => cases y with
    | int b => exact k a b rfl rfl h
    | _ => exact nn h
  | _ => exact nn h
theorem addD_ii {a b : Int} : addD (.int a) (.int b) = some (.int (a + b)) := rfl
theorem op_add : OpOk prog (binaryOp .Add) addD := by
  intro K w A E s Ex a b x y d ha ht hx r₁ r₂ hf
  cases x with
  | int i => cases y with
    | int j =>
      obtain rfl := Option.some.inj hf
      (refine ob_E r₁.int_inv fun t z1q => ?_; obtain rfl := z1q)
      (refine ob_E r₂.int_inv fun u z2q => ?_; obtain rfl := z2q)
      exact add_int (got_toks (.int _ _))
    | _ => exact nn hf
  | str p => cases y with
    | str q =>
      refine ob_A (ifs hf) fun hz e => ?_
      subst e
      (refine ob_E r₁.str_inv fun t z3q => ?_; obtain rfl := z3q)
      (refine ob_E r₂.str_inv fun u z4q => ?_; obtain rfl := z4q)
      exact add_str (fun t' k => got_toks (.str _ _)) hz
    | _ => exact nn hf
  | bytes p => cases y with
    | bytes q =>
      refine ob_A (ifs hf) fun hz e => ?_
      subst e
      (refine ob_E r₁.bytes_inv fun t z5q => ?_; obtain rfl := z5q)
      (refine ob_E r₂.bytes_inv fun u z6q => ?_; obtain rfl := z6q)
      exact KBy.add_bytes hz (fun t' k => got_toks (.bytes _ _))
    | _ => exact nn hf
  | list p => cases y with
    | list q =>
      refine ob_A (ifs hf) fun hz e => ?_
      subst e
      (refine ob_EEAAA r₁.list_inv fun p vs z7q e₁ z8q k₁ => ?_; obtain rfl := z7q; obtain ⟨⟨c₁,d₁,t₁,l₁⟩,g₁,q₁,n₁,z₁⟩ := z8q)
      (refine ob_EEAAA r₂.list_inv fun q ws z9q e₂ z10q k₂ => ?_; obtain rfl := z9q; obtain ⟨⟨c₂,d₂,t₂,l₂⟩,g₂,q₂,n₂,z₂⟩ := z10q)
      dsimp only at q₁ z₁ q₂ z₂
      subst q₁ z₁ q₂ z₂
      refine concat_meets ⟨_,g₁,rfl⟩ ⟨_,g₂,rfl⟩ noFill_list_add seq_list_add PySem.F.slot_list_add PySem.F.entry_list_add (PySem.F.args_list_add_2 _ _)
        (list_addW p q vs.toArray ws.toArray n₁ n₂ d₁ d₂ l₁ l₂ (by rw [List.size_toArray,List.size_toArray,k₁.length,k₂.length]; exact hz)) ⟨g₁,g₂,?_⟩
      have e : vs.toArray ++ ws.toArray = (vs ++ ws).toArray := by simp
      rw [e]
      exact got_list hx (k₁.append k₂)
    | _ => exact nn hf
  | _ => exact nn hf
noncomputable def small (a : Int) : Bool := decide (a.natAbs < 2 ^ 2000)
theorem bits_small {a : Int} (h : small a = true) : Builtin.Int.intBits a ≤ 2000 := by
  unfold small at h
  have h := of_decide_eq_true h
  unfold Builtin.Int.intBits
  by_cases z : a.natAbs = 0
  · have : a = 0 := Int.natAbs_eq_zero.mp z
    subst this; decide
  · have := (Nat.log2_lt z).mpr h
    split <;> (first | exact Nat.zero_le _ | assumption | omega)
noncomputable def subD : D → D → Option D := ints2 fun a b => some (.int (a - b))
theorem subD_ii {a b : Int} : subD (.int a) (.int b) = some (.int (a - b)) := rfl
theorem op_sub : OpOk prog (binaryOp .Sub) subD := by
  intro K w A E s Ex a b x y d ha ht hx r₁ r₂ hf
  refine ints2_inv hf fun i j e1 e2 hf => ?_
  subst e1 e2
  obtain rfl := Option.some.inj hf
  (refine ob_E r₁.int_inv fun t z11q => ?_; obtain rfl := z11q)
  (refine ob_E r₂.int_inv fun u z12q => ?_; obtain rfl := z12q)
  exact sub_int (got_toks (.int _ _))
noncomputable def mulD : D → D → Option D := ints2 fun a b => if small a && small b then some (.int (a * b)) else none
theorem mulD_ii {a b : Int} : mulD (.int a) (.int b) = if small a && small b then some (.int (a * b)) else none := rfl
theorem mul_ok {a b : Int} (h : (small a && small b) = true) : IntMulOk a b := by
  rw [Bool.and_eq_true] at h
  have h1 := bits_small h.1
  have h2 := bits_small h.2
  unfold IntMulOk Builtin.Int.intTooBig
  have : ¬ (Builtin.Int.intBits a + Builtin.Int.intBits b > bitsLine) := by unfold bitsLine; lia
  intro q
  simp only [Bool.and_eq_true,decide_eq_true_eq] at q
  exact this (by have := q.2; exact Int.ofNat_lt.mp (by assumption))
theorem op_mul : OpOk prog (binaryOp .Mult) mulD := by
  intro K w A E s Ex a b x y d ha ht hx r₁ r₂ hf
  refine ints2_inv hf fun i j e1 e2 hf => ?_
  subst e1 e2
  refine ob_A (ifs hf) fun hz e => ?_
  subst e
  (refine ob_E r₁.int_inv fun t z13q => ?_; obtain rfl := z13q)
  (refine ob_E r₂.int_inv fun u z14q => ?_; obtain rfl := z14q)
  exact mul_int (got_toks (.int _ _)) (mul_ok hz)
noncomputable def divD : D → D → Option D := ints2 fun a b => if b ≠ 0 ∧ small b = true then some (.int (Int.fdiv a b)) else none
theorem divD_ii {a b : Int} : divD (.int a) (.int b) = if b ≠ 0 ∧ small b = true then some (.int (Int.fdiv a b)) else none := rfl
theorem div_ok {a b : Int} (h : small b = true) : Builtin.divisionGoesByPylong a b = false := by
  unfold small at h
  have h := of_decide_eq_true h
  unfold Builtin.divisionGoesByPylong
  have : (if b == 0 then 0 else b.natAbs.log2 / 30 + 1) ≤ 300 := by
    split
    · exact Nat.zero_le _
    · rename_i q
      have z : b.natAbs ≠ 0 := by simpa using q
      have := (Nat.log2_lt z).mpr h
      lia
  simp only [gt_iff_lt,Bool.and_eq_false_imp,decide_eq_true_eq]
  intro q
  exact absurd this (Nat.not_le.mpr q)
theorem op_div : OpOk prog (binaryOp .FloorDiv) divD := by
  intro K w A E s Ex a b x y d ha ht hx r₁ r₂ hf
  refine ints2_inv hf fun i j e1 e2 hf => ?_
  subst e1 e2
  refine ob_A (ifs hf) fun hz e => ?_
  subst e
  (refine ob_E r₁.int_inv fun t z15q => ?_; obtain rfl := z15q)
  (refine ob_E r₂.int_inv fun u z16q => ?_; obtain rfl := z16q)
  exact floordiv_int hz.1 (got_toks (.int _ _)) (.inl (div_ok hz.2))
noncomputable def modD : D → D → Option D := ints2 fun a b => if b ≠ 0 then some (.int (Int.fmod a b)) else none
theorem modD_ii {a b : Int} : modD (.int a) (.int b) = if b ≠ 0 then some (.int (Int.fmod a b)) else none := rfl
theorem op_mod : OpOk prog (binaryOp .Mod) modD := by
  intro K w A E s Ex a b x y d ha ht hx r₁ r₂ hf
  refine ints2_inv hf fun i j e1 e2 hf => ?_
  subst e1 e2
  refine ob_A (ifs hf) fun hz e => ?_
  subst e
  (refine ob_E r₁.int_inv fun t z17q => ?_; obtain rfl := z17q)
  (refine ob_E r₂.int_inv fun u z18q => ?_; obtain rfl := z18q)
  exact mod_int' hz (got_toks (.int _ _))
noncomputable def powD : D → D → Option D := ints2 fun a b => if 0 ≤ b ∧ b ≤ 60000 ∧ small a = true then some (.int (a ^ b.toNat)) else none
theorem powD_ii {a b : Int} : powD (.int a) (.int b) = if 0 ≤ b ∧ b ≤ 60000 ∧ small a = true then some (.int (a ^ b.toNat)) else none := rfl
theorem op_pow : OpOk prog (binaryOp .Pow) powD := by
  intro K w A E s Ex a b x y d ha ht hx r₁ r₂ hf
  refine ints2_inv hf fun p q e1 e2 hf => ?_
  subst e1 e2
  refine ob_A (ifs hf) fun hz e => ?_
  subst e
  (refine ob_E r₁.int_inv fun t z19q => ?_; obtain rfl := z19q)
  (refine ob_E r₂.int_inv fun u z20q => ?_; obtain rfl := z20q)
  have h1 := bits_small hz.2.2
  have h2 : ((Builtin.Int.intBits p : Nat) : Int) ≤ 2000 := by exact Int.ofNat_le.mpr (by assumption)
  refine pow_int hz.1 ?_ (got_toks (.int _ _))
  calc ((Builtin.Int.intBits p : Nat) : Int) * q ≤ 2000 * q := Int.mul_le_mul_of_nonneg_right h2 hz.1
    _ ≤ 2000 * 60000 := Int.mul_le_mul_of_nonneg_left hz.2.1 (by decide)
    _ ≤ 2 ^ 27 := by decide
noncomputable def eqD : D → D → Option D
  | .int a,.int b => some (.bool (a == b))
  | .str a,.str b => some (.bool (a == b))
  | .str _,.int _ => some (.bool false)
  | .int _,.str _ => some (.bool false)
  | _,_ => none
theorem op_eq : OpOk prog (compareOp .Eq) eqD := by
  intro K w A E s Ex a b x y d ha ht hx r₁ r₂ hf
  unfold eqD at hf
  split at hf
  · cases hf
    (refine ob_E r₁.int_inv fun t z21q => ?_; obtain rfl := z21q)
    (refine ob_E r₂.int_inv fun u z22q => ?_; obtain rfl := z22q)
    exact eq_int ⟨keeps_refl s,.bool _⟩
  · cases hf
    (refine ob_E r₁.str_inv fun t z23q => ?_; obtain rfl := z23q)
    (refine ob_E r₂.str_inv fun u z24q => ?_; obtain rfl := z24q)
    exact eq_str ⟨keeps_refl s,.bool _⟩
  · cases hf
    (refine ob_E r₁.str_inv fun t z25q => ?_; obtain rfl := z25q)
    (refine ob_E r₂.int_inv fun u z26q => ?_; obtain rfl := z26q)
    exact EqMixed.eq_str_int ⟨keeps_refl s,.bool _⟩
  · cases hf
    (refine ob_E r₁.int_inv fun t z27q => ?_; obtain rfl := z27q)
    (refine ob_E r₂.str_inv fun u z28q => ?_; obtain rfl := z28q)
    exact EqMixed.eq_int_str ⟨keeps_refl s,.bool _⟩
  · cases hf
noncomputable def neD (x y : D) : Option D := (eqD x y).bind fun d => match d with | .bool b => some (.bool (!b)) | _ => none
theorem op_ne : OpOk prog (compareOp .NotEq) neD := by
  intro K w A E s Ex a b x y d ha ht hx r₁ r₂ hf
  unfold neD eqD at hf
  split at hf
  · cases hf
    (refine ob_E r₁.int_inv fun t z29q => ?_; obtain rfl := z29q)
    (refine ob_E r₂.int_inv fun u z30q => ?_; obtain rfl := z30q)
    exact ne_int ⟨keeps_refl s,.bool _⟩
  · cases hf
    (refine ob_E r₁.str_inv fun t z31q => ?_; obtain rfl := z31q)
    (refine ob_E r₂.str_inv fun u z32q => ?_; obtain rfl := z32q)
    exact ne_str ⟨keeps_refl s,.bool _⟩
  · cases hf
    (refine ob_E r₁.str_inv fun t z33q => ?_; obtain rfl := z33q)
    (refine ob_E r₂.int_inv fun u z34q => ?_; obtain rfl := z34q)
    exact EqMixed.ne_str_int ⟨keeps_refl s,.bool _⟩
  · cases hf
    (refine ob_E r₁.int_inv fun t z35q => ?_; obtain rfl := z35q)
    (refine ob_E r₂.str_inv fun u z36q => ?_; obtain rfl := z36q)
    exact EqMixed.ne_int_str ⟨keeps_refl s,.bool _⟩
  · cases hf
noncomputable def ltD : D → D → Option D := ints2 fun a b => some (.bool (decide (a < b)))
theorem ltD_ii {a b : Int} : ltD (.int a) (.int b) = some (.bool (decide (a < b))) := rfl
theorem op_lt : OpOk prog (compareOp .Lt) ltD := by
  intro K w A E s Ex a b x y d ha ht hx r₁ r₂ hf
  refine ints2_inv hf fun i j e1 e2 hf => ?_
  subst e1 e2
  obtain rfl := Option.some.inj hf
  (refine ob_E r₁.int_inv fun t z37q => ?_; obtain rfl := z37q)
  (refine ob_E r₂.int_inv fun u z38q => ?_; obtain rfl := z38q)
  exact lt_int ⟨keeps_refl s,.bool _⟩
noncomputable def gtD : D → D → Option D := ints2 fun a b => some (.bool (decide (b < a)))
theorem gtD_ii {a b : Int} : gtD (.int a) (.int b) = some (.bool (decide (b < a))) := rfl
theorem op_gt : OpOk prog (compareOp .Gt) gtD := by
  intro K w A E s Ex a b x y d ha ht hx r₁ r₂ hf
  refine ints2_inv hf fun i j e1 e2 hf => ?_
  subst e1 e2
  obtain rfl := Option.some.inj hf
  (refine ob_E r₁.int_inv fun t z39q => ?_; obtain rfl := z39q)
  (refine ob_E r₂.int_inv fun u z40q => ?_; obtain rfl := z40q)
  exact gt_int ⟨keeps_refl s,.bool _⟩
noncomputable def truthD : D → Option Bool
  | .int a => some (a != 0)
  | .bool b => some b
  | .none => some false
  | .str x => if x.length ≤ sizeLine then some (((x.length : Nat) : Int) != 0) else none
  | .bytes b => if b.size ≤ sizeLine then some (((b.size : Nat) : Int) != 0) else none
  | .list ds => if ds.length ≤ sizeLine then some (!ds.isEmpty) else none
  | _ => none
theorem truthD_i {a : Int} : truthD (.int a) = some (a != 0) := rfl
theorem truthD_b {b : Bool} : truthD (.bool b) = some b := rfl
theorem truth_ok {w : World} {A : Around} {E : Value → Shared → Prop} {s : Shared} {Ex : Addr → Prop} {v : Value} {d : D} {b : Bool} {Q : Bool → Shared → Prop} (r : Rep s.heap Ex v d) (hb : truthD d = some b) (k : ∀ s',PySem.Keeps s s' → Q b s') :
    wpAny (model prog w) A (truthy v) Q E s := by
  unfold truthD at hb
  split at hb
  · cases hb
    (refine ob_E r.int_inv fun t z41q => ?_; obtain rfl := z41q)
    exact PySem.P.truthy_int (k _ (keeps_refl s))
  · cases hb
    obtain rfl := r.bool_inv
    exact wpAny_truthy_bool (k _ (keeps_refl s))
  · cases hb
    obtain rfl := r.none_inv
    exact truthy_none (k _ (keeps_refl s))
  · split at hb
    · rename_i hz
      cases hb
      (refine ob_E r.str_inv fun t z42q => ?_; obtain rfl := z42q)
      rw [sizeLine_eq] at hz
      exact PySem.P.truthy_str (by lia) (k _ (keeps_toks s _))
    · cases hb
  · split at hb
    · rename_i hz
      cases hb
      (refine ob_E r.bytes_inv fun t z43q => ?_; obtain rfl := z43q)
      rw [sizeLine_eq] at hz
      exact PySem.W.truthy_bytes (by exact Nat.le_trans (by assumption) (by decide)) (k _ (keeps_toks s _))
    · cases hb
  · split at hb
    · rename_i ds hz
      cases hb
      (refine ob_EEAAA r.list_inv fun a vs z44q e l q => ?_; obtain rfl := z44q)
      have hlen := q.length
      have he : (!ds.isEmpty) = !vs.toArray.isEmpty := by
        cases vs <;> cases ds <;> simp_all
      rw [he] at k
      refine wpAny_truthy_list l ?_ (k _ (keeps_toks s _))
      rw [List.size_toArray,hlen]
      rw [sizeLine_eq] at hz
      lia
    · cases hb
  · cases hb
section
variable {K : Params → Frag} {n : Nat} {T : TE}
theorem DT.plain {e : Expr} {f : Sto → Option D} (h : DE prog K n T e f) (hp : ∀ env,isTrue e env (eval e env) = (do let v ← eval e env; standAt (Expr.pos e); holding [v] (truthy v))) :
    DT prog K n T e (fun σ => (f σ).bind truthD) := fun w A E s env Ex σ b C hf => by
  refine ob_EA (Option.bind_eq_some_iff.mp hf) fun d hd hf => ?_
  exact isTrue_plain (h.use C hd fun v s₁ k₁ C₁ r₁ => truth_ok r₁ hf fun s' k => ⟨rfl,keeps_trans k₁ k⟩) (hp env)
theorem DT.cmp {l r : Expr} {op : CmpOp} {pos : Pos} {f g : Sto → Option D} {F : D → D → Option D} (hop : OpOk prog (compareOp op) F) (hl : DE prog K n T l f) (hr : DE prog K n T r g) (hb : behindInMarks op r = false) (hn : 1 ≤ n := by decide) :
    DT prog K n T (.Compare l [op] [r] pos) (fun σ => (f σ).bind fun x => (g σ).bind fun y => (F x y).bind truthD) := fun w A E s env Ex σ d C hf => by
  refine ob_EA (Option.bind_eq_some_iff.mp hf) fun x hx hf => ?_
  refine ob_EA (Option.bind_eq_some_iff.mp hf) fun y hy hf => ?_
  refine ob_EA (Option.bind_eq_some_iff.mp hf) fun z hz hf => ?_
  refine wpAny_isTrue_Compare1 (hl.use C hx fun a s₁ k₁ C₁ r₁ => hr.use C₁ hy fun b s₂ k₂ C₂ r₂ => ?_) hb
  exact wpAny_mono (hop (K w.params) w A E s₂ Ex a b x y z (C.a.one hn) C₂.tops C₂.bel (r₁.up (keeps_up k₂)) r₂ hz) (fun v s' g => truth_ok g.2 hf fun s₃ k => ⟨rfl,keeps_trans k₁ (keeps_trans k₂ (keeps_trans g.1 k))⟩) fun _ _ e => e
theorem DT.not {x : Expr} {pos : Pos} {f : Sto → Option Bool} (h : DT prog K n T x f) : DT prog K n T (.UnaryOp .Not x pos) (fun σ => (f σ).map (!·)) := fun w A E s env Ex σ d C hf => by
  (refine ob_EA (Option.map_eq_some_iff.mp hf) fun b hb z45q => ?_; obtain rfl := z45q)
  exact isTrue_not (h.use C hb fun s₁ k₁ C₁ => ⟨rfl,k₁⟩)
noncomputable def DTs (prog : Program) (K : Params → Frag) (n : Nat) (T : TE) (op : BoolOp) (es : List Expr) (f : Sto → Option Bool) : Prop :=
  ∀ (w : World) (A : Around) (E : Value → Shared → Prop) (s : Shared) (env : Env) (Ex : Addr → Prop) (σ : Sto) (b : Bool) (pos : Pos) (whole : Sem Value),Cx (K w.params) n T A env Ex s.heap σ → f σ = some b →
    wpAny (model prog w) A (isTrue (.BoolOp op es pos) env whole) (fun c s' => c = b ∧ PySem.Keeps s s') E s
theorem DTs.andNil : DTs prog K n T .And [] (fun _ => some true) := fun w A E s env Ex σ b pos whole C hf => by
  cases hf
  exact isTrue_and_nil ⟨rfl,keeps_refl s⟩
theorem DTs.orNil : DTs prog K n T .Or [] (fun _ => some false) := fun w A E s env Ex σ b pos whole C hf => by
  cases hf
  exact isTrue_or_nil ⟨rfl,keeps_refl s⟩
theorem DTs.and {x : Expr} {es : List Expr} {f g : Sto → Option Bool} (h : DT prog K n T x f) (k : DTs prog K n T .And es g) : DTs prog K n T .And (x :: es) (fun σ => (f σ).bind fun b => bif b then g σ else some false) :=
  fun w A E s env Ex σ b pos whole C hf => by
  refine ob_EA (Option.bind_eq_some_iff.mp hf) fun c hc hf => ?_
  refine isTrue_and (h.use C hc fun s₁ k₁ C₁ => ?_)
  cases c with
  | true =>
    rw [if_pos rfl]
    exact wpAny_mono (k w A E s₁ env Ex σ b pos whole C₁ hf) (fun c s' g => ⟨g.1,keeps_trans k₁ g.2⟩) fun _ _ e => e
  | false =>
    rw [if_neg Bool.false_ne_true]
    cases hf
    exact ⟨rfl,k₁⟩
theorem DTs.or {x : Expr} {es : List Expr} {f g : Sto → Option Bool} (h : DT prog K n T x f) (k : DTs prog K n T .Or es g) : DTs prog K n T .Or (x :: es) (fun σ => (f σ).bind fun b => bif b then some true else g σ) :=
  fun w A E s env Ex σ b pos whole C hf => by
  refine ob_EA (Option.bind_eq_some_iff.mp hf) fun c hc hf => ?_
  refine isTrue_or (h.use C hc fun s₁ k₁ C₁ => ?_)
  cases c with
  | false =>
    rw [if_neg Bool.false_ne_true]
    exact wpAny_mono (k w A E s₁ env Ex σ b pos whole C₁ hf) (fun c s' g => ⟨g.1,keeps_trans k₁ g.2⟩) fun _ _ e => e
  | true =>
    rw [if_pos rfl]
    cases hf
    exact ⟨rfl,k₁⟩
theorem DT.bool {op : BoolOp} {es : List Expr} {pos : Pos} {f : Sto → Option Bool} (h : DTs prog K n T op es f) : DT prog K n T (.BoolOp op es pos) f := fun w A E s env Ex σ b C hf => h w A E s env Ex σ b pos _ C hf
theorem DE.ife {t b o : Expr} {pos : Pos} {f : Sto → Option Bool} {g h : Sto → Option D} (ht : DT prog K n T t f) (hb : DE prog K n T b g) (ho : DE prog K n T o h) :
    DE prog K n T (.IfExp t b o pos) (fun σ => (f σ).bind fun c => bif c then g σ else h σ) := fun w A E s env Ex σ d C hf => by
  refine ob_EA (Option.bind_eq_some_iff.mp hf) fun c hc hf => ?_
  refine wpAny_IfExp (ht.use C hc fun s₁ k₁ C₁ => ?_)
  cases c with
  | true => rw [if_pos rfl]; exact hb.use C₁ hf fun v s' k _ r => ⟨keeps_trans k₁ k,r⟩
  | false => rw [if_neg Bool.false_ne_true]; exact ho.use C₁ hf fun v s' k _ r => ⟨keeps_trans k₁ k,r⟩
theorem DE.neg {x : Expr} {pos : Pos} {f : Sto → Option D} (h : DE prog K n T x f) : DE prog K n T (.UnaryOp .USub x pos) (fun σ => (f σ).bind fun d => match d with | .int i => some (.int (-i)) | _ => none) :=
  fun w A E s env Ex σ d C hf => by
  refine ob_EA (Option.bind_eq_some_iff.mp hf) fun c hc hf => ?_
  split at hf
  · cases hf
    refine UnaryOp_ (h.use C hc fun v s₁ k₁ C₁ r₁ => ?_)
    (refine ob_E r₁.int_inv fun t z46q => ?_; obtain rfl := z46q)
    exact PySem.P.neg_int ⟨keeps_trans k₁ (keeps_toks s₁ _),.int _ _⟩
  · cases hf
theorem DE.or2 {x y : Expr} {pos : Pos} {f g : Sto → Option D} (h : DE prog K n T x f) (k : DE prog K n T y g) : DE prog K n T (.BoolOp .Or [x,y] pos) (fun σ => (f σ).bind fun d => (truthD d).bind fun b => bif b then some d else g σ) :=
  fun w A E s env Ex σ d C hf => by
  refine ob_EA (Option.bind_eq_some_iff.mp hf) fun c hc hf => ?_
  refine ob_EA (Option.bind_eq_some_iff.mp hf) fun b hb hf => ?_
  refine BoolOp_or (h.use C hc fun v s₁ k₁ C₁ r₁ => truth_ok r₁ hb fun s₂ k₂ => ?_)
  cases b with
  | true => rw [if_pos rfl]; cases hf; exact ⟨keeps_trans k₁ k₂,r₁.up (keeps_up k₂)⟩
  | false =>
    rw [if_neg Bool.false_ne_true]
    exact BoolOp_one (k.use (C₁.up (keeps_up k₂)) hf fun v s' k₃ _ r => ⟨keeps_trans k₁ (keeps_trans k₂ k₃),r⟩)
theorem DE.cnone {k : Nat} {pos : Pos} : DE prog K n T (.Constant .none k pos) (fun _ => some .none) := fun w A E s env Ex σ d C hf => by
  cases hf
  exact wpAny_Constant_none ⟨keeps_refl s,.none⟩
theorem DE.bool {b : Bool} {k : Nat} {pos : Pos} : DE prog K n T (.Constant (.bool b) k pos) (fun _ => some (.bool b)) := fun w A E s env Ex σ d C hf => by
  cases hf
  exact wpAny_Constant_bool ⟨keeps_refl s,.bool _⟩
theorem DE.bytes {b : List UInt8} {k : Nat} {pos : Pos} : DE prog K n T (.Constant (.bytes b) k pos) (fun _ => some (.bytes b.toArray)) := fun w A E s env Ex σ d C hf => by
  cases hf
  exact Constant_bytes ⟨keeps_toks s _,.bytes _ _⟩
end
end
section
variable {prog : Program}
section
variable {K : Params → Frag} {n : Nat} {T : TE} {w : World} {A : Around} {E : Value → Shared → Prop}
theorem tail_on {value slice : Expr} {o i : Value} {ops : List Value} {Q : Value → Shared → Prop} {s : Shared} (h : ItemOn (model prog w) A E o i Q s) (hs : subscripted slice false o i = operate ops (getItem o i)) :
    wpAny (model prog w) A (subscriptTail value slice o i) Q E s := let ⟨_,_,hl,hT,hg⟩ := h; tail_any hT hl hg hs
noncomputable def idxD : D → D → Option D
  | .list ds,.int k => if 0 ≤ k ∧ k < 2 ^ 63 then ds[k.toNat]? else none
  | .str x,.int k => if (-((x.length : Nat) : Int) ≤ k ∧ k < ((x.length : Nat) : Int)) ∧ x.length ≤ sizeLine then some (.str (Txt.item x k)) else none
  | _,_ => none
theorem DE.idx {value slice : Expr} {pos : Pos} {f g : Sto → Option D} (hv : DE prog K n T value f) (hi : DE prog K n T slice g) (hs : ∀ o i,subscripted slice false o i = operate [o,i] (getItem o i)) :
    DE prog K n T (.Subscript value slice pos) (fun σ => (f σ).bind fun x => (g σ).bind fun y => idxD x y) := fun w A E s env Ex σ d C hf => by
  refine ob_EA (Option.bind_eq_some_iff.mp hf) fun x hx hf => ?_
  refine ob_EA (Option.bind_eq_some_iff.mp hf) fun y hy hf => ?_
  refine Subscript_ (hv.use C hx fun a s₁ k₁ C₁ r₁ => hi.use C₁ hy fun b s₂ k₂ C₂ r₂ => ?_)
  replace r₁ := r₁.up (keeps_up k₂)
  have k := keeps_trans k₁ k₂
  unfold idxD at hf
  split at hf
  · split at hf
    · rename_i hz
      (refine ob_EEAAA r₁.list_inv fun p vs z1q e l q => ?_; obtain rfl := z1q)
      (refine ob_E r₂.int_inv fun u z2q => ?_; obtain rfl := z2q)
      refine ob_EA (q.get hf) fun v hv' rv => ?_
      exact tail_any l.typeIs slot_list_getitem.lookup (wpAny_getItem_list l hz.1 hz.2 (by simpa using hv') ⟨k,rv⟩) (hs _ _)
    · cases hf
  · split at hf
    · rename_i hz
      cases hf
      (refine ob_E r₁.str_inv fun t z3q => ?_; obtain rfl := z3q)
      (refine ob_E r₂.int_inv fun u z4q => ?_; obtain rfl := z4q)
      have hl := hz.2
      rw [sizeLine_eq] at hl
      exact tail_on (SBL.item hz.1.1 hz.1.2 (by lia) fun _ => ⟨keeps_trans k (keeps_toks s₂ _),.str _ _⟩) (hs _ _)
    · cases hf
  · cases hf
noncomputable def DP (prog : Program) (K : Params → Frag) (n : Nat) (T : TE) (e : Option Expr) (f : Sto → Option (Option Int)) : Prop :=
  ∀ (w : World) (A : Around) (E : Value → Shared → Prop) (s : Shared) (env : Env) (Ex : Addr → Prop) (σ : Sto) (p : Option Int),Cx (K w.params) n T A env Ex s.heap σ → f σ = some p → wpAny (model prog w) A (evalPart e env) (fun v s' => PySem.Keeps s s' ∧ IsPart v p) E s
noncomputable def partD : D → Option (Option Int)
  | .int i => some (some i)
  | .none => some none
  | _ => none
theorem partD_i {i : Int} : partD (.int i) = some (some i) := rfl
theorem DP.no : DP prog K n T none (fun _ => some none) := fun w A E s env Ex σ p C hf => by
  cases hf
  exact evalPart_none_step ⟨keeps_refl s,.none⟩
theorem DP.yes {e : Expr} {f : Sto → Option D} (h : DE prog K n T e f) : DP prog K n T (some e) (fun σ => (f σ).bind partD) := fun w A E s env Ex σ p C hf => by
  refine ob_EA (Option.bind_eq_some_iff.mp hf) fun x hx hf => ?_
  refine evalPart_some_step (h.use C hx fun v s₁ k₁ C₁ r₁ => ?_)
  unfold partD at hf
  split at hf
  · cases hf
    (refine ob_E r₁.int_inv fun t z5q => ?_; obtain rfl := z5q)
    exact ⟨k₁,.int _ _⟩
  · cases hf
    obtain rfl := r₁.none_inv
    exact ⟨k₁,.none⟩
  · cases hf
noncomputable def pick {α : Type} (xs : List α) (lo hi : Option Int) : List α :=
  (sliceRange (sliceBounds lo hi none xs.length).1 (sliceBounds lo hi none xs.length).2.1 (sliceBounds lo hi none xs.length).2.2).filterMap (xs[·]?)
theorem pick_rep {h : Heap} {Ex : Addr → Prop} {vs : List Value} {ds : List D} (r : RepAll h Ex vs ds) : ∀ is : List Nat,RepAll h Ex (is.filterMap (vs[·]?)) (is.filterMap (ds[·]?))
  | [] => .nil
  | i :: is => by
    have ih := pick_rep r is
    cases hd : ds[i]? with
    | none =>
      have hv : vs[i]? = none := by
        rw [List.getElem?_eq_none_iff] at hd ⊢
        rw [r.length]; exact hd
      simpa [hd,hv] using ih
    | some d =>
      refine ob_EA (r.get hd) fun v hv rv => ?_
      simpa [hd,hv] using RepAll.cons rv ih
noncomputable def sliceD : D → Option Int → Option Int → Option D
  | .str x,lo,hi => if x.length ≤ sizeLine then some (.str (Txt.slice x lo hi)) else none
  | .list ds,lo,hi => if ds.length ≤ sizeLine then some (.list (pick ds lo hi)) else none
  | .bytes b,lo,hi => if b.size ≤ sizeLine then some (.bytes (W.KBy.picked b lo hi)) else none
  | _,_,_ => none
theorem DE.slice {value : Expr} {lo hi : Option Expr} {p pos : Pos} {f : Sto → Option D} {g h : Sto → Option (Option Int)} (hv : DE prog K n T value f) (hl : DP prog K n T lo g) (hh : DP prog K n T hi h) :
    DE prog K n T (.Subscript value (.Slice lo hi none p) pos) (fun σ => (f σ).bind fun x => (g σ).bind fun a => (h σ).bind fun b => sliceD x a b) := fun w A E s env Ex σ d C hf => by
  refine ob_EA (Option.bind_eq_some_iff.mp hf) fun x hx hf => ?_
  refine ob_EA (Option.bind_eq_some_iff.mp hf) fun a ha hf => ?_
  refine ob_EA (Option.bind_eq_some_iff.mp hf) fun b hb hf => ?_
  refine Subscript_ (hv.use C hx fun v s₁ k₁ C₁ r₁ => wpAny_Slice (wpAny_mono (hl w A E s₁ env Ex σ a C₁ ha) (fun la s₂ g₂ => ?_) fun _ _ e => e))
  (refine ob_A g₂ fun k₂ pa => ?_; try clear g₂)
  have C₂ := C₁.up (keeps_up k₂)
  refine wpAny_mono (hh w A E s₂ env Ex σ b C₂ hb) (fun lb s₃ g₃ => evalPart_none_step ?_) fun _ _ e => e
  (refine ob_A g₃ fun k₃ pb => ?_; try clear g₃)
  have C₃ := C₂.up (keeps_up k₃)
  have k := keeps_trans k₁ (keeps_trans k₂ k₃)
  replace r₁ := r₁.up (keeps_up (keeps_trans k₂ k₃))
  unfold sliceD at hf
  split at hf
  · split at hf
    · rename_i hz
      cases hf
      (refine ob_E r₁.str_inv fun t z6q => ?_; obtain rfl := z6q)
      cases pa <;> cases pb
      · exact tail_on (SBG.sliceItem_nn (keeps_kept s) k (fun s' t' k' => ⟨k',.str _ _⟩) hz) rfl
      · exact tail_on (SBG.sliceItem_ns (keeps_kept s) k (fun s' t' k' => ⟨k',.str _ _⟩) hz) rfl
      · exact tail_on (SBG.sliceItem_sn (keeps_kept s) k (fun s' t' k' => ⟨k',.str _ _⟩) hz) rfl
      · exact tail_on (SBG.sliceItem_ss (keeps_kept s) k (fun s' t' k' => ⟨k',.str _ _⟩) hz) rfl
    · cases hf
  · split at hf
    · rename_i hz
      cases hf
      (refine ob_EEAAA r₁.list_inv fun q vs z7q e l r => ?_; obtain rfl := z7q)
      have C₄ := C₃.up (Up.push s₃.heap { cls := .type "slice",data := .fields #[la,lb,.none] })
      refine tail_any (Heap.IsList.typeIs (s := { s₃ with heap := s₃.heap.push { cls := .type "slice",data := .fields #[la,lb,.none] } }) (l.push _)) list_getitem_lookup
        (wpAny_getItem_list_slice (l.push _) (Heap.IsSliceOf.new ..) pa pb .none (by simp) ?_ (by rw [List.size_toArray,r.length]; exact hz)) rfl
      refine Got.trans (keeps_trans k (keeps_push s₃ { cls := .type "slice",data := .fields #[la,lb,.none] } s₃.toks)) ?_
      have hp : slicePick vs.toArray a b none = (pick vs a b).toArray := by
        unfold slicePick pick
        simp
      rw [hp]
      refine got_list (s := { s₃ with heap := s₃.heap.push { cls := .type "slice",data := .fields #[la,lb,.none] } }) C₄.bel ?_
      have hl : vs.length = _ := r.length
      unfold pick
      rw [hl]
      exact pick_rep (r.up (Up.push _ _)) _
    · cases hf
  · split at hf
    · rename_i hz
      cases hf
      (refine ob_E r₁.bytes_inv fun t z8q => ?_; obtain rfl := z8q)
      exact tail_on ⟨"bytes",_,FB.slot_bytes_getitem.lookup,typeIs_bytes _ _ _,getItem_meets (typeIs_bytes _ _ _) (by decide) FB.slot_bytes_getitem FB.entry_bytes_getitem (FB.args_bytes_getitem_2 _ _) (KBc.meets_slice2 _ t _ pa pb)
        ⟨Heap.IsSliceOf.new _ _ _ _,Nat.le_trans (KBc.size_picked_le _ a b) hz,fun t' k' => ⟨keeps_trans k (keeps_push s₃ _ _),.bytes _ _⟩⟩⟩ rfl
    · cases hf
  · cases hf
noncomputable def DEs (prog : Program) (K : Params → Frag) (n : Nat) (T : TE) (es : List Expr) (f : Sto → Option (List D)) : Prop :=
  ∀ (w : World) (A : Around) (E : Value → Shared → Prop) (s : Shared) (env : Env) (Ex : Addr → Prop) (σ : Sto) (ds : List D) (pos : Pos),Cx (K w.params) n T A env Ex s.heap σ → f σ = some ds →
    wpAny (model prog w) A (spliced (backTo pos (starEach es env))) (fun vs s' => PySem.Keeps s s' ∧ RepAll s'.heap Ex vs ds) E s
theorem DEs.nil : DEs prog K n T [] (fun _ => some []) := fun w A E s env Ex σ ds pos C hf => by
  cases hf
  exact spliced_nil ⟨keeps_refl s,.nil⟩
theorem DEs.cons {e : Expr} {es : List Expr} {f : Sto → Option D} {g : Sto → Option (List D)} (he : DE prog K n T e f) (hs : DEs prog K n T es g) (hp : ∀ env,starEach (e :: es) env = (false,eval e env) :: starEach es env) :
    DEs prog K n T (e :: es) (fun σ => (f σ).bind fun d => (g σ).map (d :: ·)) := fun w A E s env Ex σ ds pos C hf => by
  refine ob_EA (Option.bind_eq_some_iff.mp hf) fun d hd hf => ?_
  (refine ob_EA (Option.map_eq_some_iff.mp hf) fun r hr z9q => ?_; obtain rfl := z9q)
  refine spliced_more (he.use C hd fun v s₁ k₁ C₁ r₁ => ?_) (hp env)
  exact wpAny_mono (hs w A E s₁ env Ex σ r pos C₁ hr) (fun vs s₂ g => ⟨keeps_trans k₁ g.1,.cons (r₁.up (keeps_up g.1)) g.2⟩) fun _ _ e => e
theorem DE.lst {es : List Expr} {pos : Pos} {f : Sto → Option (List D)} (h : DEs prog K n T es f) : DE prog K n T (.List es pos) (fun σ => (f σ).bind fun ds => if ds.length ≤ sizeLine then some (.list ds) else none) := fun w A E s env Ex σ d C hf => by
  refine ob_EA (Option.bind_eq_some_iff.mp hf) fun ds hd hf => ?_
  split at hf
  · rename_i hz
    cases hf
    refine List_ (wpAny_mono (h w A E s env Ex σ ds pos C hd) (fun vs s₁ g => ?_) fun _ _ e => e)
    have hsz : sizeOk (.seq vs.toArray) := by show vs.toArray.size ≤ sizeLine; rw [List.size_toArray,g.2.length]; exact hz
    exact wpAny_newObj_type (Got.trans g.1 (got_list (C.up (keeps_up g.1)).bel g.2)) hsz
  · cases hf
end
end
section
variable {prog : Program}
section
variable {K : Params → Frag} {n : Nat} {T : TE} {w : World} {A : Around} {E : Value → Shared → Prop}
noncomputable def IsGlob (K : Params → Frag) (T : TE) (x : Str) (v : Value) : Prop := T.sc.names.lookup x = some .globalImplicit ∧ (x == ("__debug__" : Str)) = false ∧ ∀ P,nsIn (K P) mainGlobals x = some (some v)
noncomputable def IsBuilt (K : Params → Frag) (T : TE) (x : Str) (v : Value) : Prop := T.sc.names.lookup x = some .globalImplicit ∧ (x == ("__debug__" : Str)) = false ∧ x ≠ "__name__" ∧ (∀ P,nsIn (K P) mainGlobals x = some none) ∧ bootBuiltins x = some v
theorem Cx.kindOf {K : Frag} {n : Nat} {T : TE} {A : Around} {env : Env} {Ex : Addr → Prop} {h : Heap} {σ : Sto} (C : Cx K n T A env Ex h σ) (x : Str) : env.kindOf x = T.sc.names.lookup x := by
  show env.scope.names.lookup x = _
  rw [C.sc]
theorem glob_use {s : Shared} {env : Env} {Ex : Addr → Prop} {σ : Sto} {x : Str} {v : Value} {pos : Pos} {Q : Value → Shared → Prop} (C : Cx (K w.params) n T A env Ex s.heap σ) (g : IsGlob K T x v) (k : Q v s) : wpAny (model prog w) A (eval (.Name x pos) env) Q E s := by
  refine ob_EEEEEA C.tops fun p l m mg mb T' X => ?_
  exact Calls.Name_function_global C.kind ((C.kindOf x).trans g.1) (Calls.loadGlobal_global (env := env) (by rw [C.gl]; exact T'.g) (mg_of X T'.g (g.2.2 _)) k) g.2.1
theorem built_use {s : Shared} {env : Env} {Ex : Addr → Prop} {σ : Sto} {x : Str} {v : Value} {pos : Pos} {Q : Value → Shared → Prop} (C : Cx (K w.params) n T A env Ex s.heap σ) (g : IsBuilt K T x v) (k : Q v s) : wpAny (model prog w) A (eval (.Name x pos) env) Q E s := by
  refine ob_EEEEEA C.tops fun p l m mg mb T' X => ?_
  exact Calls.Name_function_global C.kind ((C.kindOf x).trans g.1) (Calls.loadGlobal_builtin (env := env) (by rw [C.gl]; exact T'.g) (mg_none_of X T'.g (g.2.2.2.1 _)) (by rw [C.bi]; exact T'.b) ((T'.builtins x g.2.2.1).trans g.2.2.2.2) k) g.2.1
noncomputable def BOk (prog : Program) (f : Value) (F : List D → Option D) : Prop :=
  ∀ (w : World) (A : Around) (E : Value → Shared → Prop) (s : Shared) (Ex : Addr → Prop) (vs : List Value) (ds : List D) (d : D),AOk 1 A → Bel s.heap Ex → RepAll s.heap Ex vs ds → F ds = some d → wpAny (model prog w) A (call f vs) (Got s Ex d) E s
theorem call_glob {s : Shared} {env : Env} {Ex : Addr → Prop} {σ : Sto} {x : Str} {np pos : Pos} {e : Expr} {es : List Expr} {Q : Value → Shared → Prop}
    (h : wpAny (model prog w) A (eval (.Name x np) env) (fun f s₁ => wpAny (model prog w) A (callWith pos f [] (backTo pos (starEach (e :: es) env)) []) Q E s₁) E s) :
    wpAny (model prog w) A (eval (.Call (.Name x np) (e :: es) [] pos) env) Q E s := by
  show wpAny _ A (do callWith pos (← eval (.Name x np) env) [] (backTo pos (starEach (e :: es) env)) (backToKw pos (keywordEach [] env))) Q E s
  exact wpAny_bind h
theorem any_spliced {s : Shared} {env : Env} {e : Expr} {es : List Expr} {pos : Pos} {f : Value} {Q : Args → Shared → Prop} (hp : starEach (e :: es) env = (false,eval e env) :: starEach es env)
    (h : wpAny (model prog w) A (spliced (backTo pos (starEach (e :: es) env))) (fun vs s' => Q ⟨vs, []⟩ s') E s) : wpAny (model prog w) A (evalArgs f true (backTo pos (starEach (e :: es) env)) []) Q E s := by
  rw [hp] at h ⊢
  exact Calls.evalArgs_plain h
theorem DE.callB {x : Str} {np pos : Pos} {e : Expr} {es : List Expr} {id : String} {f : Sto → Option (List D)} {F : List D → Option D} (hx : IsBuilt K T x (.builtin id)) (hb : BOk prog (.builtin id) F) (hs : DEs prog K n T (e :: es) f)
    (hp : ∀ env,starEach (e :: es) env = (false,eval e env) :: starEach es env) (ha : ∀ env pos,(backTo pos (starEach (e :: es) env)).any (·.1) = false) (hn : 1 ≤ n := by decide) :
    DE prog K n T (.Call (.Name x np) (e :: es) [] pos) (fun σ => (f σ).bind F) := fun w A E s env Ex σ d C hf => by
  refine ob_EA (Option.bind_eq_some_iff.mp hf) fun ds hd hf => ?_
  refine call_glob (σ := σ) (Ex := Ex) (built_use C hx (callWith_builtin (ha env pos) (any_spliced (hp env) (wpAny_mono (hs w A E s env Ex σ ds pos C hd) (fun vs s₁ g => ?_) fun _ _ e => e))))
  rw [List.nil_append]
  exact wpAny_mono (hb w A E s₁ Ex vs ds d (C.a.one hn) (C.up (keeps_up g.1)).bel g.2 hf) (fun v s' g' => Got.trans g.1 g') fun _ _ e => e
theorem DE.callT {x : Str} {np pos : Pos} {e : Expr} {es : List Expr} {id : String} {f : Sto → Option (List D)} {F : List D → Option D} (hx : IsBuilt K T x (.type id)) (hb : BOk prog (.type id) F) (hs : DEs prog K n T (e :: es) f)
    (hp : ∀ env,starEach (e :: es) env = (false,eval e env) :: starEach es env) (ha : ∀ env pos,(backTo pos (starEach (e :: es) env)).any (·.1) = false) (hn : 1 ≤ n := by decide) :
    DE prog K n T (.Call (.Name x np) (e :: es) [] pos) (fun σ => (f σ).bind F) := fun w A E s env Ex σ d C hf => by
  refine ob_EA (Option.bind_eq_some_iff.mp hf) fun ds hd hf => ?_
  refine call_glob (σ := σ) (Ex := Ex) (built_use C hx (PyProof.Rows.callWith_type (ha env pos) (any_spliced (hp env) (wpAny_mono (hs w A E s env Ex σ ds pos C hd) (fun vs s₁ g => ?_) fun _ _ e => e))))
  rw [List.nil_append]
  exact wpAny_mono (hb w A E s₁ Ex vs ds d (C.a.one hn) (C.up (keeps_up g.1)).bel g.2 hf) (fun v s' g' => Got.trans g.1 g') fun _ _ e => e
noncomputable def FnOk (prog : Program) (K : Params → Frag) (n : Nat) (fa : Addr) (F : List D → Option D) : Prop :=
  ∀ (w : World) (A : Around) (s : Shared) (Ex : Addr → Prop) (vs : List Value) (ds : List D) (d : D) (R : Result → Shared → Prop),AOk n A → Tops (K w.params) s.heap → Bel s.heap Ex → RepAll s.heap Ex vs ds → F ds = some d →
    (∀ v s',Got s Ex d v s' → R (.ok (.ret v)) s') → codeAny (model prog w) A (.call (.ref fa) ⟨vs, []⟩) R s
theorem DE.callF {x : Str} {np pos : Pos} {e : Expr} {es : List Expr} {fa : Addr} {f : Sto → Option (List D)} {F : List D → Option D} (hx : IsGlob K T x (.ref fa)) (ho : ∀ P,∃ o fd,(K P).lookup fa = some o ∧ o.data = .func fd) (hb : FnOk prog K n fa F) (hs : DEs prog K n T (e :: es) f)
    (hp : ∀ env,starEach (e :: es) env = (false,eval e env) :: starEach es env) : DE prog K n T (.Call (.Name x np) (e :: es) [] pos) (fun σ => (f σ).bind F) := fun w A E s env Ex σ d C hf => by
  refine ob_EA (Option.bind_eq_some_iff.mp hf) fun ds hd hf => ?_
  refine ob_EEA (ho w.params) fun o fd h1 h2 => ?_
  refine call_glob (σ := σ) (Ex := Ex) (glob_use C hx (callWith_function_kw (o := o) (fd := fd) (any_spliced (hp env) (wpAny_mono (hs w A E s env Ex σ ds pos C hd) (fun vs s₁ g => ?_) fun _ _ e => e))))
  have C₁ := C.up (keeps_up g.1)
  refine ⟨⟨?_,h2⟩,?_⟩
  · refine ob_EEEEEA C₁.tops fun p l m mg mb T' X => ?_
    exact X _ _ h1
  rw [List.nil_append]
  exact wpAny_call (hb w A s₁ Ex vs ds d _ C.a C₁.tops C₁.bel g.2 hf fun v s' g' => Got.trans g.1 g')
noncomputable def fInt : List D → Option D
  | [.int i] => some (.int i)
  | _ => none
theorem repAll_one {h : Heap} {Ex : Addr → Prop} {vs : List Value} {d : D} (r : RepAll h Ex vs [d]) : ∃ v,vs = [v] ∧ Rep h Ex v d := by
  cases r with
  | cons a b => cases b; exact ⟨_,rfl,a⟩
theorem repAll_two {h : Heap} {Ex : Addr → Prop} {vs : List Value} {d e : D} (r : RepAll h Ex vs [d,e]) : ∃ v u,vs = [v,u] ∧ Rep h Ex v d ∧ Rep h Ex u e := by
  cases r with
  | cons a b => (refine ob_EA (repAll_one b) fun u z1q c => ?_; obtain rfl := z1q); exact ⟨_,_,rfl,a,c⟩
theorem b_int : BOk prog (.type "int") fInt := by
  intro w A E s Ex vs ds d ha hx r hf
  unfold fInt at hf
  split at hf
  · cases hf
    (refine ob_EA (repAll_one r) fun v z2q r₁ => ?_; obtain rfl := z2q)
    (refine ob_E r₁.int_inv fun t z3q => ?_; obtain rfl := z3q)
    exact call_int_int ⟨keeps_refl s,.int _ _⟩
  · cases hf
noncomputable def fLen : List D → Option D
  | [.str x] => if x.length ≤ sizeLine then some (.int x.length) else none
  | [.list ds] => if ds.length ≤ sizeLine then some (.int ds.length) else none
  | _ => none
theorem b_len : BOk prog (.builtin "len") fLen := by
  intro w A E s Ex vs ds d ha hx r hf
  unfold fLen at hf
  split at hf
  · split at hf
    · rename_i hz
      cases hf
      (refine ob_EA (repAll_one r) fun v z4q r₁ => ?_; obtain rfl := z4q)
      (refine ob_E r₁.str_inv fun t z5q => ?_; obtain rfl := z5q)
      rw [sizeLine_eq] at hz
      exact P.len_str (by lia) (got_toks (.int _ _))
    · cases hf
  · split at hf
    · rename_i hz
      cases hf
      (refine ob_EA (repAll_one r) fun v z6q r₁ => ?_; obtain rfl := z6q)
      (refine ob_EEAAA r₁.list_inv fun a vs z7q e l q => ?_; obtain rfl := z7q)
      rw [sizeLine_eq] at hz
      have hl := q.length
      refine Calls.call_len_list l (by rw [List.size_toArray,hl]; lia) ?_
      rw [List.size_toArray,hl]
      exact got_toks (.int _ _)
    · cases hf
  · cases hf
noncomputable def fAbs : List D → Option D
  | [.int i] => some (.int (if i < 0 then -i else i))
  | _ => none
theorem b_abs : BOk prog (.builtin "abs") fAbs := by
  intro w A E s Ex vs ds d ha hx r hf
  unfold fAbs at hf
  split at hf
  · cases hf
    (refine ob_EA (repAll_one r) fun v z8q r₁ => ?_; obtain rfl := z8q)
    (refine ob_E r₁.int_inv fun t z9q => ?_; obtain rfl := z9q)
    exact call_abs_int fun u tk => got_toks (.int _ _)
  · cases hf
noncomputable def fChr : List D → Option D
  | [.int i] => if 0 ≤ i ∧ i ≤ 1114111 then some (.str { cps := #[i.toNat] }) else none
  | _ => none
theorem b_chr : BOk prog (.builtin "chr") fChr := by
  intro w A E s Ex vs ds d ha hx r hf
  unfold fChr at hf
  split at hf
  · split at hf
    · rename_i hz
      cases hf
      (refine ob_EA (repAll_one r) fun v z10q r₁ => ?_; obtain rfl := z10q)
      (refine ob_E r₁.int_inv fun t z11q => ?_; obtain rfl := z11q)
      refine P.chr_of_int ?_ (got_toks (.str _ _))
      rw [Bool.or_eq_false_iff,decide_eq_false_iff_not,decide_eq_false_iff_not]
      simp [*]
    · cases hf
  · cases hf
noncomputable def fMax : List D → Option D
  | [.int a,.int b] => some (.int (if b > a then b else a))
  | _ => none
noncomputable def fMin : List D → Option D
  | [.int a,.int b] => some (.int (if b < a then b else a))
  | _ => none
theorem b_max : BOk prog (.builtin "max") fMax := by
  intro w A E s Ex vs ds d ha hx r hf
  unfold fMax at hf
  split at hf
  · rename_i a b
    cases hf
    (refine ob_EEAA (repAll_two r) fun v u z12q r₁ r₂ => ?_; obtain rfl := z12q)
    (refine ob_E r₁.int_inv fun t z13q => ?_; obtain rfl := z13q)
    (refine ob_E r₂.int_inv fun t' z14q => ?_; obtain rfl := z14q)
    refine max_two_ints ha.hd fun h' tk hk => ?_
    by_cases c : b > a
    · rw [if_pos c,if_pos c]; exact ⟨⟨h',tk,rfl,hk⟩,.int _ _⟩
    · rw [if_neg c,if_neg c]; exact ⟨⟨h',tk,rfl,hk⟩,.int _ _⟩
  · cases hf
theorem b_min : BOk prog (.builtin "min") fMin := by
  intro w A E s Ex vs ds d ha hx r hf
  unfold fMin at hf
  split at hf
  · rename_i a b
    cases hf
    (refine ob_EEAA (repAll_two r) fun v u z15q r₁ r₂ => ?_; obtain rfl := z15q)
    (refine ob_E r₁.int_inv fun t z16q => ?_; obtain rfl := z16q)
    (refine ob_E r₂.int_inv fun t' z17q => ?_; obtain rfl := z17q)
    refine min_two_ints ha.hd fun h' tk hk => ?_
    by_cases c : b < a
    · rw [if_pos c,if_pos c]; exact ⟨⟨h',tk,rfl,hk⟩,.int _ _⟩
    · rw [if_neg c,if_neg c]; exact ⟨⟨h',tk,rfl,hk⟩,.int _ _⟩
  · cases hf
noncomputable def fDivmod : List D → Option D
  | [.int a,.int b] => if b ≠ 0 ∧ small b = true then some (.tup [.int (a.fdiv b),.int (a.fmod b)]) else none
  | _ => none
theorem b_divmod : BOk prog (.builtin "divmod") fDivmod := by
  intro w A E s Ex vs ds d ha hx r hf
  unfold fDivmod at hf
  split at hf
  · split at hf
    · rename_i a b hz
      cases hf
      (refine ob_EEAA (repAll_two r) fun v u z18q r₁ r₂ => ?_; obtain rfl := z18q)
      (refine ob_E r₁.int_inv fun t z19q => ?_; obtain rfl := z19q)
      (refine ob_E r₂.int_inv fun t' z20q => ?_; obtain rfl := z20q)
      refine divmod_int hz.1 ⟨keeps_push s _ _,.tup (vs := [_,_]) (fun e => ?_) ⟨_,Heap.get?_push_size _ rfl,rfl,_,rfl⟩ (.cons (.int _ _) (.cons (.int _ _) .nil))⟩ (.inl (div_ok hz.2))
      exact absurd (hx.lt e) (Nat.lt_irrefl _)
    · cases hf
  · cases hf
noncomputable def intsOf : List D → Option (List Int)
  | [] => some []
  | .int i :: r => (intsOf r).map (i :: ·)
  | _ :: _ => none
theorem intsAre_of {h : Heap} {Ex : Addr → Prop} : ∀ {vs : List Value} {ds : List D} {ns : List Int},RepAll h Ex vs ds → intsOf ds = some ns → IntsAre vs ns
  | _,_,_,.nil,e => by cases e; exact .nil
  | _,_,ns,.cons (d := d) a r,e => by
    cases d with
    | int i =>
      (refine ob_EA (Option.map_eq_some_iff.mp e) fun ms hm z21q => ?_; obtain rfl := z21q)
      (refine ob_E a.int_inv fun t z22q => ?_; obtain rfl := z22q)
      exact .cons _ _ (intsAre_of r hm)
    | _ => cases e
noncomputable def fSum : List D → Option D
  | [.list ds] => (intsOf ds).map fun ns => .int ns.sum
  | _ => none
theorem preSum_list (ns : List Int) : ∀ k,preSum (fun i => ns.getD i 0) k = (ns.take k).sum
  | 0 => by simp [preSum]
  | k + 1 => by
    have e : ∀ (l : List Int) (j : Nat),(l.take (j + 1)).sum = (l.take j).sum + l.getD j 0 := by
      intro l
      induction l with
      | nil => intro j; simp
      | cons x l ih =>
        intro j
        cases j with
        | zero => simp
        | succ j =>
          have := ih j
          simp only [List.take_succ_cons,List.sum_cons,List.getD_cons_succ] at *
          simp +arith [*]
    rw [e, ← preSum_list ns k]
    rfl
theorem b_sum : BOk prog (.builtin "sum") fSum := by
  intro w A E s Ex vs ds d ha hx r hf
  unfold fSum at hf
  split at hf
  · (refine ob_EA (Option.map_eq_some_iff.mp hf) fun ns hn z23q => ?_; obtain rfl := z23q)
    (refine ob_EA (repAll_one r) fun v z24q r₁ => ?_; obtain rfl := z24q)
    (refine ob_EEAAA r₁.list_inv fun l ws z25q e hl q => ?_; obtain rfl := z25q)
    have hi := intsAre_of q hn
    refine ob_EA (id hl) fun ol hol _ => ?_
    have hne : l ≠ s.heap.objs.size := Nat.ne_of_lt (Heap.lt_size hol)
    refine call_sum_walkG (wpAny_pyIter_list hl ⟨_,_,_,_,_,_,fun i => ns.getD i 0,rfl,Walks.list (A := A.in1) ha.hd _ l hne ws.toArray,⟨⟨_,Heap.get?_push_size _ rfl,rfl,rfl⟩,hl.at fun o e => Heap.get?_push_of_some _ e⟩,?_,?_,?_⟩)
    · intro b hb
      rw [Heap.size_push]
      rcases List.mem_cons.mp hb with rfl | hb
      · exact Nat.lt_succ_self _
      · rw [List.mem_singleton.mp hb]; exact Nat.lt_succ_of_lt (Heap.lt_size hol)
    · intro i v hv
      have hv' : ws[i]? = some v := by simpa using hv
      have hlt : i < ns.length := by rw [← hi.length]; exact (List.getElem?_eq_some_iff.mp hv').1
      refine ob_E (hi.get i ns[i] (List.getElem?_eq_getElem hlt)) fun t ht => ?_
      rw [hv'] at ht
      refine ⟨t,?_⟩
      rw [Option.some.inj ht]
      simp [hlt]
    · intro h' tk t' hk
      rw [preSum_list,List.size_toArray,hi.length,List.take_length]
      refine ⟨⟨h',tk,rfl,fun b o e => hk b o (fun hm => ?_) (Heap.get?_push_of_some _ e)⟩,.int _ _⟩
      rw [List.mem_singleton.mp hm] at e
      exact absurd (Heap.lt_size e) (Nat.lt_irrefl _)
  · cases hf
end
end
section
variable {prog : Program}
noncomputable def hasStr (x y : Str) : Bool := !(Builtin.Str.occurrences x y 0 x.length 1).isEmpty
noncomputable def inD : D → D → Option D
  | .str y,.str x => some (.bool (hasStr x y))
  | _,_ => none
theorem op_in : OpOk prog (compareOp .In) inD := by
  intro K w A E s Ex a b x y d ha ht hx r₁ r₂ hf
  unfold inD at hf
  split at hf
  · cases hf
    (refine ob_E r₁.str_inv fun t z1q => ?_; obtain rfl := z1q)
    (refine ob_E r₂.str_inv fun u z2q => ?_; obtain rfl := z2q)
    exact in_str ⟨keeps_refl s,.bool _⟩
  · cases hf
noncomputable def notInD (x y : D) : Option D := (inD x y).bind fun d => match d with | .bool b => some (.bool (!b)) | _ => none
theorem op_notIn : OpOk prog (compareOp .NotIn) notInD := by
  intro K w A E s Ex a b x y d ha ht hx r₁ r₂ hf
  unfold notInD inD at hf
  split at hf
  · cases hf
    (refine ob_E r₁.str_inv fun t z3q => ?_; obtain rfl := z3q)
    (refine ob_E r₂.str_inv fun u z4q => ?_; obtain rfl := z4q)
    exact notIn_str ⟨keeps_refl s,.bool _⟩
  · cases hf
section
variable {K : Params → Frag} {n : Nat} {T : TE} {w : World} {A : Around} {E : Value → Shared → Prop}
noncomputable def strsOf : List D → Option (List Str)
  | [] => some []
  | .str x :: r => (strsOf r).map (x :: ·)
  | _ :: _ => none
theorem strs_of {h : Heap} {Ex : Addr → Prop} : ∀ {vs : List Value} {ds : List D} {xs : List Str},RepAll h Ex vs ds → strsOf ds = some xs → ∃ l : List (Str × Tok),vs = strValues l ∧ l.map (·.1) = xs
  | _,_,_,.nil,e => by cases e; exact ⟨[],rfl,rfl⟩
  | _,_,xs,.cons (d := d) a r,e => by
    cases d with
    | str x =>
      (refine ob_EA (Option.map_eq_some_iff.mp e) fun ys hy z5q => ?_; obtain rfl := z5q)
      (refine ob_E a.str_inv fun t z6q => ?_; obtain rfl := z6q)
      (refine ob_EA (strs_of r hy) fun l z7q z8q => ?_; obtain rfl := z7q; obtain rfl := z8q)
      exact ⟨(x,t) :: l,rfl,rfl⟩
    | _ => cases e
noncomputable def joinD : D → D → Option D
  | .str x,.list ds => (strsOf ds).bind fun xs => if JoinOk x xs then some (.str (Txt.join x xs)) else none
  | _,_ => none
theorem DE.join {o e : Expr} {apos pos : Pos} {f g : Sto → Option D} (ho : DE prog K n T o f) (he : DE prog K n T e g) (hbase : ∀ env,attributeBase o "join" env (eval o env) = eval o env) (hs : ∀ env,starEach [e] env = [(false,eval e env)]) (hline : (apos.endLine == pos.line) = true) :
    DE prog K n T (.Call (.Attribute o "join" apos) [e] [] pos) (fun σ => (f σ).bind fun x => (g σ).bind fun y => joinD x y) := fun w A E s env Ex σ d C hf => by
  refine ob_EA (Option.bind_eq_some_iff.mp hf) fun x hx hf => ?_
  refine ob_EA (Option.bind_eq_some_iff.mp hf) fun y hy hf => ?_
  unfold joinD at hf
  split at hf
  · rename_i x ds
    refine ob_EA (Option.bind_eq_some_iff.mp hf) fun xs hxs hf => ?_
    split at hf
    · rename_i hok
      cases hf
      refine Call_method1 (hbase env) (hs env) hline (ho.use C hx fun v s₁ k₁ C₁ r₁ => ?_)
      (refine ob_E r₁.str_inv fun t z9q => ?_; obtain rfl := z9q)
      refine ⟨"str",_,F.plainAttrs_str,F.slot_str_join,F.type_str_join,typeIs_str _ _ _,(fun _ e => nomatch e),?_⟩
      refine Calls.callWith_builtin rfl (Calls.evalArgs_plain (Calls.spliced_cons (he.use C₁ hy fun u s₂ k₂ C₂ r₂ => Calls.spliced_nil ?_)))
      (refine ob_EEAAA r₂.list_inv fun a vs z10q e₁ l q => ?_; obtain rfl := z10q)
      (refine ob_EA (strs_of q hxs) fun ps z11q hp => ?_; obtain rfl := z11q)
      exact SC.join l hp hok fun t' k => ⟨keeps_trans k₁ (keeps_trans k₂ (keeps_toks _ _)),.str _ _⟩
    · cases hf
  · cases hf
theorem DE.lower {o : Expr} {apos pos : Pos} {f : Sto → Option D} (ho : DE prog K n T o f) (hbase : ∀ env,attributeBase o "lower" env (eval o env) = eval o env) (hline : (apos.endLine == pos.line) = true) :
    DE prog K n T (.Call (.Attribute o "lower" apos) [] [] pos) (fun σ => (f σ).bind fun x => match x with | .str x => if x.length ≤ 5592405 then some (.str (Txt.lower x)) else none | _ => none) := fun w A E s env Ex σ d C hf => by
  refine ob_EA (Option.bind_eq_some_iff.mp hf) fun x hx hf => ?_
  split at hf
  · split at hf
    · rename_i hz
      cases hf
      refine Call_method0 (hbase env) hline (ho.use C hx fun v s₁ k₁ C₁ r₁ => ?_)
      (refine ob_E r₁.str_inv fun t z12q => ?_; obtain rfl := z12q)
      exact SBL.lower hz fun _ => ⟨keeps_trans k₁ (keeps_toks _ _),.str _ _⟩
    · cases hf
  · cases hf
noncomputable def TabIs (K : Params → Frag) (a : Addr) (tab : List (Str × Int)) : Prop :=
  (a == sysModules) = false ∧ ∀ P,∃ es : List DictEntry,∃ n,(K P).lookup a = some ⟨.type "dict",none,.dict es.toArray n, #[]⟩ ∧ KeysLit P es ∧
    es.map (fun e => (match e.key with | .str x _ => some x | _ => none,match e.val with | .int i _ => some i | _ => none)) = tab.map fun p => (some p.1,some p.2)
noncomputable def tabAt : List (Str × Int) → Str → Option Int
  | [],_ => none
  | p :: r,x => if p.1 = x then some p.2 else tabAt r x
theorem find_tab {x : Str} : ∀ {es : List DictEntry} {tab : List (Str × Int)},es.map (fun e => (match e.key with | .str x _ => some x | _ => none,match e.val with | .int i _ => some i | _ => none)) = tab.map (fun p => (some p.1,some p.2)) →
    (∃ i t,tabAt tab x = some i ∧ findBy Value.isStrOf es.toArray x = some (.int i t)) ∨ (tabAt tab x = none ∧ findBy Value.isStrOf es.toArray x = none)
  | [], [],_ => .inr ⟨rfl,rfl⟩
  | [],_ :: _,e => by cases e
  | _ :: _, [],e => by cases e
  | e :: es,p :: tab,h => by
    rw [List.map_cons,List.map_cons,List.cons_eq_cons] at h
    (refine ob_A h fun h1 h2 => ?_; try clear h)
    have ih := find_tab (x := x) h2
    obtain ⟨hs,k,v⟩ := e
    obtain ⟨y,i⟩ := p
    rw [Prod.mk.injEq] at h1
    (refine ob_A h1 fun hk hv => ?_; try clear h1)
    cases k with
    | str z t =>
      obtain rfl : z = y := by simpa using hk
      cases v with
      | int j u =>
        obtain rfl : j = i := by simpa using hv
        by_cases c : z = x
        · subst c
          refine .inl ⟨j,u,by simp [tabAt],?_⟩
          unfold findBy
          rw [List.find?_toArray]
          simp [Value.isStrOf]
        · have hn : Value.isStrOf x (.str z t) = false := by
            simp [Value.isStrOf,c]
          have hf : findBy Value.isStrOf ((⟨hs,.str z t,.int j u⟩ : DictEntry) :: es).toArray x = findBy Value.isStrOf es.toArray x := by
            unfold findBy
            rw [List.find?_toArray,List.find?_toArray,List.find?_cons,hn]
          have ht : tabAt ((z,j) :: tab) x = tabAt tab x := by simp [tabAt,c]
          rw [hf,ht]
          exact ih
      | _ => cases hv
    | _ => cases hk
theorem tab_map {s : Shared} {a : Addr} {tab : List (Str × Int)} (ht : Tops (K w.params) s.heap) (h : TabIs K a tab) :
    ∃ f,s.heap.MapOf (strKind prog w) a f ∧ ∀ x,(∃ i t,tabAt tab x = some i ∧ f x = some (.int i t)) ∨ (tabAt tab x = none ∧ f x = none) := by
  (refine ob_EEEEEA ht fun p l m mg mb T' X => ?_; try clear ht)
  (refine ob_A h fun _ hP => ?_; try clear h)
  refine ob_EEAA (hP w.params) fun es k h1 h2 h3 => ?_
  exact ⟨_,mapOf_K (prog := prog) X h1 (by simpa using h2),fun x => find_tab h3⟩
noncomputable def keyD (tab : List (Str × Int)) : D → Option Bool
  | .str x => some (tabAt tab x).isSome
  | _ => none
theorem DT.notInTab {l : Expr} {x : Str} {np pos : Pos} {a : Addr} {tab : List (Str × Int)} {f : Sto → Option D} (hl : DE prog K n T l f) (hx : IsGlob K T x (.ref a)) (ht : TabIs K a tab) (hb : behindInMarks .NotIn (.Name x np) = false) :
    DT prog K n T (.Compare l [.NotIn] [.Name x np] pos) (fun σ => ((f σ).bind (keyD tab)).map (!·)) := fun w A E s env Ex σ b C hf => by
  (refine ob_EA (Option.map_eq_some_iff.mp hf) fun c hc z13q => ?_; obtain rfl := z13q)
  refine ob_EA (Option.bind_eq_some_iff.mp hc) fun d hd hc => ?_
  refine wpAny_isTrue_Compare1 (hl.use C hd fun v s₁ k₁ C₁ r₁ => glob_use C₁ hx ?_) hb
  unfold keyD at hc
  split at hc
  · cases hc
    (refine ob_E r₁.str_inv fun t z14q => ?_; obtain rfl := z14q)
    refine ob_EA (tab_map (prog := prog) C₁.tops ht) fun g hm hg => ?_
    refine wpAny_notIn_of (strKind_is prog w _ t) ht.1 hm (wpAny_truthy_bool ⟨?_,keeps_trans k₁ (keeps_toks _ _)⟩)
    rcases hg _ with ⟨i,u,h1,h2⟩ | ⟨h1,h2⟩ <;> rw [h1,h2] <;> rfl
  · cases hc
noncomputable def getD2 (tab : List (Str × Int)) : D → D → Option D
  | .str x,d => some (match tabAt tab x with | some i => .int i | none => d)
  | _,_ => none
theorem DE.getTab {x : Str} {np apos pos : Pos} {e₁ e₂ : Expr} {a : Addr} {tab : List (Str × Int)} {f g : Sto → Option D} (hx : IsGlob K T x (.ref a)) (ht : TabIs K a tab) (h₁ : DE prog K n T e₁ f) (h₂ : DE prog K n T e₂ g)
    (hs : ∀ env,starEach [e₁,e₂] env = [(false,eval e₁ env),(false,eval e₂ env)]) (hline : (apos.endLine == pos.line) = true) :
    DE prog K n T (.Call (.Attribute (.Name x np) "get" apos) [e₁,e₂] [] pos) (fun σ => (f σ).bind fun p => (g σ).bind fun q => getD2 tab p q) := fun w A E s env Ex σ d C hf => by
  refine ob_EA (Option.bind_eq_some_iff.mp hf) fun p hp hf => ?_
  refine ob_EA (Option.bind_eq_some_iff.mp hf) fun q hq hf => ?_
  unfold getD2 at hf
  split at hf
  · cases hf
    refine Call_method2 rfl (hs env) hline (glob_use C hx ?_)
    refine ob_EA (tab_map (prog := prog) C.tops ht) fun g' hm hg => ?_
    refine ⟨"dict",_,F.plainAttrs_dict,F.slot_dict_get,F.type_dict_get,hm.typeIs,fun b e => hm.noDict b e,?_⟩
    refine method2_meetsIn F.slot_dict_get F.entry_dict_get (h₁.use C hp fun v s₁ k₁ C₁ r₁ => h₂.use C₁ hq fun u s₂ k₂ C₂ r₂ => ?_)
    (refine ob_E r₁.str_inv fun t z15q => ?_; obtain rfl := z15q)
    refine ob_EA (tab_map (prog := prog) C₂.tops ht) fun g' hm hg => ?_
    refine ⟨hm.typeIs,F.args_dict_get_3 _ _ _,_,meets_dict_get_default (strKind prog w) _ (strKind_is prog w _ t) ht.1 u,⟨g',hm,?_⟩⟩
    have kk := keeps_trans k₁ (keeps_trans k₂ (keeps_toks s₂ (s₂.toks + 1)))
    rcases hg _ with ⟨i,u',h1,h2⟩ | ⟨h1,h2⟩ <;> rw [h1,h2]
    · exact ⟨kk,.int _ _⟩
    · exact ⟨kk,r₂⟩
  · cases hf
end
end
section
variable {prog : Program}
structure Fm (T : TE) (k : Nat) (env : Env) (M : List Addr) (h : Heap) : Prop where
  sc : env.scope = T.sc
  kd : T.sc.kind = .function
  nd : T.vars.Nodup
  lm : env.locals ∈ M
  all : ∀ b ∈ M,∃ o,h.get? b = some o
  ns : ∃ m,h.Ns env.locals m
  own : ∀ (i : Nat) (x : Str),i < k → T.vars[i]? = some x → T.sc.names.lookup x = some .local ∨ (T.sc.names.lookup x = some .cell ∧ ∃ c,env.cells.lookup x = some c ∧ c ∈ M ∧ ∃ ov,h.IsCell c ov)
  inj : ∀ (i j : Nat) (x y : Str) (c : Addr),i < k → T.vars[i]? = some x → T.vars[j]? = some y → T.sc.names.lookup x = some .cell → T.sc.names.lookup y = some .cell → env.cells.lookup x = some c → env.cells.lookup y = some c → x = y
  cap : ∀ (j : Nat) (y : Str) (c : Addr),T.vars[j]? = some y → T.sc.names.lookup y = some .cell → env.cells.lookup y = some c → c ≠ env.locals
theorem Fm.at {T : TE} {k : Nat} {env : Env} {M : List Addr} {h h' : Heap} (F : Fm T k env M h) (u : ∀ b ∈ M,∀ o,h.get? b = some o → h'.get? b = some o) : Fm T k env M h' where
  sc := F.sc
  kd := F.kd
  nd := F.nd
  lm := F.lm
  all := fun b hb => let ⟨o,ho⟩ := F.all b hb; ⟨o,u b hb o ho⟩
  ns := let ⟨m,hm⟩ := F.ns; ⟨m,hm.at' fun o e => u _ F.lm o e⟩
  own := fun i x hi hx => (F.own i x hi hx).imp id fun ⟨a,c,hc,hm,ov,o,ho,hd⟩ => ⟨a,c,hc,hm,ov,o,u c hm o ho,hd⟩
  inj := F.inj
  cap := F.cap
theorem Fm.up {T : TE} {k : Nat} {env : Env} {M : List Addr} {h h' : Heap} (F : Fm T k env M h) (u : Up h h') : Fm T k env M h' := F.at fun b _ o e => u b o e
noncomputable def UpBut (M : List Addr) (h h' : Heap) : Prop := ∀ b o,b ∉ M → h.get? b = some o → h'.get? b = some o
theorem UpBut.trans {M : List Addr} {a b c : Heap} (x : UpBut M a b) (y : UpBut M b c) : UpBut M a c := fun i o hi e => y i o hi (x i o hi e)
theorem UpBut.of {M : List Addr} {a b : Heap} (x : Up a b) : UpBut M a b := fun i o hi e => x i o e
section
variable {T : TE} {k : Nat} {env : Env} {M : List Addr} {w : World} {A : Around} {E : Value → Shared → Prop} {s : Shared}
theorem sameBut_all {a : Addr} {h h' : Heap} (hs : Heap.SameBut a h h') (ha : ∃ o,h'.get? a = some o) {b : Addr} (hb : ∃ o,h.get? b = some o) : ∃ o,h'.get? b = some o := by
  by_cases e : b = a
  · rw [e]; exact ha
  · (refine ob_E hb fun o ho => ?_; try clear hb)
    exact ⟨o,(hs.2 b e).trans ho⟩
theorem Fm.store (F : Fm T k env M s.heap) {i : Nat} {x : Str} (hi : i < k) (hx : T.vars[i]? = some x) {v : Value} {Q : Unit → Shared → Prop}
    (h : ∀ h' tk,UpBut M s.heap h' → Fm T k env M h' → Bound h' env x v → (∀ j y u,T.vars[j]? = some y → j ≠ i → Bound s.heap env y u → Bound h' env y u) → Q () { s with heap := h',toks := tk }) :
    wpAny (model prog w) A (storeName env x v) Q E s := by
  have kk : env.scope.kind = .function := by rw [F.sc]; exact F.kd
  have ko : ∀ y,env.kindOf y = T.sc.names.lookup y := fun y => by
    show env.scope.names.lookup y = _
    rw [F.sc]
  have ne : ∀ j y,T.vars[j]? = some y → j ≠ i → y ≠ x := fun j y hy hj e => by
    subst e
    have hi' := (List.getElem?_eq_some_iff.mp hx).1
    have hj' := (List.getElem?_eq_some_iff.mp hy).1
    exact hj ((List.getElem?_inj hj' F.nd).mp (hy.trans hx.symm))
  rcases F.own i x hi hx with hl | ⟨hl,c,hc,hm,ov,hv⟩
  · refine ob_E F.ns fun m hn => ?_
    refine wpAny_storeName_local ((ko x).trans hl) hn (fun h' hn' hs' => ?_) (by rw [kk]; rfl)
    have ha : ∃ o,h'.get? env.locals = some o := let ⟨o,_,_,ho,_⟩ := hn'; ⟨o,ho⟩
    refine h h' _ (fun b o hb e => (hs'.2 b fun q => hb (q ▸ F.lm)).trans e) ⟨F.sc,F.kd,F.nd,F.lm,fun b hb => sameBut_all hs' ha (F.all b hb),⟨_,hn'⟩,fun j y hj hy => ?_,F.inj,F.cap⟩ (.inl ⟨(ko x).trans hl,_,hn',by simp⟩) fun j y u hy hj b => ?_
    · rcases F.own j y hj hy with hl' | ⟨hl',c,hc,hm,ov,hv⟩
      · exact .inl hl'
      · exact .inr ⟨hl',c,hc,hm,ov,hv.sameBut hs' (F.cap j y c hy hl' hc)⟩
    · rcases b with ⟨a,m',hn₁,e⟩ | ⟨a,c,hc,hv⟩
      · refine .inl ⟨a,_,hn',?_⟩
        have : m y = m' y := by
          (refine ob_EEEAAA hn fun o es ep ho hd _ r => ?_; try clear hn)
          (refine ob_EEEAAA hn₁ fun o' es' ep' ho' hd' _ r' => ?_; try clear hn₁)
          rw [ho] at ho'
          cases ho'
          rw [hd] at hd'
          cases hd'
          exact (r y).symm.trans (r' y)
        show (if y = x then some v else m y) = some u
        rw [if_neg (ne j y hy hj),this]
        exact e
      · exact .inr ⟨a,c,hc,hv.sameBut hs' (F.cap j y c hy ((ko y).symm.trans a) hc)⟩
  · refine wpAny_storeName_cell kk ((ko x).trans hl) hc hv fun h' hv' hs' => ?_
    have hcl := F.cap i x c hx hl hc
    refine ob_E F.ns fun m hn => ?_
    have hn' : h'.Ns env.locals m := hn.sameBut hs' (Ne.symm hcl)
    have ha : ∃ o,h'.get? c = some o := let ⟨o,ho,_⟩ := hv'; ⟨o,ho⟩
    refine h h' _ (fun b o hb e => (hs'.2 b fun q => hb (q ▸ hm)).trans e) ⟨F.sc,F.kd,F.nd,F.lm,fun b hb => sameBut_all hs' ha (F.all b hb),⟨_,hn'⟩,fun j y hj hy => ?_,F.inj,F.cap⟩ (.inr ⟨(ko x).trans hl,c,hc,hv'⟩) fun j y u hy hj b => ?_
    · rcases F.own j y hj hy with hl' | ⟨hl',c',hc',hm',ov',hv''⟩
      · exact .inl hl'
      · by_cases e : c' = c
        · exact .inr ⟨hl',c',hc',hm',_,e ▸ hv'⟩
        · exact .inr ⟨hl',c',hc',hm',ov',hv''.sameBut hs' e⟩
    · rcases b with ⟨a,m',hn₁,e⟩ | ⟨a,c',hc',hv''⟩
      · exact .inl ⟨a,m',hn₁.sameBut hs' (Ne.symm hcl),e⟩
      · refine .inr ⟨a,c',hc',hv''.sameBut hs' fun e => ?_⟩
        exact ne j y hy hj (F.inj i j x y c hi hx hy hl ((ko y).symm.trans a) hc (e ▸ hc')).symm
theorem get_put {σ : Sto} {i : Nat} {c : Cell} {j : Nat} {d : D} (h : Sto.get (put σ i (some c)) j = some d) : (j = i ∧ d = c.d) ∨ (j ≠ i ∧ σ.get j = some d) := by
  unfold Sto.get at h ⊢
  rw [look_put] at h
  by_cases e : i = j
  · subst e
    by_cases l : i < σ.length
    · rw [if_pos ⟨rfl,l⟩] at h
      exact .inl ⟨rfl,(Option.some.inj h).symm⟩
    · rw [if_neg fun x => l x.2] at h
      exfalso
      have : ∀ (σ : Sto) (i : Nat), ¬ i < σ.length → look σ i = none := by
        intro σ
        induction σ with
        | nil => intros; rfl
        | cons a σ ih =>
          intro i hi
          cases i with
          | zero => exact absurd (Nat.succ_pos _) hi
          | succ i => exact ih i fun q => hi (Nat.succ_lt_succ q)
      rw [this σ i l] at h
      cases h
  · rw [if_neg fun x => e x.1] at h
    exact .inr ⟨fun q => e q.symm,h⟩
theorem Fm.put (F : Fm T k env M s.heap) {i : Nat} {x : Str} (hi : i < k) (hx : T.vars[i]? = some x) {v : Value} {Ex : Addr → Prop} {σ : Sto} {d : D} (hM : ∀ b ∈ M,Ex b) (r : Rep s.heap Ex v d) (V : VarsR T env s.heap Ex σ) {Q : Unit → Shared → Prop}
    (h : ∀ h' tk,UpBut M s.heap h' → Fm T k env M h' → VarsR T env h' Ex (Internal.put σ i (some (.fz d))) → Q () { s with heap := h',toks := tk }) :
    wpAny (model prog w) A (storeName env x v) Q E s := F.store hi hx fun h' tk u F' b o => by
  have g : Grow s.heap Ex h' Ex := fun a ob e ho => ⟨e,u a ob (fun q => e (hM a q)) ho⟩
  refine h h' tk u F' fun j y d' hy hd => ?_
  rcases get_put hd with ⟨rfl,rfl⟩ | ⟨hj,hd⟩
  · rw [hx] at hy
    cases hy
    exact ⟨v,b,r.mono g⟩
  · refine ob_EA (V j y d' hy hd) fun u' b' r' => ?_
    exact ⟨u',o j y u' hy hj b',r'.mono g⟩
noncomputable def ItemRep (tg : Expr) (h : Heap) (Ex : Addr → Prop) (v : Value) (d : D) : Prop :=
  match tg with
  | .Tuple _ _ _ => ∃ a vs ds,v = .ref a ∧ d = .tup ds ∧ h.IsTuple a vs.toArray ∧ RepAll h Ex vs ds
  | _ => Rep h Ex v d
noncomputable def TgOk (prog : Program) (T : TE) (k : Nat) (tg : Expr) (bnd : D → Sto → Option Sto) : Prop :=
  ∀ (w : World) (A : Around) (E : Value → Shared → Prop) (s : Shared) (env : Env) (M : List Addr) (Ex : Addr → Prop) (v : Value) (d : D) (σ σ' : Sto) (Q : Unit → Shared → Prop),A.handled = none → Fm T k env M s.heap → (∀ b ∈ M,Ex b) → Bel s.heap Ex → ItemRep tg s.heap Ex v d → bnd d σ = some σ' → VarsR T env s.heap Ex σ →
    (∀ h' tk,UpBut M s.heap h' → Fm T k env M h' → VarsR T env h' Ex σ' → Q () { s with heap := h',toks := tk }) → wpAny (model prog w) A (assign tg env v) Q E s
noncomputable def bndName (i : Nat) (d : D) (σ : Sto) : Option Sto := some (put σ i (some (.fz d)))
noncomputable def bndTup (i j : Nat) (d : D) (σ : Sto) : Option Sto :=
  match d with
  | .tup [a,b] => some (put (put σ i (some (.fz a))) j (some (.fz b)))
  | _ => none
theorem TgOk.name {x : Str} {pos : Pos} {i : Nat} (hi : i < k) (hx : T.vars[i]? = some x) : TgOk prog T k (.Name x pos) (bndName i) := by
  intro w A E s env M Ex v d σ σ' Q hh F hM hb r hd V h
  cases hd
  exact wpAny_assign_Name (F.put hi hx hM r V h)
theorem VarsR.up {env : Env} {h h' : Heap} {Ex : Addr → Prop} {σ : Sto} (V : VarsR T env h Ex σ) (k : Up h h') : VarsR T env h' Ex σ := fun i x d e f => let ⟨v,b,r⟩ := V i x d e f; ⟨v,b.up k,r.up k⟩
theorem inOrder_two {f g : Value → Sem Unit} {a b : Value} {Q : Unit → Shared → Prop} (h : wpAny (model prog w) A (f a) (fun _ s₁ => wpAny (model prog w) A (g b) Q E s₁) E s) : wpAny (model prog w) A (assignInOrder [f,g] [a,b]) Q E s := by
  show wpAny _ A (holding _ (f a) >>= _) Q E s
  refine wpAny_bind (wpAny_holding (wpAny_mono h (fun _ s₁ h₁ => ?_) fun _ _ e => e))
  show wpAny _ A (holding _ (g b) >>= _) Q E s₁
  exact wpAny_bind (wpAny_holding (wpAny_mono h₁ (fun _ s₂ h₂ => wpAny_pure h₂) fun _ _ e => e))
theorem up_extBut {h h' : Heap} (x : Heap.ExtBut h.objs.size h h') : Up h h' := fun b o e => x b o (Nat.ne_of_lt (Heap.lt_size e)) e
theorem TgOk.tup {x y : Str} {px py pos : Pos} {kk : Nat} {i j : Nat} (hi : i < k) (hx : T.vars[i]? = some x) (hj : j < k) (hy : T.vars[j]? = some y) : TgOk prog T k (.Tuple [.Name x px,.Name y py] kk pos) (bndTup i j) := by
  intro w A E s env M Ex v d σ σ' Q hh F hM hb r hd V h
  (refine ob_EEEAAA r fun a vs ds z1q z2q ht q => ?_; try clear r; obtain rfl := z1q; obtain rfl := z2q)
  unfold bndTup at hd
  split at hd
  · rename_i d₁ d₂ he
    cases he
    cases hd
    (refine ob_EEAA (repAll_two q) fun v₁ v₂ z3q r₁ r₂ => ?_; obtain rfl := z3q)
    refine wpAny_assign_Tuple hh ht rfl rfl fun h₁ hs₁ => ?_
    have u₁ := up_extBut hs₁
    refine inOrder_two (f := assign (.Name x px) env) (g := assign (.Name y py) env) (wpAny_assign_Name (Fm.put (s := { s with heap := h₁ }) (F.up u₁) hi hx hM (r₁.up u₁) (V.up u₁) fun h₂ tk₂ u₂ F₂ V₂ => ?_))
    have g₂ : Grow h₁ Ex h₂ Ex := fun a ob e ho => ⟨e,u₂ a ob (fun q => e (hM a q)) ho⟩
    exact wpAny_assign_Name (Fm.put (s := { s with heap := h₂,toks := tk₂ }) F₂ hj hy hM ((r₂.up u₁).mono g₂) V₂ fun h₃ tk₃ u₃ F₃ V₃ => h h₃ tk₃ ((UpBut.of u₁).trans (u₂.trans u₃)) F₃ V₃)
  · cases hd
end
end
section
variable {prog : Program}
structure SrcOk (prog : Program) (w : World) (A : Around) (tg : Expr) (Ex : Addr → Prop) (h₀ : Heap) (s₂ : Shared) (I : Addr) (ds : List D) (fp wr : List Addr) (P Md : Nat → Value → Heap → Prop) (St : Nat → Heap → Prop) (hm : Heap) : Prop where
  W : KTurns prog w A tg I fp wr ds.length P Md St
  st : St 0 s₂.heap
  u₀ : Up h₀ hm
  u₁ : Up hm s₂.heap
  new : ∀ b ∈ wr,hm.get? b = none
  ex : ∀ b ∈ fp,∃ o,s₂.heap.get? b = some o
  live : ∀ i h,St i h → ∀ b ∈ wr,∃ o,h.get? b = some o
  off : ∀ b ∈ fp,b ∉ wr → ¬ Ex b
  self : ∀ (i : Nat) (s : Shared) (Q : Value → Shared → Prop) (E : Value → Shared → Prop),St i s.heap → Q (.ref I) s → wpAny (model prog w) A (pyIter (.ref I)) Q E s
  item : ∀ i v h' Ex',i < ds.length → P i v h' → Grow hm Ex h' Ex' → ∃ d,ds[i]? = some d ∧ ItemRep tg h' Ex' v d
noncomputable def DI (prog : Program) (K : Params → Frag) (n : Nat) (T : TE) (tg : Expr) (e : Expr) (f : Sto → Option (List D)) : Prop :=
  (∀ env x,foldedSetIterable e env x = pure x) ∧
  ∀ (w : World) (A : Around) (E : Value → Shared → Prop) (s : Shared) (env : Env) (Ex : Addr → Prop) (σ : Sto) (ds : List D),Cx (K w.params) n T A env Ex s.heap σ → f σ = some ds →
    wpAny (model prog w) A (eval e env) (fun x s₁ => wpAny (model prog w) A (pyIter x) (fun it s₂ => ∃ I fp wr P Md St hm,it = .ref I ∧ PySem.Keeps s s₂ ∧ SrcOk prog w A tg Ex s.heap s₂ I ds fp wr P Md St hm) E s₁) E s
noncomputable def chars (x : Str) : List D := x.cps.toList.map fun c => .str ⟨#[c]⟩
noncomputable def octets (b : Array UInt8) : List D := b.toList.map fun c => .int c.toNat
noncomputable def seqD : D → Option (List D)
  | .list ds => some ds
  | .str x => some (chars x)
  | .bytes b => some (octets b)
  | _ => none
section
variable {K : Params → Frag} {n : Nat} {T : TE}
theorem fresh_none (h : Heap) : h.get? h.objs.size = none := by
  cases e : h.get? h.objs.size with
  | none => rfl
  | some o => exact absurd (Heap.lt_size e) (Nat.lt_irrefl _)
theorem ofW {w : World} {A : Around} {x : Str} {px : Pos} {I : Addr} {fp wr : List Addr} {n : Nat} {P : Nat → Value → Prop} {St : Nat → Heap → Prop} (W : Walks prog w A I fp wr n P St) :
    KTurns prog w A (.Name x px) I fp wr n (fun i v _ => P i v) (fun i v h => P i v ∧ St (i + 1) h) St := KTurns.ofWalks W fun i v s Q E st hQ => wpAny_of_eq (by rfl) hQ
theorem DI.seq {x : Str} {px : Pos} {e : Expr} {f : Sto → Option D} (H : DE prog K n T e f) (hs : ∀ env x,foldedSetIterable e env x = pure x := by intro _ _; rfl) : DI prog K n T (.Name x px) e (fun σ => (f σ).bind seqD) := by
  refine ⟨hs,fun w A E s env Ex σ ds C hf => ?_⟩
  refine ob_EA (Option.bind_eq_some_iff.mp hf) fun d hd hf => ?_
  refine H.use C hd fun v s₁ k₁ C₁ r₁ => ?_
  unfold seqD at hf
  split at hf
  · cases hf
    (refine ob_EEAAA r₁.list_inv fun a vs z1q ea l q => ?_; obtain rfl := z1q)
    refine ob_EA (id l) fun o ho _ => ?_
    have hne : a ≠ s₁.heap.objs.size := Nat.ne_of_lt (Heap.lt_size ho)
    have hlen := q.length
    refine wpAny_pyIter_list l ?_
    have W := ofW (x := x) (px := px) (Walks.list (prog := prog) (w := w) C.a.hd s₁.heap.objs.size a hne vs.toArray)
    have hsz : vs.toArray.size = ds.length := by rw [List.size_toArray,hlen]
    rw [hsz] at W
    refine ⟨_,_,_,_,_,_,s₁.heap,rfl,keeps_trans k₁ (keeps_push s₁ _ _),⟨W,⟨⟨_,Heap.get?_push_size _ rfl,rfl,rfl⟩,l.push _⟩,keeps_up k₁,Up.push _ _,?_,?_,?_,?_,?_,?_⟩⟩
    · intro b hb
      rw [List.mem_singleton.mp hb]
      exact fresh_none _
    · intro b hb
      rcases List.mem_cons.mp hb with rfl | hb
      · exact ⟨_,Heap.get?_push_size _ rfl⟩
      · rw [List.mem_singleton.mp hb]
        exact ⟨_,Heap.get?_push_of_some _ ho⟩
    · intro i h st b hb
      rw [List.mem_singleton.mp hb]
      refine ob_EA st.1 fun o ho _ => ?_
      exact ⟨o,ho⟩
    · intro b hb hw
      rcases List.mem_cons.mp hb with rfl | hb
      · exact absurd (List.mem_singleton.mpr rfl) hw
      · rw [List.mem_singleton.mp hb]; exact ea
    · exact fun i s Q E st hQ => wpAny_pyIter_listiter st.1 hQ
    · intro i v h' Ex' hi hP hG
      have hv : vs[i]? = some v := by simpa using hP
      refine ob_EA (q.getV hv) fun d hd r => ?_
      exact ⟨d,hd,r.mono hG⟩
  · cases hf
    rename_i z
    (refine ob_E r₁.str_inv fun t z2q => ?_; obtain rfl := z2q)
    have key : ∀ (o : Obj) (St : Nat → Heap → Prop),o.isFreed = false → Walks prog w A s₁.heap.objs.size [s₁.heap.objs.size] [s₁.heap.objs.size] z.cps.size (SignAt z) St → St 0 (s₁.heap.push o) → (∀ i h,St i h → ∃ o,h.get? s₁.heap.objs.size = some o) →
        ∃ I fp wr P Md St hm,Value.ref s₁.heap.objs.size = .ref I ∧ PySem.Keeps s { s₁ with heap := s₁.heap.push o } ∧ SrcOk prog w A (.Name x px) Ex s.heap { s₁ with heap := s₁.heap.push o } I (chars z) fp wr P Md St hm := by
      intro o St hfr hW hSt hlv
      have W := ofW (x := x) (px := px) hW
      have hsz : z.cps.size = (chars z).length := by simp [chars]
      rw [hsz] at W
      refine ⟨_,_,_,_,_,_,s₁.heap,rfl,keeps_trans k₁ (keeps_push s₁ o s₁.toks),⟨W,hSt,keeps_up k₁,Up.push _ _,?_,?_,?_,?_,?_,?_⟩⟩
      · intro b hb
        rw [List.mem_singleton.mp hb]
        exact fresh_none _
      · intro b hb
        rw [List.mem_singleton.mp hb]
        exact ⟨_,Heap.get?_push_size _ hfr⟩
      · intro i h st b hb
        rw [List.mem_singleton.mp hb]
        exact hlv i h st
      · intro b hb hw
        exact absurd hb hw
      · exact hW.self
      · intro i v h' Ex' hi hP hG
        (refine ob_EEA hP fun c u hc z3q => ?_; try clear hP; obtain rfl := z3q)
        exact ⟨.str ⟨#[c]⟩,by simp [chars,hc],.str _ _⟩
    cases ha : z.cps.all (· < 128)
    · exact wpAny_pyIter_wide ha (key _ _ rfl (Walks.strWide C.a.hd _ z t) ⟨_,Heap.get?_push_size _ rfl,rfl,rfl⟩ fun i h st => let ⟨o,ho,_⟩ := st; ⟨o,ho⟩)
    · exact wpAny_pyIter_ascii ha (key _ _ rfl (Walks.strAscii C.a.hd _ z t) ⟨_,Heap.get?_push_size _ rfl,rfl,rfl⟩ fun i h st => let ⟨o,ho,_⟩ := st; ⟨o,ho⟩)
  · cases hf
    rename_i b
    (refine ob_E r₁.bytes_inv fun t z4q => ?_; obtain rfl := z4q)
    refine KBw.pyIter_bytes ?_
    have hW := KBw.walks (prog := prog) (w := w) (b := b) (t := t) C.a.hd s₁.heap.objs.size
    have W := ofW (x := x) (px := px) hW
    have hsz : b.size = (octets b).length := by simp [octets]
    rw [hsz] at W
    refine ⟨_,_,_,_,_,_,s₁.heap,rfl,keeps_trans k₁ (keeps_push s₁ _ s₁.toks),⟨W,⟨_,Heap.get?_push_size _ rfl,rfl,rfl⟩,keeps_up k₁,Up.push _ _,?_,?_,?_,?_,?_,?_⟩⟩
    · intro b hb
      rw [List.mem_singleton.mp hb]
      exact fresh_none _
    · intro b hb
      rw [List.mem_singleton.mp hb]
      exact ⟨_,Heap.get?_push_size _ rfl⟩
    · intro i h st b hb
      rw [List.mem_singleton.mp hb]
      (refine ob_EA st fun o ho _ => ?_; try clear st)
      exact ⟨o,ho⟩
    · intro b hb hw
      exact absurd hb hw
    · exact hW.self
    · intro i v h' Ex' hi hP hG
      (refine ob_EEA hP fun c u hc z5q => ?_; try clear hP; obtain rfl := z5q)
      exact ⟨.int c.toNat,by simp [octets,hc],.int _ _⟩
  · cases hf
end
end
section
open AutoSeq1 (wpAny_loadPart')
variable {prog : Program}
theorem typeCall_enumerate_2 (a b : Value) : checkTypeCall "enumerate" ⟨[a,b], []⟩ = pure () := by kernel_rfl
theorem newCall_enumerate_2 (a b : Value) : checkBuiltinCall "enumerate.__new__" ⟨[.type "enumerate",a,b], []⟩ = pure () := by kernel_rfl
set_option maxHeartbeats 1000000 in
theorem meets_enumerate_from (l : Addr) (items : Array Value) (n : Nat) (dct : Option Addr) (sl : Array (Option Value)) (i : Int) (t : Tok) (hi : Builtin.SmallTypes.fitsIndex i = true) :
    Meets (Builtin.«enumerate.__new__» ⟨[.type "enumerate",.ref l,.int i t], []⟩) (fun _ R s => s.heap.get? l = some { cls := .type "list",dict := dct,data := .seq items n,slots := sl } ∧
      R (.ok (.ret (.ref (s.heap.push { cls := .type "list_iterator",data := .fields #[.ref l,.int 0 0] }).objs.size)))
        { s with heap := (s.heap.push { cls := .type "list_iterator",data := .fields #[.ref l,.int 0 0] }).push { cls := .type "enumerate",data := .fields #[.none,.bool false,.ref s.heap.objs.size,rawInt i,.none,.none] } }) :=
  .of_wp fun prog w A R s h => by
    obtain ⟨hp,g,d,tk,os⟩ := s; refine ob_A h fun hl h => ?_
    have hsub := sub_enumerate
    have hL : Heap.IsList (Shared.heap ⟨hp,g,d,tk,os⟩) l items := ⟨_,hl,rfl,n,rfl⟩
    wp_walk using wpAny_loadPart' hl
    refine wpAny_stack_any fun st => wpAny_pure ?_
    split
    · rename_i c _ _ _ _ _
      cases (c == Value.type "enumerate")
      · wp_walk using wpAny_loadPart' hl,wpAny_pyIter_list hL
        exact ⟨_,rfl,h⟩
      · wp_walk using wpAny_loadPart' hl,wpAny_pyIter_list hL
        exact ⟨_,rfl,h⟩
    · wp_walk using wpAny_loadPart' hl,wpAny_pyIter_list hL
      exact ⟨_,rfl,h⟩
theorem Draws.later {w : World} {A : Around} {it : Addr} {fp : List Addr} {n : Nat} {P : Nat → Value → Prop} {St : Nat → Heap → Prop} (D : Draws prog w A it fp n P St) (m : Nat) :
    Draws prog w A it fp (n + m) (fun i v => P (i - m) v) (fun i h => m ≤ i ∧ St (i - m) h) where
  live := fun i h st => D.live _ _ st.2
  frame := fun i h h' st k => ⟨st.1,D.frame _ _ _ st.2 k⟩
  item := fun i s Q E hi st hQ => D.item (i - m) s Q E (Nat.sub_lt_right_of_lt_add st.1 hi) st.2 fun x h' tk hP hS hk => hQ x h' tk hP ⟨Nat.le_succ_of_le st.1,by rw [show i + 1 - m = i - m + 1 from Nat.succ_sub st.1]; exact hS⟩ hk
  done := fun s Q E st hE => D.done s Q E (by rw [show n = n + m - m by simp]; exact st.2) hE
theorem KTurns.from {w : World} {A : Around} {target : Expr} {I : Addr} {fp wr : List Addr} {n m : Nat} {P Md : Nat → Value → Heap → Prop} {St : Nat → Heap → Prop} (W : KTurns prog w A target I fp wr (n + m) P Md St) :
    KTurns prog w A target I fp wr n (fun i => P (i + m)) (fun i => Md (i + m)) (fun i => St (i + m)) where
  sub := W.sub
  frame := fun i h h' st k => W.frame _ _ _ st k
  item := fun i s Q E hi st hQ => W.item (i + m) s Q E (by exact Nat.add_lt_add_right (by assumption) _) st hQ
  go := fun i v s Q E hm hQ => W.go (i + m) v s Q E hm fun h' hP hS hk => hQ h' hP (by rw [show i + 1 + m = i + m + 1 by exact Nat.add_right_comm _ _ _]; exact hS) hk
  done := fun s Q E st hQ => W.done s Q E st hQ
section
variable {w : World} {A : Around} {E : Value → Shared → Prop} {s : Shared}
theorem call_enumerate_from {l : Addr} {items : Array Value} {i : Int} {t : Tok} {Q : Value → Shared → Prop} (hi : Builtin.SmallTypes.fitsIndex i = true) (hL : s.heap.IsList l items)
    (h : ∀ h',IsEnum h' (s.heap.objs.size + 1) s.heap.objs.size i .none → h'.IsListIter s.heap.objs.size l 0 →
      (∀ b o,s.heap.get? b = some o → h'.get? b = some o) → Q (.ref (s.heap.objs.size + 1)) { s with heap := h' }) :
    wpAny (model prog w) A (call (.type "enumerate") [.ref l,.int i t]) Q E s := by
  (refine ob_EAAE hL fun z1q hl hc n hd => ?_; try clear hL; obtain ⟨c,dct,dt,sl⟩ := z1q)
  replace hc : c = .type "list" := hc
  replace hd : dt = .seq items n := hd
  subst hc hd
  refine callType_new F.called_enumerate (by decide) (typeCall_enumerate_2 _ _) (newCall_enumerate_2 _ _) (fun obj => F.initArgs_range_2 obj _ _) F.entry_enumerate_new (meets_enumerate_from l items n dct sl i t hi) ⟨hl,?_⟩
  have e := Heap.get?_push_size (s.heap.push { cls := .type "list_iterator",data := .fields #[.ref l,.int 0 0] })
    (o := { cls := .type "enumerate",data := .fields #[.none,.bool false,.ref s.heap.objs.size,rawInt i,.none,.none] }) rfl
  rw [Heap.size_push] at e ⊢
  exact ⟨⟨_,e,rfl⟩,h _ e ⟨_,Heap.get?_push_of_some _ (Heap.get?_push_size _ rfl),rfl,rfl⟩ fun b o x => Heap.get?_push_of_some _ (Heap.get?_push_of_some _ x)⟩
end
noncomputable def enumD (m : Nat) (ds : List D) : List D := (ds.zipIdx m).map fun x => .tup [.int x.2,x.1]
noncomputable def rangeL (a b : Int) : List D := (List.range (b - a).toNat).map fun (i : Nat) => .int (a + (i : Int))
section
variable {K : Params → Frag} {n : Nat} {T : TE}
theorem enum_src {w : World} {A : Around} {Ex : Addr → Prop} {h₀ : Heap} {s₁ : Shared} {h' : Heap} {a : Addr} {vs : List Value} {ds : List D} {elts : List Expr} {kk : Nat} {pos : Pos} (m : Nat) (hh : A.handled = none) (ea : ¬ Ex a) (l : s₁.heap.IsList a vs.toArray) (q : RepAll s₁.heap Ex vs ds) (u₀ : Up h₀ s₁.heap)
    (he : IsEnum h' (s₁.heap.objs.size + 1) s₁.heap.objs.size (m : Nat) .none) (hit : h'.IsListIter s₁.heap.objs.size a 0) (u : Up s₁.heap h') :
    ∃ fp wr P Md St hm,SrcOk prog w A (.Tuple elts kk pos) Ex h₀ { s₁ with heap := h' } (s₁.heap.objs.size + 1) (enumD m ds) fp wr P Md St hm := by
  refine ob_EA (id l) fun o ho _ => ?_
  have hlt : a < s₁.heap.objs.size := Heap.lt_size ho
  have hlen := q.length
  have D₀ := Draws.later (Draws.list (prog := prog) (w := w) (A := A.in1) hh s₁.heap.objs.size a (Nat.ne_of_lt hlt) vs.toArray) m
  have W₀ := WalksT.enumerateD D₀ (s₁.heap.objs.size + 1) (Nat.ne_of_gt (Nat.lt_succ_self _)) (by
    intro hm
    rcases List.mem_cons.mp hm with e | hm
    · exact absurd e (Nat.succ_ne_self _)
    · have e := List.mem_singleton.mp hm
      rw [← e] at hlt
      exact absurd hlt (Nat.not_lt.mpr (Nat.le_succ _))) (by simp)
  have W := KTurns.from (KTurns.ofWalksU (elts := elts) (k := kk) (pos := pos) W₀.toU)
  have hz : vs.toArray.size = (enumD m ds).length := by rw [List.size_toArray,hlen]; simp [enumD]
  rw [hz] at W
  have hle : h'.get? a = some o := u a o ho
  refine ⟨_,_,_,_,_,s₁.heap,W,?_,u₀,u,?_,?_,?_,?_,fun i => W₀.self (i + m),?_⟩
  · refine ⟨⟨_,by rw [Nat.zero_add]; exact he⟩,by exact Nat.le_add_left _ _,?_,l.at fun o e => u a o e⟩
    rw [Nat.zero_add,Nat.sub_self]
    exact hit
  · intro b hb
    have hge : s₁.heap.objs.size ≤ b := by
      rcases List.mem_cons.mp hb with rfl | hb
      · exact Nat.le_add_right _ _
      · rw [List.mem_singleton.mp hb]; exact Nat.le_refl _
    cases e : s₁.heap.get? b with
    | none => rfl
    | some o => exact absurd (Heap.lt_size e) (Nat.not_lt.mpr hge)
  · intro b hb
    rcases List.mem_cons.mp hb with rfl | hb
    · exact ⟨_,he⟩
    · rcases List.mem_cons.mp hb with rfl | hb
      · (refine ob_EA hit fun o ho _ => ?_; try clear hit); exact ⟨o,ho⟩
      · rw [List.mem_singleton.mp hb]; exact ⟨o,hle⟩
  · rintro i h ⟨⟨old,he'⟩,_,hit',_⟩ b hb
    rcases List.mem_cons.mp hb with rfl | hb
    · exact ⟨_,he'⟩
    · rw [List.mem_singleton.mp hb]
      (refine ob_EA hit' fun o ho _ => ?_; try clear hit')
      exact ⟨o,ho⟩
  · intro b hb hw
    rcases List.mem_cons.mp hb with rfl | hb
    · exact absurd (by simp) hw
    · rcases List.mem_cons.mp hb with rfl | hb
      · exact absurd (by simp) hw
      · rw [List.mem_singleton.mp hb]; exact ea
  · rintro i v g Ex' hi ⟨T,vals,rfl,⟨t,x,hx,rfl⟩,hT⟩ hG
    have hx' : vs[i]? = some x := by
      have := hx
      rw [show i + m - m = i by exact Nat.add_sub_cancel_right ..] at this
      simpa using this
    refine ob_EA (q.getV hx') fun d hd r => ?_
    refine ⟨.tup [.int (i + m : Nat),d],?_,T, [_,x],_,rfl,rfl,hT,.cons (.int _ _) (.cons (r.mono hG) .nil)⟩
    simp [enumD,hd,Nat.add_comm]
theorem call_T {w : World} {A : Around} {E : Value → Shared → Prop} {s : Shared} {env : Env} {Ex : Addr → Prop} {σ : Sto} {x : Str} {np pos : Pos} {e : Expr} {es : List Expr} {id : String} {f : Sto → Option (List D)} {ds : List D} {Q : Value → Shared → Prop} (hx : IsBuilt K T x (.type id)) (hs : DEs prog K n T (e :: es) f)
    (hp : ∀ env,starEach (e :: es) env = (false,eval e env) :: starEach es env) (ha : ∀ env pos,(backTo pos (starEach (e :: es) env)).any (·.1) = false) (C : Cx (K w.params) n T A env Ex s.heap σ) (hd : f σ = some ds)
    (k : ∀ vs s₁,PySem.Keeps s s₁ → Cx (K w.params) n T A env Ex s₁.heap σ → RepAll s₁.heap Ex vs ds → wpAny (model prog w) A (call (.type id) vs) Q E s₁) :
    wpAny (model prog w) A (eval (.Call (.Name x np) (e :: es) [] pos) env) Q E s := by
  refine call_glob (σ := σ) (Ex := Ex) (built_use C hx (PyProof.Rows.callWith_type (ha env pos) (any_spliced (hp env) (wpAny_mono (hs w A E s env Ex σ ds pos C hd) (fun vs s₁ g => ?_) fun _ _ e => e))))
  rw [List.nil_append]
  exact k vs s₁ g.1 (C.up (keeps_up g.1)) g.2
noncomputable def fEnum : List D → Option (List D)
  | [.list ds] => some (enumD 0 ds)
  | [.list ds,.int i] => if i = 1 then some (enumD 1 ds) else none
  | _ => none
theorem keeps_heap {s s₁ : Shared} {h' : Heap} (k : PySem.Keeps s s₁) (u : Up s₁.heap h') : PySem.Keeps s { s₁ with heap := h' } := keeps_trans k ⟨h',s₁.toks,rfl,u⟩
theorem DI.enum {x : Str} {np pos : Pos} {e : Expr} {es : List Expr} {f : Sto → Option (List D)} {elts : List Expr} {kk : Nat} {tp : Pos} (hx : IsBuilt K T x (.type "enumerate")) (hs : DEs prog K n T (e :: es) f)
    (hp : ∀ env,starEach (e :: es) env = (false,eval e env) :: starEach es env) (ha : ∀ env pos,(backTo pos (starEach (e :: es) env)).any (·.1) = false)
    (hf : ∀ env y,foldedSetIterable (.Call (.Name x np) (e :: es) [] pos) env y = pure y := by intro _ _; rfl) :
    DI prog K n T (.Tuple elts kk tp) (.Call (.Name x np) (e :: es) [] pos) (fun σ => (f σ).bind fEnum) := by
  refine ⟨hf,fun w A E s env Ex σ ds C hf => ?_⟩
  refine ob_EA (Option.bind_eq_some_iff.mp hf) fun as hd hf => ?_
  refine call_T hx hs hp ha C hd fun vs s₁ k₁ C₁ r => ?_
  cases as with
  | nil => exact nn hf
  | cons x as => cases x with
    | list ds' => cases as with
      | nil =>
        obtain rfl := Option.some.inj hf
        (refine ob_EA (repAll_one r) fun v z2q r₁ => ?_; obtain rfl := z2q)
        (refine ob_EEAAA r₁.list_inv fun a ws z3q ea l q => ?_; obtain rfl := z3q)
        refine call_enumerate_list l fun h' he hit hsz u => ?_
        refine ob_EEEEEE (enum_src (prog := prog) (w := w) (elts := elts) (kk := kk) (pos := tp) 0 C.a.hd ea l q (keeps_up k₁) he hit u) fun fp wr P Md St hm S => ?_
        exact wpAny_pyIter_enum he ⟨_,fp,wr,P,Md,St,hm,rfl,keeps_heap k₁ u,S⟩
      | cons y as => cases y with
        | int i => cases as with
          | cons => exact nn hf
          | nil =>
            refine ob_A (ifs hf) fun hi e => ?_
            subst e hi
            (refine ob_EEAA (repAll_two r) fun v v' z4q r₁ r₂ => ?_; obtain rfl := z4q)
            (refine ob_EEAAA r₁.list_inv fun a ws z5q ea l q => ?_; obtain rfl := z5q)
            (refine ob_E r₂.int_inv fun t z6q => ?_; obtain rfl := z6q)
            refine call_enumerate_from (by decide) l fun h' he hit u => ?_
            refine ob_EEEEEE (enum_src (prog := prog) (w := w) (elts := elts) (kk := kk) (pos := tp) 1 C.a.hd ea l q (keeps_up k₁) he hit u) fun fp wr P Md St hm S => ?_
            exact wpAny_pyIter_enum he ⟨_,fp,wr,P,Md,St,hm,rfl,keeps_heap k₁ u,S⟩
        | _ => exact nn hf
    | _ => exact nn hf
noncomputable def fRange : List D → Option (List D)
  | [.int b] => if -(2 ^ 31) ≤ b ∧ b < 2 ^ 31 then some (rangeL 0 b) else none
  | [.int a,.int b] => if -(2 ^ 31) ≤ a ∧ a < 2 ^ 31 ∧ -(2 ^ 31) ≤ b ∧ b < 2 ^ 31 then some (rangeL a b) else none
  | _ => none
theorem DI.range {x z : Str} {pz np pos : Pos} {e : Expr} {es : List Expr} {f : Sto → Option (List D)} (hx : IsBuilt K T x (.type "range")) (hs : DEs prog K n T (e :: es) f)
    (hp : ∀ env,starEach (e :: es) env = (false,eval e env) :: starEach es env) (ha : ∀ env pos,(backTo pos (starEach (e :: es) env)).any (·.1) = false)
    (hf : ∀ env y,foldedSetIterable (.Call (.Name x np) (e :: es) [] pos) env y = pure y := by intro _ _; rfl) :
    DI prog K n T (.Name z pz) (.Call (.Name x np) (e :: es) [] pos) (fun σ => (f σ).bind fRange) := by
  refine ⟨hf,fun w A E s env Ex σ ds C hf => ?_⟩
  refine ob_EA (Option.bind_eq_some_iff.mp hf) fun as hd hf => ?_
  refine call_T hx hs hp ha C hd fun vs s₁ k₁ C₁ r => ?_
  have key : ∀ (a b : Int) (s₂ : Shared) (rr : Addr) (t u v : Tok),PySem.Keeps s s₂ → IsRange s₂.heap rr a b 1 t u v → Builtin.Range.small a b 1 = true → wpAny (model prog w) A (pyIter (.ref rr)) (fun it s₂ => ∃ I fp wr P Md St hm,it = .ref I ∧ PySem.Keeps s s₂ ∧ SrcOk prog w A (.Name z pz) Ex s.heap s₂ I (rangeL a b) fp wr P Md St hm) E s₂ := by
    intro a b s₂ rr t u v k₂ hr hsm
    refine wpAny_pyIter_range hr hsm ?_
    have hW := LCg.range_walks (prog := prog) (w := w) (I := s₂.heap.objs.size) C.a.hd a (b - a).toNat
    have W := ofW (x := z) (px := pz) hW
    have hz : (b - a).toNat = (rangeL a b).length := by simp [rangeL]
    have hrs : Builtin.Range.rangeSize a b 1 = (((b - a).toNat : Nat) : Int) := by
      rw [rangeSize_one]
      split
      · exact (Int.toNat_of_nonneg (Int.sub_nonneg_of_le (Int.le_of_lt (by assumption)))).symm
      · exact congrArg Int.ofNat (Int.toNat_of_nonpos (Int.sub_nonpos_of_le (Int.not_lt.mp (by assumption)))).symm
    rw [hz] at W
    refine ⟨_,_,_,_,_,_,s₂.heap,rfl,keeps_trans k₂ (keeps_push s₂ _ s₂.toks),⟨W,?_,keeps_up k₂,Up.push _ _,?_,?_,?_,?_,?_,?_⟩⟩
    · rw [hrs,hz,show a + ((0 : Nat) : Int) * 1 = a by simp,show (((rangeL a b).length : Nat) : Int) - ((0 : Nat) : Int) = ((rangeL a b).length : Nat) by rfl]
      exact Heap.get?_push_size _ rfl
    · intro b hb
      rw [List.mem_singleton.mp hb]
      exact fresh_none _
    · intro b hb
      rw [List.mem_singleton.mp hb]
      exact ⟨_,Heap.get?_push_size _ rfl⟩
    · intro i h st b hb
      rw [List.mem_singleton.mp hb]
      exact ⟨_,st⟩
    · intro b hb hw
      exact absurd hb hw
    · rw [← hz]
      exact hW.self
    · rintro i v h' Ex' hi ⟨t,rfl⟩ hG
      rw [← hz] at hi
      exact ⟨.int (a + (i : Int)),by simp [rangeL,hi],.int _ _⟩
  cases as with
  | nil => exact nn hf
  | cons x as => cases x with
    | int a => cases as with
      | nil =>
        refine ob_A (ifs hf) fun hb e => ?_
        subst e
        (refine ob_EA (repAll_one r) fun v z7q r₁ => ?_; obtain rfl := z7q)
        (refine ob_E r₁.int_inv fun t z8q => ?_; obtain rfl := z8q)
        refine call_range_1 ?_
        exact key 0 a _ _ _ _ _ (keeps_trans k₁ (keeps_push s₁ _ _)) (IsRange.new ..) (small_one (by exact Int.natCast_nonneg _) (by exact Int.natCast_nonneg _) (Int.le_trans (by decide) hb.1) (Int.lt_trans hb.2 (by decide)))
      | cons y as => cases y with
        | int b => cases as with
          | cons => exact nn hf
          | nil =>
            refine ob_A (ifs hf) fun hb e => ?_
            subst e
            (refine ob_EEAA (repAll_two r) fun v v' z9q r₁ r₂ => ?_; obtain rfl := z9q)
            (refine ob_E r₁.int_inv fun t z10q => ?_; obtain rfl := z10q)
            (refine ob_E r₂.int_inv fun t' z11q => ?_; obtain rfl := z11q)
            refine call_range_2 ?_
            exact key a b _ _ _ _ _ (keeps_trans k₁ (keeps_push s₁ _ _)) (IsRange.new ..) (small_one (Int.le_trans (by decide) hb.1) (Int.lt_trans hb.2.1 (by decide)) (Int.le_trans (by decide) hb.2.2.1) (Int.lt_trans hb.2.2.2 (by decide)))
        | _ => exact nn hf
    | _ => exact nn hf
end
end
section
variable {prog : Program}
/-! the cells of a comprehension's frame -/
noncomputable def capC (env : Env) : List (Str × NameKind) → List (Str × Addr) → List (Str × Addr)
  | [],acc => acc
  | (x,k) :: r,acc => capC env r (if k == .free then (x,(env.cells.lookup x).getD 0) :: acc else acc)
theorem closure_go {env : Env} (f : Str × NameKind → List (Str × Addr) → Sem (ForInStep (List (Str × Addr))))
    (hf : ∀ x k acc,f (x,k) acc = if k == .free then (do let a ← cellOf env x; pure (.yield ((x,a) :: acc))) else pure (.yield acc)) : ∀ (names : List (Str × NameKind)) (acc : List (Str × Addr)),
      (∀ x,(x,NameKind.free) ∈ names → (env.cells.lookup x).isSome = true) → forIn names acc f = pure (capC env names acc)
  | [],acc,_ => by rw [List.forIn_nil]; rfl
  | (x,k) :: r,acc,h => by
    rw [List.forIn_cons,hf]
    unfold capC
    cases hk : (k == NameKind.free) with
    | false =>
      simp only [Bool.false_eq_true,if_false,pure_bind]
      exact closure_go f hf r acc fun y hy => h y (List.mem_cons_of_mem _ hy)
    | true =>
      have : k = .free := by cases k <;> simp_all
      subst this
      refine ob_E (Option.isSome_iff_exists.mp (h x List.mem_cons_self)) fun c hc => ?_
      simp only [if_true]
      have : cellOf env x = pure c := by unfold cellOf; rw [hc]
      rw [this,hc]
      simp only [pure_bind,Option.getD_some]
      exact closure_go f hf r _ fun y hy => h y (List.mem_cons_of_mem _ hy)
theorem closure_ok {scope : Scope} {env : Env} (h : ∀ x,(x,NameKind.free) ∈ scope.names → (env.cells.lookup x).isSome = true) : closureFor scope env = pure (capC env scope.names []) := by
  unfold closureFor
  dsimp only
  rw [closure_go (env := env) _ (fun x k acc => by cases k <;> rfl) scope.names [] h]
  rfl
theorem capC_mem {env : Env} : ∀ (names : List (Str × NameKind)) (acc : List (Str × Addr)),(∀ x,(x,NameKind.free) ∈ names → (env.cells.lookup x).isSome = true) → (∀ p ∈ acc,env.cells.lookup p.1 = some p.2) → ∀ p ∈ capC env names acc,env.cells.lookup p.1 = some p.2
  | [],acc,_,h,p,hp => h p hp
  | (x,k) :: r,acc,hs,h,p,hp => by
    refine capC_mem r _ (fun y hy => hs y (List.mem_cons_of_mem _ hy)) (fun q hq => ?_) p hp
    by_cases hk : (k == NameKind.free) = true
    · rw [if_pos hk] at hq
      have : k = .free := by cases k <;> simp_all
      subst this
      rcases List.mem_cons.mp hq with rfl | hq
      · refine ob_E (Option.isSome_iff_exists.mp (hs x List.mem_cons_self)) fun c hc => ?_
        rw [hc]; rfl
      · exact h q hq
    · rw [if_neg hk] at hq
      exact h q hq
theorem lookup_cons_some {α : Type} {x y : Str} {c : α} {l : List (Str × α)} (h : (l.lookup x).isSome = true) : (((y,c) :: l).lookup x).isSome = true := by
  rw [List.lookup_cons]
  split
  · rfl
  · exact h
theorem lookup_self_some {α : Type} {x : Str} {c : α} {l : List (Str × α)} : (((x,c) :: l).lookup x).isSome = true := by
  rw [List.lookup_cons,beq_self_eq_true]; rfl
theorem capC_some {env : Env} : ∀ (names : List (Str × NameKind)) (acc : List (Str × Addr)) (x : Str),((x,NameKind.free) ∈ names ∨ (acc.lookup x).isSome = true) → ((capC env names acc).lookup x).isSome = true
  | [],acc,x,h => by
    rcases h with h | h
    · cases h
    · exact h
  | (y,k) :: r,acc,x,h => by
    refine capC_some r _ x ?_
    rcases h with h | h
    · rcases List.mem_cons.mp h with e | h
      · cases e
        exact .inr (by simp only [beq_self_eq_true,if_true]; exact lookup_self_some)
      · exact .inl h
    · right
      split
      · exact lookup_cons_some h
      · exact h
theorem capC_lookup {env : Env} {names : List (Str × NameKind)} {x : Str} {c : Addr} (hs : ∀ x,(x,NameKind.free) ∈ names → (env.cells.lookup x).isSome = true) (hx : (x,NameKind.free) ∈ names) (hc : env.cells.lookup x = some c) : (capC env names []).lookup x = some c := by
  refine ob_E (Option.isSome_iff_exists.mp (capC_some (env := env) names [] x (.inl hx))) fun c' hc' => ?_
  have := capC_mem (env := env) names [] hs (fun p hp => nomatch hp) _ (mem_of_lookup hc')
  rw [hc', ← this,hc]
noncomputable def ownC (names : List (Str × NameKind)) : List Str := names.filterMap fun x => if x.2 == .cell then some x.1 else none
theorem cells_none : ∀ (names : List (Str × NameKind)) (n : Nat) (acc : List (Str × Addr)) (h : Heap),ownC names = [] → cellsFrom n names acc = acc ∧ pushCells h names = h
  | [],_,_,_,_ => ⟨rfl,rfl⟩
  | (x,k) :: r,n,acc,h,e => by
    unfold ownC at e
    rw [List.filterMap_cons] at e
    unfold cellsFrom pushCells
    by_cases hk : (k == NameKind.cell) = true
    · simp [hk] at e
    · simp only [hk,Bool.false_eq_true,if_false] at e ⊢
      exact cells_none r n acc h e
theorem cells_one {x : Str} : ∀ (names : List (Str × NameKind)) (n : Nat) (acc : List (Str × Addr)) (h : Heap),ownC names = [x] → cellsFrom n names acc = (x,n) :: acc ∧ pushCells h names = h.push { cls := .type "cell",data := .cell none }
  | [],_,_,_,e => by simp [ownC] at e
  | (y,k) :: r,n,acc,h,e => by
    unfold ownC at e
    rw [List.filterMap_cons] at e
    unfold cellsFrom pushCells
    by_cases hk : (k == NameKind.cell) = true
    · simp only [hk,if_true,List.cons.injEq] at e ⊢
      obtain ⟨rfl,e⟩ := e
      exact cells_none r _ _ _ e
    · simp only [hk,Bool.false_eq_true,if_false] at e ⊢
      exact cells_one r n acc h e
section
variable {M : Model} {A : Around} {E : Value → Shared → Prop} {s : Shared} {env : Env}
theorem newEnvComp {scope : Scope} {cl : List (Str × Addr)} {Q : Env → Shared → Prop}
    (h : Q { scope := scope,locals := s.heap.objs.size,globals := env.globals,cells := cellsFrom (s.heap.objs.size + 1) scope.names cl,qual := env.qual,func := none,code := env.code,frame := env.frame,builtins := env.builtins }
      { s with heap := pushCells (s.heap.push { cls := .type "dict",data := .dict #[] }) scope.names }) :
    wpAny M A (newFunctionEnv scope env.globals cl [] env.qual none .none (some env)) Q E s := by
  simp only [newFunctionEnv,Option.isSome_some,if_true]
  refine wpAny_bind (wpAny_alloc ?_)
  refine wpAny_bind (wpAny_layCells _ (fun name kind cells => by cases hkc : kind == NameKind.cell <;> simp [hkc]) _ _ _ _ ?_)
  rw [show ({ s with heap := s.heap.push { cls := .type "dict",data := .dict #[] } } : Shared).heap.objs.size = s.heap.objs.size + 1 from Heap.size_push ..]
  exact wpAny_bind (wpAny_pure (wpAny_pure h))
end
theorem compLoop_go {w : World} {A : Around} {s : Shared} {R : Result → Shared → Prop} {elt target iter : Expr} {ifs : List Expr} {scope : Scope} {pos : Pos} {it acc : Value} {env : Env} (I : Nat → Shared → Prop)
    (turn : ∀ n s,I n s → wpAny (model prog w) A (pyNext it) (fun r s₁ => match r with
      | none => R (.ok .next) s₁
      | some v => wpAny (model prog w) A (letOwnedTupleGo target it v) (fun _ s₁' => wpAny (model prog w) A (assign target env v) (fun _ s₂ =>
          wpAny (model prog w) A (forIn ifs true fun c r => if r = true then do let ok ← isTrue c env (eval c env); pure (ForInStep.yield ok) else pure (ForInStep.yield r)) (fun ok s₃ =>
            if ok = true then wpAny (model prog w) A (eval elt env) (fun x s₄ =>
              wpAny (model prog w) A (call (.builtin "list.append") [acc,x]) (fun _ s₅ => ∃ m,m < n ∧ I m s₅) (notedBy (model prog w) A env fun e s' => R (.error e) s') s₄) (notedBy (model prog w) A env fun e s' => R (.error e) s') s₃
            else ∃ m,m < n ∧ I m s₃) (notedBy (model prog w) A env fun e s' => R (.error e) s') s₂) (notedBy (model prog w) A env fun e s' => R (.error e) s') s₁') (notedBy (model prog w) A env fun e s' => R (.error e) s') s₁) (notedBy (model prog w) A env fun e s' => R (.error e) s') s)
    (n : Nat) (h : I n s) : codeAny (model prog w) A (.compLoop (.ListComp elt [⟨target,iter,ifs,0⟩] scope pos) 0 it acc env) R s := by
  refine codeAny_loop rfl I (fun n s hI => ?_) n h
  show wpAny _ A ((compTurn (.ListComp elt [⟨target,iter,ifs,0⟩] scope pos) 0 it acc env).onRaise (fun x => do noteFrame x env; theTreesLotGoes x)) _ _ s
  refine wpAny_noted ?_
  rw [compTurn_list]
  refine wpAny_bind (wpAny_standAt (wpAny_bind (wpAny_mono (turn n s hI) (fun r s₁ h₁ => ?_) fun _ _ h' => h')))
  cases r with
  | none => exact wpAny_pure h₁
  | some v =>
    refine wpAny_bind (wpAny_mono h₁ (fun _ s₁' h₁' => ?_) fun _ _ h' => h')
    refine wpAny_bind (wpAny_mono h₁' (fun _ s₂ h₂ => wpAny_bind (wpAny_mono h₂ (fun ok s₃ h₃ => ?_) fun _ _ h' => h')) fun _ _ h' => h')
    cases ok with
    | false => exact wpAny_pure ⟨rfl,h₃⟩
    | true => exact wpAny_bind (wpAny_bind (wpAny_mono h₃ (fun x s₄ h₄ => wpAny_bind (wpAny_mono h₄ (fun _ s₅ h₅ => wpAny_pure (wpAny_pure ⟨rfl,h₅⟩)) fun _ _ h' => h')) fun _ _ h' => h'))
noncomputable def relab (scope sc : Scope) : Scope := { scope with names := scope.names.map fun (n,k) => if (k == .free && sc.kind == .function && sc.names.lookup n == some .cell) then (n,.cell) else (n,k) }
structure CpOk (T : TE) (scope : Scope) (own oc : List Str) (js : List Nat) (cs : List Str) : Prop where
  kind : scope.kind = .function
  names : ∀ y ∈ scope.names,y.2 = .local → scope.names.lookup y.1 = some .local
  eoc : ownC scope.names = oc
  ooc : oc = [] ∨ ∃ x,oc = [x]
  free : ∀ p ∈ scope.names,p.2 = .free → p.1 ∈ cs
  ecs : ∀ x ∈ cs,(x,NameKind.free) ∈ scope.names ∧ T.sc.names.lookup x = some .cell ∧ x ∉ oc
  ejs : js.map (T.vars[·]?) = cs.map some
  eown : ∀ x ∈ own,(relab scope T.sc).names.lookup x = some .local ∨ ((relab scope T.sc).names.lookup x = some .cell ∧ x ∈ oc)
  rcs : ∀ x ∈ cs,(relab scope T.sc).names.lookup x = some .cell
  nd : (own ++ cs).Nodup
noncomputable abbrev cpTE (T : TE) (scope : Scope) (own cs : List Str) : TE := ⟨relab scope T.sc,own ++ cs⟩
theorem cells_facts {names : List (Str × NameKind)} {cl : List (Str × Addr)} {h : Heap} {oc : List Str} (e : ownC names = oc) (o1 : oc = [] ∨ ∃ x,oc = [x]) :
    (∀ x,x ∉ oc → (cellsFrom h.objs.size names cl).lookup x = cl.lookup x) ∧ (∀ x ∈ oc,(cellsFrom h.objs.size names cl).lookup x = some h.objs.size ∧ (pushCells h names).IsCell h.objs.size none) ∧ Up h (pushCells h names) := by
  refine ⟨?_,?_,fun b o x => pushCells_keeps _ _ b o x⟩
  · intro x hx
    rcases o1 with rfl | ⟨y,rfl⟩
    · rw [(cells_none names _ _ h e).1]
    · rw [(cells_one names _ _ h e).1,List.lookup_cons]
      have : (x == y) = false := beq_eq_false_iff_ne.mpr fun q => hx (q ▸ List.mem_singleton.mpr rfl)
      rw [this]
  · intro x hx
    rcases o1 with rfl | ⟨y,rfl⟩
    · cases hx
    · rw [List.mem_singleton.mp hx,(cells_one names _ _ h e).1,(cells_one names h.objs.size cl h e).2,List.lookup_cons,beq_self_eq_true]
      exact ⟨rfl,_,Heap.get?_push_size _ rfl,rfl⟩
noncomputable def cpStore (k : Nat) (js : List Nat) (σ : Sto) : Option Sto := (js.mapM σ.get).map fun ds => List.replicate k none ++ ds.map fun d => some (.fz d)
noncomputable def turnF (bnd : D → Sto → Option Sto) (ts : Sto → Option Bool) (el : Sto → Option D) (σ₀ : Sto) (d : D) : Option (Option D) :=
  (bnd d σ₀).bind fun σ' => (ts σ').bind fun b => if b then (el σ').map some else some none
noncomputable def compL (tu : D → Option (Option D)) : List D → Option (List D)
  | [] => some []
  | d :: r => (tu d).bind fun o => (compL tu r).map fun l => match o with | some y => y :: l | none => l
noncomputable def IfOk (prog : Program) (K : Params → Frag) (n : Nat) (T : TE) (ifs : List Expr) (ts : Sto → Option Bool) : Prop := (ifs = [] ∧ ts = fun _ => some true) ∨ ∃ c,ifs = [c] ∧ DT prog K n T c ts
theorem mapM_get {σ : Sto} : ∀ {js : List Nat} {ds : List D},js.mapM σ.get = some ds → js.length = ds.length ∧ ∀ (r : Nat) (j : Nat),js[r]? = some j → ∃ d,ds[r]? = some d ∧ σ.get j = some d
  | [],ds,e => by
    rw [List.mapM_nil] at e
    cases e
    exact ⟨rfl,fun r j h => by cases h⟩
  | j :: js,ds,e => by
    rw [List.mapM_cons] at e
    refine ob_EA (Option.bind_eq_some_iff.mp e) fun d hd e => ?_
    refine ob_EA (Option.bind_eq_some_iff.mp e) fun l hl e => ?_
    cases e
    refine ob_A (mapM_get hl) fun h1 h2 => ?_
    refine ⟨by rw [List.length_cons,List.length_cons,h1],fun r j' h => ?_⟩
    cases r with
    | zero => cases h; exact ⟨d,rfl,hd⟩
    | succ r => exact h2 r j' (by simpa using h)
theorem get_cp {k : Nat} {ds : List D} {i : Nat} {d : D} (h : Sto.get (List.replicate k none ++ ds.map fun d => some (Cell.fz d)) i = some d) : k ≤ i ∧ ds[i - k]? = some d := by
  have : ∀ (k : Nat) (i : Nat),Sto.get (List.replicate k none ++ ds.map fun d => some (Cell.fz d)) i = if i < k then none else ds[i - k]? := by
    intro k
    induction k with
    | zero =>
      intro i
      rw [if_neg (Nat.not_lt_zero _),Nat.sub_zero,List.replicate_zero,List.nil_append]
      clear h
      induction ds generalizing i with
      | nil => rfl
      | cons d ds ih =>
        cases i with
        | zero => rfl
        | succ i => exact ih i
    | succ k ih =>
      intro i
      cases i with
      | zero => simp [Sto.get,look,List.replicate_succ]
      | succ i =>
        have := ih i
        simp only [List.replicate_succ,List.cons_append]
        rw [show Sto.get (none :: (List.replicate k none ++ ds.map fun d => some (Cell.fz d))) (i + 1) = Sto.get (List.replicate k none ++ ds.map fun d => some (Cell.fz d)) i from rfl,this]
        simp only [Nat.succ_lt_succ_iff,Nat.add_sub_add_right]
  rw [this] at h
  split at h
  · cases h
  · exact ⟨by exact Nat.le_of_not_lt (by assumption),h⟩
section
variable {K : Params → Frag} {n : Nat} {T : TE} {w : World} {A : Around}
theorem caps_vars {scope : Scope} {own oc : List Str} {js : List Nat} {cs : List Str} {cells : List (Str × Addr)} {C : Addr} {env : Env} {Ex Ex' : Addr → Prop} {h₀ h' : Heap} {σ σ₀ : Sto} (O : CpOk T scope own oc js cs) (Cc : Cx (K w.params) n T A env Ex h₀ σ) (hσ : cpStore own.length js σ = some σ₀)
    (hl : ∀ x ∈ cs,∀ c,env.cells.lookup x = some c → cells.lookup x = some c) (u : Up h₀ h') (g : Grow h₀ Ex h' Ex') : VarsR (cpTE T scope own cs) (compEnvC scope cells C env) h' Ex' σ₀ := by
  (refine ob_EA (Option.map_eq_some_iff.mp hσ) fun ds hds z1q => ?_; obtain rfl := z1q)
  intro i x d hx hd
  refine ob_A (get_cp hd) fun hki hdi => ?_
  have hx' : cs[i - own.length]? = some x := by
    have : (own ++ cs)[i]? = some x := hx
    rwa [List.getElem?_append_right hki] at this
  have hxc : x ∈ cs := List.mem_of_getElem? hx'
  refine ob_A (mapM_get hds) fun h1 h2 => ?_
  have hj : ∃ j,js[i - own.length]? = some j ∧ T.vars[j]? = some x := by
    have := congrArg (fun l => l[i - own.length]?) O.ejs
    simp only [List.getElem?_map,hx',Option.map_some] at this
    cases e : js[i - own.length]? with
    | none => rw [e] at this; cases this
    | some j => rw [e] at this; exact ⟨j,rfl,Option.some.inj this⟩
  refine ob_EA hj fun j hj hjx => ?_
  refine ob_EA (h2 _ _ hj) fun d' hd' hg => ?_
  rw [hdi] at hd'
  cases hd'
  refine ob_EA (Cc.vars j x d hjx hg) fun v b r => ?_
  refine ⟨v,?_,r.mono g⟩
  rcases b with ⟨a,_⟩ | ⟨a,c,hc,hv⟩
  · rw [Cc.kindOf,(O.ecs x hxc).2.1] at a
    cases a
  · refine .inr ⟨?_,c,hl x hxc c hc,hv.keeps u⟩
    have := O.rcs x hxc
    rw [← Cc.sc] at this
    exact this
theorem caps_cell {scope : Scope} {own oc : List Str} {js : List Nat} {cs : List Str} {env : Env} {Ex : Addr → Prop} {h₀ : Heap} {σ σ₀ : Sto} (O : CpOk T scope own oc js cs) (Cc : Cx (K w.params) n T A env Ex h₀ σ) (hσ : cpStore own.length js σ = some σ₀)
    {x : Str} (hx : x ∈ cs) : ∃ c v,env.cells.lookup x = some c ∧ h₀.IsCell c (some v) := by
  (refine ob_EA (Option.map_eq_some_iff.mp hσ) fun ds hds z2q => ?_; obtain rfl := z2q)
  refine ob_E (List.mem_iff_getElem?.mp hx) fun r hr => ?_
  refine ob_A (mapM_get hds) fun h1 h2 => ?_
  have hj : ∃ j,js[r]? = some j ∧ T.vars[j]? = some x := by
    have := congrArg (fun l => l[r]?) O.ejs
    simp only [List.getElem?_map,hr,Option.map_some] at this
    cases e : js[r]? with
    | none => rw [e] at this; cases this
    | some j => rw [e] at this; exact ⟨j,rfl,Option.some.inj this⟩
  refine ob_EA hj fun j hj hjx => ?_
  refine ob_EA (h2 _ _ hj) fun d' hd' hg => ?_
  refine ob_EA (Cc.vars j x d' hjx hg) fun v b _ => ?_
  rcases b with ⟨a,_⟩ | ⟨a,c,hc,hv⟩
  · rw [Cc.kindOf,(O.ecs x hx).2.1] at a
    cases a
  · exact ⟨c,v,hc,hv⟩
theorem cp_closure {scope : Scope} {own oc : List Str} {js : List Nat} {cs : List Str} {env : Env} {Ex : Addr → Prop} {h₀ : Heap} {σ σ₀ : Sto} (O : CpOk T scope own oc js cs) (Cc : Cx (K w.params) n T A env Ex h₀ σ) (hσ : cpStore own.length js σ = some σ₀) :
    (∀ x,(x,NameKind.free) ∈ scope.names → (env.cells.lookup x).isSome = true) := fun x hx => by
  refine ob_EEA (caps_cell O Cc hσ (O.free _ hx rfl)) fun c v hc _ => ?_
  rw [hc]; rfl
theorem nos9 {α : Type} {x : Option α} {a : α} {P : Prop} (p : x = none) (q : x = some a) : P := by rw [p] at q; cases q
theorem comp_fm {scope : Scope} {own oc : List Str} {js : List Nat} {cs : List Str} {env cenv : Env} {Ex : Addr → Prop} {h₀ H : Heap} {σ σ₀ : Sto} {cells : List (Str × Addr)} {D C HC : Nat} {M : List Addr}
    (O : CpOk T scope own oc js cs) (Cc : Cx (K w.params) n T A env Ex h₀ σ) (hσ : cpStore own.length js σ = some σ₀) (f2 : ∀ x ∈ oc,cells.lookup x = some HC ∧ H.IsCell HC none)
    (capL : ∀ x ∈ cs,∀ c,env.cells.lookup x = some c → cells.lookup x = some c) (lt0 : ∀ (b : Nat) o,h₀.get? b = some o → b < D) (l1 : D < HC) (l2 : C < HC) (l3 : D ≤ C) (hC : H.Ns C (fun _ => none))
    (lc : ∀ x,cenv.cells.lookup x = cells.lookup x) (el : cenv.locals = C) (sc : cenv.scope = relab scope T.sc) (hM : (C :: oc.map fun _ => HC) = M) : Fm (cpTE T scope own cs) own.length cenv M H := by
  have inOwn : ∀ i x,i < own.length → (own ++ cs)[i]? = some x → x ∈ own := fun i x hi hx => by
    rw [List.getElem?_append_left hi] at hx
    exact List.mem_of_getElem? hx
  have cellOwn : ∀ x ∈ own,(relab scope T.sc).names.lookup x = some .cell → x ∈ oc := fun x hx e => (O.eown x hx).elim (fun h => by rw [e] at h; cases h) And.right
  have cellCs : ∀ x ∈ cs,∀ c : Nat,cells.lookup x = some c → c < D := fun x hx c hc => by
    refine ob_EEAEA (caps_cell O Cc hσ hx) fun c' v hc' o ho _ => ?_
    rw [capL x hx c' hc'] at hc
    cases hc
    exact lt0 _ _ ho
  refine ⟨sc,O.kind,O.nd,by rw [el, ← hM]; exact List.mem_cons_self,fun b hb => ?_,⟨_,by rw [el]; exact hC⟩,fun i x hi hx => ?_,fun i j x y c hi hx hy hkx hky hcx hcy => ?_,fun j y c hy hky hcy => ?_⟩
  · rw [← hM] at hb
    exact (List.mem_cons.mp hb).elim (fun hb => ob_EEEA hC fun o _ _ ho _ => ⟨o,hb ▸ ho⟩) fun hb => ob_EA (List.mem_map.mp hb) fun x hx hb => ob_EA ((f2 x hx).2) fun o ho _ => ⟨o,hb ▸ ho⟩
  · have hx := inOwn i x hi hx
    refine (O.eown x hx).imp id fun h => ⟨h.1,HC,by rw [lc]; exact (f2 x h.2).1,?_,none,(f2 x h.2).2⟩
    rw [← hM]
    exact List.mem_cons_of_mem _ (List.mem_map.mpr ⟨x,h.2,rfl⟩)
  · have hxo := cellOwn x (inOwn i x hi hx) hkx
    rw [lc,(f2 x hxo).1] at hcx
    cases hcx
    refine (List.mem_append.mp (List.mem_of_getElem? hy)).elim (fun hy => ?_) fun hy => ?_
    · have hyo := cellOwn y hy hky
      refine O.ooc.elim (fun e => by rw [e] at hxo; cases hxo) fun e => Exists.elim e fun z e => ?_
      rw [e] at hxo hyo
      rw [List.mem_singleton.mp hxo,List.mem_singleton.mp hyo]
    · rw [lc] at hcy
      exact absurd (cellCs y hy _ hcy) (Nat.lt_asymm l1)
  · rw [lc] at hcy
    rw [el]
    refine (List.mem_append.mp (List.mem_of_getElem? hy)).elim (fun hy => ?_) fun hy => ?_
    · rw [(f2 y (cellOwn y hy hky)).1] at hcy
      cases hcy
      exact Nat.ne_of_gt l2
    · exact Nat.ne_of_lt (Nat.lt_of_lt_of_le (cellCs y hy _ hcy) l3)
structure CpL (D : Nat) (M : List Addr) (Ex Ex' : Addr → Prop) (fp wr : List Addr) (h₀ hm : Heap) : Prop where
  lt0 : ∀ (b : Nat) o,h₀.get? b = some o → b < D
  ltm : ∀ (b : Nat) o,hm.get? b = some o → b < D
  ltf : ∀ b : Nat,b ∈ fp → b < D
  mM : ∀ b : Nat,b ∈ M → D < b
  u : Up h₀ hm
  new : ∀ b o,hm.get? b = some o → b ∉ wr
  sub : ∀ b ∈ wr,b ∈ fp
  bel : Bel h₀ Ex
  inv : ∀ b,Ex' b ↔ (Ex b ∨ b ∈ wr ∨ b = D ∨ b ∈ M)
section
variable {D : Nat} {M : List Addr} {Ex Ex' : Addr → Prop} {fp wr : List Addr} {h₀ hm h h' : Heap}
theorem CpL.exM (L : CpL D M Ex Ex' fp wr h₀ hm) (b : Addr) (hb : b ∈ M) : Ex' b := (L.inv b).mpr (.inr (.inr (.inr hb)))
theorem CpL.growm (L : CpL D M Ex Ex' fp wr h₀ hm) (u : Up hm h') : Grow hm Ex h' Ex' := fun a o e ho =>
  ⟨fun x => ((L.inv a).mp x).elim e fun x => x.elim (L.new a o ho) fun x => x.elim (Nat.ne_of_lt (L.ltm a o ho)) fun x => Nat.lt_asymm (L.ltm a o ho) (L.mM a x),u a o ho⟩
theorem CpL.grow0 (L : CpL D M Ex Ex' fp wr h₀ hm) (u : Up h₀ h') : Grow h₀ Ex h' Ex' := fun a o e ho => ⟨(L.growm (Up.refl _) a o e (L.u a o ho)).1,u a o ho⟩
theorem CpL.belAt (L : CpL D M Ex Ex' fp wr h₀ hm) (u : Up h₀ h') (hD : ∃ o,h'.get? D = some o) (hM : ∀ b ∈ M,∃ o,h'.get? b = some o) : Bel h' Ex' := fun a e =>
  ((L.inv a).mp e).elim (L.bel.up u a) fun e => e.elim (fun e => Exists.elim hD fun o ho => ⟨D,o,Nat.le_of_lt (L.ltf a (L.sub a e)),ho⟩) fun e => e.elim (fun e => Exists.elim hD fun o ho => ⟨D,o,Nat.le_of_eq e,ho⟩) fun e =>
    Exists.elim (hM a e) fun o ho => ⟨a,o,Nat.le_refl _,ho⟩
theorem CpL.keepm (L : CpL D M Ex Ex' fp wr h₀ hm) (u : Up hm h) (k : ∀ b o,b ∉ wr → b ∉ M → b ≠ D → h.get? b = some o → h'.get? b = some o) : Up hm h' := fun b o e =>
  k b o (L.new b o e) (fun q => Nat.lt_asymm (L.ltm b o e) (L.mM b q)) (Nat.ne_of_lt (L.ltm b o e)) (u b o e)
theorem CpL.wrM (L : CpL D M Ex Ex' fp wr h₀ hm) (b : Addr) (hb : b ∈ M) (hw : b ∈ wr) : False := Nat.lt_asymm (L.ltf b (L.sub b hw)) (L.mM b hb)
theorem CpL.wrD (L : CpL D M Ex Ex' fp wr h₀ hm) (hw : D ∈ wr) : False := Nat.lt_irrefl _ (L.ltf _ (L.sub _ hw))
theorem CpL.DM (L : CpL D M Ex Ex' fp wr h₀ hm) (q : D ∈ M) : False := Nat.lt_irrefl _ (L.mM _ q)
end
noncomputable def CpH (T : TE) (N : Nat) (env : Env) (M : List Addr) (hm h : Heap) : Prop := Fm T N env M h ∧ Up hm h
inductive CpI (tu : D → Option (Option D)) (ds ys : List D) (St : Nat → Heap → Prop) (Ex' : Addr → Prop) (L : Addr) (P : Heap → Prop) (s₂ : Shared) : Nat → Shared → Prop
  | mk (h' : Heap) (tk i : Nat) (vs : List Value) (ys' rest : List D) : i ≤ ds.length → St i h' → h'.PlainList L vs.toArray → RepAll h' Ex' vs ys' → vs.length ≤ i → compL tu (ds.drop i) = some rest → ys = ys' ++ rest → P h' → CpI tu ds ys St Ex' L P s₂ (ds.length + 1 - i) { s₂ with heap := h',toks := tk }
theorem less_turn9 {n i : Nat} (h : i < n) : n + 1 - (i + 1) < n + 1 - i := Nat.sub_succ_lt_self _ _ (Nat.lt_succ_of_lt h)
theorem comp_turn {bnd : D → Sto → Option Sto} {ts : Sto → Option Bool} {el : Sto → Option D} {σ₀ : Sto} {ds rest : List D} {i : Nat} {d : D} (hd : ds[i]? = some d) (h : compL (turnF bnd ts el σ₀) (ds.drop i) = some rest) :
    ∃ σ',bnd d σ₀ = some σ' ∧ ∃ b,ts σ' = some b ∧ ∃ rest',compL (turnF bnd ts el σ₀) (ds.drop (i + 1)) = some rest' ∧ ((b = false ∧ rest = rest') ∨ (b = true ∧ ∃ y,el σ' = some y ∧ rest = y :: rest')) := by
  refine Exists.elim (List.getElem?_eq_some_iff.mp hd) fun hl he => ?_
  rw [List.drop_eq_getElem_cons hl,he] at h
  refine ob_EA (Option.bind_eq_some_iff.mp h) fun o ho h => ?_
  refine ob_EA (Option.map_eq_some_iff.mp h) fun rest' hr h => ?_
  refine ob_EA (Option.bind_eq_some_iff.mp ho) fun σ' hσ' ho => ?_
  refine ob_EA (Option.bind_eq_some_iff.mp ho) fun b hb ho => ?_
  refine ⟨σ',hσ',b,hb,rest',hr,?_⟩
  cases b with
  | false => exact .inl ⟨rfl,by cases ho; exact h.symm⟩
  | true => exact .inr ⟨rfl,ob_EA (Option.map_eq_some_iff.mp ho) fun y hy e => ⟨y,hy,by subst e; exact h.symm⟩⟩
theorem comp_loop {T' : TE} {N D : Nat} {M : List Addr} {cenv : Env} {Ex Ex' : Addr → Prop} {h₀ hm : Heap} {s₂ s₃ : Shared} {σ₀ : Sto} {elt tg iter : Expr} {ifs : List Expr} {scope : Scope} {pos : Pos}
    {bnd : Internal.D → Sto → Option Sto} {ts : Sto → Option Bool} {el : Sto → Option Internal.D} {I : Addr} {ds ys : List Internal.D} {fp wr : List Addr} {P Md : Nat → Value → Heap → Prop} {St : Nat → Heap → Prop} {R : Result → Shared → Prop}
    (L : CpL D M Ex Ex' fp wr h₀ hm) (Tg : TgOk prog T' N tg bnd) (Ts : IfOk prog K n T' ifs ts) (El : DE prog K n T' elt el) (ha : A.handled = none)
    (cx : ∀ h σ',Up h₀ h → Fm T' N cenv M h → VarsR T' cenv h Ex' σ' → Bel h Ex' → Cx (K w.params) n T' A cenv Ex' h σ') (vr : ∀ h,Up h₀ h → Grow h₀ Ex h Ex' → VarsR T' cenv h Ex' σ₀)
    (S : SrcOk prog w A tg Ex h₀ s₂ I ds fp wr P Md St hm) (hz : ds.length ≤ sizeLine)
    (hR : ∀ h' tk vs,Up h₀ h' → Fm T' N cenv M h' → h'.PlainList D vs.toArray → RepAll h' (fun b => Ex b ∨ b = D ∨ b = cenv.locals) vs ys → R (.ok .next) { s₂ with heap := h',toks := tk })
    (hI : CpI (turnF bnd ts el σ₀) ds ys St Ex' D (CpH T' N cenv M hm) s₂ (ds.length + 1 - 0) s₃) :
    codeAny (model prog w) A (.compLoop (.ListComp elt [⟨tg,iter,ifs,0⟩] scope pos) 0 (.ref I) (.ref D) cenv) R s₃ := by
  refine compLoop_go (CpI (turnF bnd ts el σ₀) ds ys St Ex' D (CpH T' N cenv M hm) s₂) ?_ _ hI
  intro m s' hJ
  cases hJ with | mk h' tk i vs ys' rest hi hst hpl hrep hvs hco hys hp => ?_
  by_cases hlt : i < ds.length
  · refine S.W.item i _ _ _ hlt hst fun v h₁ tk₁ hMd k₁ => ?_
    refine S.W.go i v _ _ _ hMd fun h₂ hP hst₂ k₂' => ?_
    have u12 : ∀ b o,b ∉ wr → h'.get? b = some o → h₂.get? b = some o := fun b o hb e => k₂' b o hb (k₁ b o hb e)
    have Um₂ : Up hm h₂ := L.keepm hp.2 fun b o hb _ _ => u12 b o hb
    have U0₂ : Up h₀ h₂ := L.u.trans Um₂
    have F₂ : Fm T' N cenv M h₂ := hp.1.at fun b hb o => u12 b o (L.wrM b hb)
    have hpl₂ : h₂.PlainList D vs.toArray := hpl.at fun o => u12 _ o L.wrD
    refine ob_EA (S.item i v h₂ Ex' hlt hP (L.growm Um₂)) fun d hd r => ?_
    refine ob_EA (comp_turn hd hco) fun σ' hσ' hc => ob_EA hc fun b hb hc => ob_EA hc fun rest' hrest hcase => ?_
    refine Tg w A _ { s₂ with heap := h₂,toks := tk₁ } cenv M Ex' v d σ₀ σ' _ ha F₂ L.exM (L.belAt U0₂ (Exists.elim hpl₂ fun _ e => ⟨_,e⟩) F₂.all) r hσ' (vr h₂ U0₂ (L.grow0 U0₂)) fun h₃ tk₃ u₃ F₃ V₃ => ?_
    have Um₃ : Up hm h₃ := L.keepm Um₂ fun b o _ hb _ => u₃ b o hb
    have hpl₃ : h₃.PlainList D vs.toArray := hpl₂.at fun o => u₃ _ o L.DM
    have C₃ : Cx (K w.params) n T' A cenv Ex' h₃ σ' := cx h₃ σ' (L.u.trans Um₃) F₃ V₃ (L.belAt (L.u.trans Um₃) (Exists.elim hpl₃ fun _ e => ⟨_,e⟩) F₃.all)
    have st₃ : ∀ h,Up h₃ h → St (i + 1) h := fun h u => S.W.frame _ _ _ hst₂ fun b hb o e => u b o (u₃ b o (fun q => Nat.lt_asymm (L.ltf b hb) (L.mM b q)) e)
    have rep₃ : ∀ h,Up h₃ h → RepAll h Ex' vs ys' := fun h u => hrep.mono fun a o e ho => ⟨e,u a o (u₃ a o (fun q => e (L.exM a q)) (u12 a o (fun q => e ((L.inv a).mpr (.inr (.inl q)))) ho))⟩
    have go : ∀ (E' : Value → Shared → Prop) (s₄ : Shared),PySem.Keeps { s₂ with heap := h₃,toks := tk₃ } s₄ → (if b = true then wpAny (model prog w) A (eval elt cenv) (fun x s₄ =>
        wpAny (model prog w) A (call (.builtin "list.append") [.ref D,x]) (fun _ s₅ => ∃ m,m < ds.length + 1 - i ∧ CpI (turnF bnd ts el σ₀) ds ys St Ex' D (CpH T' N cenv M hm) s₂ m s₅) E' s₄) E' s₄ else ∃ m,m < ds.length + 1 - i ∧ CpI (turnF bnd ts el σ₀) ds ys St Ex' D (CpH T' N cenv M hm) s₂ m s₄) := by
      intro E' s₄ k₄
      (refine ob_EEA k₄ fun h₄ tk₄ z1q u₄ => ?_; subst z1q; clear k₄)
      replace u₄ : Up h₃ h₄ := u₄
      refine hcase.elim (fun hc => ?_) fun hc => ob_A hc fun hc hy => ob_EA hy fun y hy hre => ?_
      · rw [hc.1,if_neg Bool.false_ne_true]
        exact ⟨_,less_turn9 hlt,.mk h₄ tk₄ (i + 1) vs ys' rest' hlt (st₃ h₄ u₄) (hpl₃.at fun o => u₄ _ o) (rep₃ h₄ u₄) (Nat.le_succ_of_le hvs) hrest (hc.2 ▸ hys) ⟨F₃.up u₄,Um₃.trans u₄⟩⟩
      · rw [hc,if_pos rfl]
        refine El.use (s := { s₂ with heap := h₄,toks := tk₄ }) (C₃.up u₄) hy fun yv s₅ k₅ C₅ r₅ => ?_
        (refine ob_EEA k₅ fun h₅ tk₅ z6q u₅ => ?_; subst z6q; clear k₅)
        replace r₅ : Rep h₅ Ex' yv y := r₅
        have u₄₅ : Up h₃ h₅ := u₄.trans u₅
        refine wpAny_list_append_plain (s := { s₂ with heap := h₅,toks := tk₅ }) (hpl₃.at fun o => u₄₅ _ o) (fun h₆ hl₆ hs₆ => ?_) (Nat.le_trans hvs (Nat.le_trans hi hz))
        have k₆ : ∀ b o,b ≠ D → h₅.get? b = some o → h₆.get? b = some o := fun b o hb e => (hs₆.2 b hb).trans e
        refine ⟨_,less_turn9 hlt,.mk h₆ tk₅ (i + 1) (vs ++ [yv]) (ys' ++ [y]) rest' hlt (S.W.frame _ _ _ (st₃ h₅ u₄₅) fun b hb o => k₆ b o (Nat.ne_of_lt (L.ltf b hb))) ?_ (((rep₃ h₅ u₄₅).append (.one r₅)).mono fun a o e ho => ⟨e,k₆ a o (fun q => e ((L.inv a).mpr (.inr (.inr (.inl q))))) ho⟩) ?_ hrest ?_
          ⟨(F₃.up u₄₅).at fun b hb o => k₆ b o (fun q => L.DM (q ▸ hb)),L.keepm (Um₃.trans u₄₅) fun b o _ _ hb => k₆ b o hb⟩⟩
        · rwa [List.push_toArray] at hl₆
        · rw [List.length_append]; exact Nat.succ_le_succ hvs
        · rw [hys,hre,List.append_assoc]; rfl
    exact Ts.elim (fun q => by
      have hb1 : b = true := by rw [q.2] at hb; exact (Option.some.inj hb).symm
      subst hb1
      rw [q.1]
      exact wpAny_tests_nil (go _ _ (keeps_refl _))) fun q => ob_EA q fun c e1 Tc => by
      subst e1
      exact wpAny_tests_one (Tc.use (s := { s₂ with heap := h₃,toks := tk₃ }) C₃ hb fun s₄ k₄ _ => go _ s₄ k₄)
  · obtain rfl : i = ds.length := Nat.le_antisymm hi (Nat.le_of_not_lt hlt)
    rw [List.drop_length] at hco
    cases hco
    rw [List.append_nil] at hys
    subst hys
    refine S.W.done _ _ _ hst fun h₁ tk₁ k₁ => ?_
    have F₁ : Fm T' N cenv M h₁ := hp.1.at fun b hb o => k₁ b o (L.wrM b hb)
    exact hR h₁ tk₁ vs (L.u.trans (L.keepm hp.2 fun b o hb _ _ => k₁ b o hb)) F₁ (hpl.at fun o => k₁ _ o L.wrD)
      (hrep.mono fun a o e ho => ⟨fun q => e (q.elim (fun q => (L.inv a).mpr (.inl q)) fun q => q.elim (fun q => (L.inv a).mpr (.inr (.inr (.inl q)))) fun q => L.exM a (q ▸ F₁.lm)),k₁ a o (fun q => e ((L.inv a).mpr (.inr (.inl q)))) ho⟩)
theorem comp_block {scope : Scope} {own oc : List Str} {js : List Nat} {cs : List Str} {env : Env} {Ex : Addr → Prop} {s₀ s₂ : Shared} {σ σ₀ : Sto} {E : Value → Shared → Prop} {elt tg iter : Expr} {ifs : List Expr} {pos : Pos}
    {bnd : D → Sto → Option Sto} {ts : Sto → Option Bool} {el : Sto → Option D} {I : Addr} {ds ys : List D} {fp wr : List Addr} {P Md : Nat → Value → Heap → Prop} {St : Nat → Heap → Prop} {hm : Heap} {RR : Value → Addr → Result → Shared → Prop}
    (O : CpOk T scope own oc js cs) (Tg : TgOk prog (cpTE T scope own cs) own.length tg bnd) (Ts : IfOk prog K n (cpTE T scope own cs) ifs ts) (El : DE prog K n (cpTE T scope own cs) elt el)
    (Cc : Cx (K w.params) n T A env Ex s₀.heap σ) (hσ : cpStore own.length js σ = some σ₀) (k₂ : PySem.Keeps s₀ s₂) (S : SrcOk prog w A tg Ex s₀.heap s₂ I ds fp wr P Md St hm) (hr : compL (turnF bnd ts el σ₀) ds = some ys) (hz : ds.length ≤ sizeLine)
    (hRR : ∀ h' tk D C m vs,s₂.heap.objs.size ≤ D → s₂.heap.objs.size ≤ C → D ≠ C → PySem.Keeps s₀ { s₂ with heap := h',toks := tk } → h'.Ns C m → h'.PlainList D vs.toArray → RepAll h' (fun b => Ex b ∨ b = D ∨ b = C) vs ys → RR (.ref D) C (.ok .next) { s₂ with heap := h',toks := tk }) :
    wpAny (model prog w) A (newList []) (fun acc s₃ => wpAny (model prog w) A (newFunctionEnv scope env.globals (capC env scope.names []) [] env.qual none .none (some env)) (fun cenv s₄ =>
      codeAny (model prog w) A (.compStart (.ListComp elt [⟨tg,iter,ifs,0⟩] scope pos) 0 (.ref I) acc { cenv with scope := relabel scope env }) (RR acc cenv.locals) s₄) E s₃) E s₂ := by
  refine wpAny_newObj_type (newEnvComp ?_)
  dsimp only
  generalize hH2 : s₂.heap.push { cls := .type "list",dict := none,data := .seq ([] : List Value).toArray } = H2
  have u2 : Up s₂.heap H2 := hH2 ▸ Up.push _ _
  have z2 : H2.objs.size = s₂.heap.objs.size + 1 := by rw [← hH2,Heap.size_push]
  have hD2 : H2.get? s₂.heap.objs.size = some { cls := .type "list",data := .seq ([] : List Value).toArray } := by rw [← hH2]; exact Heap.get?_push_size _ rfl
  clear hH2
  generalize hH3 : H2.push { cls := .type "dict",dict := none,data := .dict #[] } = H3
  have u3 : Up H2 H3 := hH3 ▸ Up.push _ _
  have z3 : H3.objs.size = H2.objs.size + 1 := by rw [← hH3,Heap.size_push]
  have hC3 : H3.Ns H2.objs.size (fun _ => none) := by rw [← hH3]; exact Heap.Ns.new H2 (.type "dict")
  clear hH3
  rw [← z3]
  refine ob_AA (cells_facts (cl := capC env scope.names []) (h := H3) O.eoc O.ooc) fun f1 f2 u4 => ?_
  generalize cellsFrom H3.objs.size scope.names (capC env scope.names []) = cells at f1 f2
  generalize pushCells H3 scope.names = H4 at f2 u4
  show codeAny _ _ (.compStart (.ListComp elt [⟨tg,iter,ifs,0⟩] scope pos) 0 (.ref I) (.ref s₂.heap.objs.size) (compEnvC scope cells H2.objs.size env)) (RR (.ref s₂.heap.objs.size) H2.objs.size) _
  have u0 : Up s₀.heap s₂.heap := keeps_up k₂
  have lt0 : ∀ (b : Nat) o,s₀.heap.get? b = some o → b < s₂.heap.objs.size := fun b o e => Heap.lt_size (u0 b o e)
  have ltm : ∀ (b : Nat) o,hm.get? b = some o → b < s₂.heap.objs.size := fun b o e => Heap.lt_size (S.u₁ b o e)
  have ltf : ∀ b : Nat,b ∈ fp → b < s₂.heap.objs.size := fun b hb => Exists.elim (S.ex b hb) fun o ho => Heap.lt_size ho
  have hRR' := fun h' tk => hRR h' tk s₂.heap.objs.size H2.objs.size
  have l1 : s₂.heap.objs.size < H2.objs.size := Nat.le_of_eq z2.symm
  have l2 : H2.objs.size < H3.objs.size := Nat.le_of_eq z3.symm
  have u24 : Up s₂.heap H4 := u2.trans (u3.trans u4)
  have hD4 : H4.PlainList s₂.heap.objs.size ([] : List Value).toArray := ⟨_,u4 _ _ (u3 _ _ hD2)⟩
  have hC4 := hC3.keeps u4
  have st4 : St 0 H4 := S.W.frame _ _ _ S.st fun b _ o e => u24 b o e
  have capL : ∀ x ∈ cs,∀ c,env.cells.lookup x = some c → cells.lookup x = some c := fun x hx c hc => (f1 x (O.ecs x hx).2.2).trans (capC_lookup (cp_closure O Cc hσ) (O.ecs x hx).1 hc)
  clear hD2 z2 z3 u2 u3 u4 hC3 f1 hRR
  generalize H2.objs.size = C at *
  generalize H3.objs.size = HC at *
  generalize hD : s₂.heap.objs.size = D at *
  clear hD
  generalize hM : (C :: oc.map fun _ => HC) = M
  have F4 : Fm (cpTE T scope own cs) own.length (compEnvC scope cells C env) M H4 := comp_fm O Cc hσ f2 capL lt0 (Nat.lt_trans l1 l2) l2 (Nat.le_of_lt l1) hC4 (fun _ => rfl) rfl (show relab scope env.scope = _ by rw [Cc.sc]) hM
  have L : CpL D M Ex (fun b => Ex b ∨ b ∈ wr ∨ b = D ∨ b ∈ M) fp wr s₀.heap hm := ⟨lt0,ltm,ltf,fun b hb => by
    rw [← hM] at hb
    exact (List.mem_cons.mp hb).elim (fun e => e ▸ l1) fun hb => ob_EA (List.mem_map.mp hb) fun _ _ e => e ▸ Nat.lt_trans l1 l2,S.u₀,fun b o e hb => nos9 (S.new b hb) e,S.W.sub,Cc.bel,fun _ => Iff.rfl⟩
  have loop : ∀ s₃ : Shared,s₃ = { s₂ with heap := H4 } → codeAny (model prog w) A (.compLoop (.ListComp elt [⟨tg,iter,ifs,0⟩] scope pos) 0 (.ref I) (.ref D) (compEnvC scope cells C env)) (RR (.ref D) C) s₃ := by
    intro s₃ e
    subst e
    refine comp_loop L Tg Ts El Cc.a.hd (fun h σ' u F V B => ⟨Cc.a,F.sc,O.kind,Cc.gl,Cc.bi,Cc.tops.up u,V,B⟩) (fun h u g => caps_vars O Cc hσ capL u g) S hz (fun h' tk vs u F hl r => ?_) (.mk H4 _ 0 [] [] ys (Nat.zero_le _) st4 hD4 .nil (Nat.le_refl _) hr rfl ⟨F4,S.u₁.trans u24⟩)
    refine Exists.elim F.ns fun m hn => hRR' h' tk m vs (Nat.le_refl _) (Nat.le_of_lt l1) (Nat.ne_of_lt l1) (ob_EEA k₂ fun h t e _ => ⟨h',tk,by rw [e],u⟩) hn hl r
  exact codeAny_compStart_list (loop _ rfl) (S.self 0 _ _ _ st4 (loop _ rfl))
end
end
section
variable {prog : Program}
section
variable {K : Params → Frag} {n : Nat} {T : TE}
noncomputable def Fresh (s : Shared) (Ex : Addr → Prop) (ds : List D) (v : Value) (s' : Shared) : Prop :=
  ∃ (D : Addr) (vs : List Value),v = .ref D ∧ PySem.Keeps s s' ∧ s.heap.get? D = none ∧ ¬ Ex D ∧ s'.heap.PlainList D vs.toArray ∧ RepAll s'.heap (fun b => Ex b ∨ b = D) vs ds
noncomputable def DF (prog : Program) (K : Params → Frag) (n : Nat) (T : TE) (e : Expr) (f : Sto → Option (List D)) : Prop :=
  ∀ (w : World) (A : Around) (E : Value → Shared → Prop) (s : Shared) (env : Env) (Ex : Addr → Prop) (σ : Sto) (ds : List D),Cx (K w.params) n T A env Ex s.heap σ → f σ = some ds → wpAny (model prog w) A (eval e env) (Fresh s Ex ds) E s
theorem Fresh.got {s s' : Shared} {Ex : Addr → Prop} {ds : List D} {v : Value} (f : Fresh s Ex ds v s') : Got s Ex (.list ds) v s' := by
  (refine ob_EEAAAAA f fun D vs z1q k _ e l r => ?_; try clear f; obtain rfl := z1q)
  exact ⟨k,.list e l.isList (r.mono fun a o ha ho => ⟨fun q => ha (.inl q),ho⟩)⟩
theorem DF.toDE {e : Expr} {f : Sto → Option (List D)} (H : DF prog K n T e f) : DE prog K n T e (fun σ => (f σ).map .list) := fun w A E s env Ex σ d C hf => by
  (refine ob_EA (Option.map_eq_some_iff.mp hf) fun ds hd z2q => ?_; obtain rfl := z2q)
  exact wpAny_mono (H w A E s env Ex σ ds C hd) (fun v s' g => g.got) fun _ _ e => e
noncomputable def compF (k : Nat) (js : List Nat) (f : Sto → Option (List D)) (bnd : D → Sto → Option Sto) (ts : Sto → Option Bool) (el : Sto → Option D) (σ : Sto) : Option (List D) :=
  (f σ).bind fun ds => if ds.length ≤ sizeLine then (cpStore k js σ).bind fun σ₀ => compL (turnF bnd ts el σ₀) ds else none
theorem DF.comp {scope : Scope} {own oc : List Str} {js : List Nat} {cs : List Str} {elt tg iter : Expr} {ifs : List Expr} {pos : Pos} {f : Sto → Option (List D)} {bnd : D → Sto → Option Sto} {ts : Sto → Option Bool} {el : Sto → Option D}
    (O : CpOk T scope own oc js cs) (Hi : DI prog K n T tg iter f) (Tg : TgOk prog (cpTE T scope own cs) own.length tg bnd) (Ts : IfOk prog K n (cpTE T scope own cs) ifs ts) (El : DE prog K n (cpTE T scope own cs) elt el) :
    DF prog K n T (.ListComp elt [⟨tg,iter,ifs,0⟩] scope pos) (compF own.length js f bnd ts el) := fun w A E s env Ex σ ys C hf => by
  unfold compF at hf
  refine ob_EA (Option.bind_eq_some_iff.mp hf) fun ds hd hf => ?_
  split at hf
  · rename_i hz
    refine ob_EA (Option.bind_eq_some_iff.mp hf) fun σ₀ hσ hr => ?_
    rw [eval_ListComp]
    refine wpAny_comprehension_free (use := none) rfl (Hi.1 env) (closure_ok (cp_closure O C hσ)) O.kind O.names (wpAny_mono (Hi.2 w A E s env Ex σ ds C hd) (fun x s₁ h₁ => wpAny_mono h₁ (fun it s₂ h₂ => ?_) fun _ _ e => e) fun _ _ e => e)
    (refine ob_EEEEEEEAA h₂ fun I fp wr P Md St hm z3q k₂ S => ?_; try clear h₂; obtain rfl := z3q)
    refine comp_block (RR := fun acc C r s' => compPost (model prog w) A E none (Fresh s Ex ys) acc C r s') O Tg Ts El C hσ k₂ S hr hz fun h' tk D Ca m vs hD hC hne k hn hl r => ⟨m,hn,fun h'' hs'' => ?_⟩
    have lt : ∀ (b : Nat) o,s.heap.get? b = some o → b < s₂.heap.objs.size := fun b o e => Heap.lt_size (keeps_up k₂ b o e)
    have bs : Bel s₂.heap Ex := C.bel.up (keeps_up k₂)
    refine ⟨D,vs,rfl,?_,?_,fun e => Nat.not_lt.mpr hD (bs.lt e),hl.extBut hs''.extBut hne,r.mono fun a o e ho => ⟨fun q => ?_,hs''.extBut a o (fun q => e (.inr (.inr q))) ho⟩⟩
    · (refine ob_EEA k fun h₂ t₂ e₂ u₂ => ?_; try clear k)
      exact ⟨h'',tk,by
        have := congrArg (fun s : Shared => { s with heap := h'',toks := tk }) e₂
        exact this,fun b o e => hs''.extBut b o (fun q => Nat.not_lt.mpr hC (q ▸ lt b o e)) (by
        have : h' = h₂ := congrArg Shared.heap e₂
        rw [this]; exact u₂ b o e)⟩
    · cases e : s.heap.get? D with
      | none => rfl
      | some o => exact absurd (lt D o e) (Nat.not_lt.mpr hD)
    · rcases q with q | q
      · exact e (.inl q)
      · exact e (.inr (.inl q))
  · cases hf
end
end
section
variable {prog : Program}
noncomputable def Exf (Ex₀ : Addr → Prop) (M : List Addr) (ω : Nat → Option Addr) : Addr → Prop := fun b => Ex₀ b ∨ b ∈ M ∨ ∃ i,ω i = some b
noncomputable def VarOk (env : Env) (h : Heap) (Ex : Addr → Prop) (ω : Nat → Option Addr) (i : Nat) (x : Str) : Option Cell → Prop
  | none => True
  | some (.fz d) => ∃ v,Bound h env x v ∧ Rep h Ex v d
  | some (.ow ds) => ∃ (a : Addr) (vs : List Value),ω i = some a ∧ Bound h env x (.ref a) ∧ h.PlainList a vs.toArray ∧ RepAll h Ex vs ds
structure FS (K : Frag) (n : Nat) (T : TE) (A : Around) (env : Env) (Ex₀ : Addr → Prop) (M : List Addr) (h₀ : Heap) (ω : Nat → Option Addr) (h : Heap) (σ : Sto) : Prop where
  a : AOk n A
  gl : env.globals = mainGlobals
  bi : env.builtins = builtinsNs
  fm : Fm T T.vars.length env M h
  tops : Tops K h₀
  up : Up h₀ h
  bel : Bel h Ex₀
  m0 : ∀ b ∈ M,h₀.get? b = none
  own : ∀ i a,ω i = some a → h₀.get? a = none ∧ ¬ Ex₀ a ∧ a ∉ M ∧ ∃ o,h.get? a = some o
  inj : ∀ i j a,ω i = some a → ω j = some a → i = j
  vars : ∀ i x,T.vars[i]? = some x → VarOk env h (Exf Ex₀ M ω) ω i x (look σ i)
noncomputable def fzs (σ : Sto) : Sto := σ.map fun c => match c with
  | some (.fz d) => some (.fz d)
  | _ => none
theorem look_fzs : ∀ (σ : Sto) (i : Nat),look (fzs σ) i = (match look σ i with | some (.fz d) => some (.fz d) | _ => none)
  | [],i => rfl
  | c :: r,0 => rfl
  | c :: r,i + 1 => look_fzs r i
theorem get_fzs {σ : Sto} {i : Nat} {d : D} (h : (fzs σ).get i = some d) : look σ i = some (.fz d) := by
  unfold Sto.get at h
  rw [look_fzs] at h
  cases e : look σ i with
  | none => rw [e] at h; cases h
  | some c =>
    rw [e] at h
    cases c with
    | fz d' => cases h; rfl
    | ow ds => cases h
section
variable {K : Frag} {n : Nat} {T : TE} {A : Around} {env : Env} {Ex₀ : Addr → Prop} {M : List Addr} {h₀ h h' : Heap} {ω : Nat → Option Addr} {σ : Sto}
theorem VarOk.mono {env : Env} {h h' : Heap} {Ex Ex' : Addr → Prop} {ω ω' : Nat → Option Addr} {i : Nat} {x : Str} {c : Option Cell} (V : VarOk env h Ex ω i x c) (hb : ∀ v,Bound h env x v → Bound h' env x v) (hw : ∀ a,ω i = some a → ω' i = some a) (hp : ∀ a its,ω i = some a → h.PlainList a its → h'.PlainList a its) (g : Grow h Ex h' Ex') : VarOk env h' Ex' ω' i x c := by
  match c,V with
  | none,_ => trivial
  | some (.fz d),⟨v,b,r⟩ => exact ⟨v,hb v b,r.mono g⟩
  | some (.ow ds),⟨a,vs,e,b,l,r⟩ => exact ⟨a,vs,hw a e,hb _ b,hp a _ e l,r.mono g⟩
theorem FS.keep (F : FS K n T A env Ex₀ M h₀ ω h σ) (u : Up h h') : FS K n T A env Ex₀ M h₀ ω h' σ :=
  ⟨F.a,F.gl,F.bi,F.fm.up u,F.tops,F.up.trans u,F.bel.up u,F.m0,fun i a e => let ⟨x,y,z,o,ho⟩ := F.own i a e; ⟨x,y,z,o,u a o ho⟩,F.inj,fun i x hx => (F.vars i x hx).mono (fun v b => b.up u) (fun a e => e) (fun a its e l => l.at fun o ho => u a o ho) u.grow⟩
theorem FS.belS (F : FS K n T A env Ex₀ M h₀ ω h σ) : Bel h (fun b => Ex₀ b ∨ b ∈ M) := fun a e => by
  rcases e with e | e
  · exact F.bel a e
  · refine ob_E (F.fm.all a e) fun o ho => ?_; exact ⟨a,o,Nat.le_refl _,ho⟩
theorem FS.belF (F : FS K n T A env Ex₀ M h₀ ω h σ) : Bel h (Exf Ex₀ M ω) := fun a e => by
  rcases e with e | e | ⟨i,e⟩
  · exact F.bel a e
  · refine ob_E (F.fm.all a e) fun o ho => ?_; exact ⟨a,o,Nat.le_refl _,ho⟩
  · refine ob_AAAE (F.own i a e) fun _ _ _ o ho => ?_; exact ⟨a,o,Nat.le_refl _,ho⟩
theorem FS.cxF (F : FS K n T A env Ex₀ M h₀ ω h σ) : Cx K n T A env (Exf Ex₀ M ω) h (fzs σ) :=
  ⟨F.a,F.fm.sc,F.fm.kd,F.gl,F.bi,F.tops.up F.up,fun i x d hx hd => by
    have V := F.vars i x hx
    rw [get_fzs hd] at V
    exact V,F.belF⟩
theorem FS.cxS (F : FS K n T A env Ex₀ M h₀ ω h σ) : Cx K n T A env (fun b => Ex₀ b ∨ b ∈ M) h σ :=
  ⟨F.a,F.fm.sc,F.fm.kd,F.gl,F.bi,F.tops.up F.up,fun i x d hx hd => by
    have V := F.vars i x hx
    have g : Grow h (Exf Ex₀ M ω) h (fun b => Ex₀ b ∨ b ∈ M) := fun a o e ho => ⟨fun q => e (q.imp id .inl),ho⟩
    unfold Sto.get at hd
    cases e : look σ i with
    | none => rw [e] at hd; cases hd
    | some c =>
      rw [e] at hd V
      cases hd
      match c,V with
      | .fz d,⟨v,b,r⟩ => exact ⟨v,b,r.mono g⟩
      | .ow ds,⟨a,vs,ea,b,l,r⟩ =>
        refine ob_AAA (F.own i a ea) fun _ e1 e2 _ => ?_
        exact ⟨.ref a,b,.list (fun q => q.elim e1 e2) l.isList (r.mono g)⟩,F.belS⟩
noncomputable def wdel (ω : Nat → Option Addr) (i : Nat) : Nat → Option Addr := fun j => if j = i then none else ω j
noncomputable def wset (ω : Nat → Option Addr) (i : Nat) (a : Addr) : Nat → Option Addr := fun j => if j = i then some a else ω j
theorem wdel_some {ω : Nat → Option Addr} {i j : Nat} {a : Addr} (h : wdel ω i j = some a) : j ≠ i ∧ ω j = some a := by
  unfold wdel at h
  split at h
  · cases h
  · exact ⟨by assumption,h⟩
theorem wset_some {ω : Nat → Option Addr} {i j : Nat} {a b : Addr} (h : wset ω i a j = some b) : (j = i ∧ a = b) ∨ (j ≠ i ∧ ω j = some b) := by
  unfold wset at h
  split at h
  · exact .inl ⟨by assumption,Option.some.inj h⟩
  · exact .inr ⟨by assumption,h⟩
theorem grow_del {Ex₀ : Addr → Prop} {M : List Addr} {ω : Nat → Option Addr} (h : Heap) (i : Nat) : Grow h (Exf Ex₀ M ω) h (Exf Ex₀ M (wdel ω i)) := fun a o e ho => ⟨fun q => e (by
  rcases q with q | q | ⟨j,q⟩
  · exact .inl q
  · exact .inr (.inl q)
  · exact .inr (.inr ⟨j,(wdel_some q).2⟩)),ho⟩
theorem FS.freeze (F : FS K n T A env Ex₀ M h₀ ω h σ) {i : Nat} {ds : List D} (hi : look σ i = some (.ow ds)) : FS K n T A env Ex₀ M h₀ (wdel ω i) h (put σ i (some (.fz (.list ds)))) := by
  refine ⟨F.a,F.gl,F.bi,F.fm,F.tops,F.up,F.bel,F.m0,fun j a e => F.own j a (wdel_some e).2,fun j k a e f => F.inj j k a (wdel_some e).2 (wdel_some f).2,fun j x hx => ?_⟩
  have V := F.vars j x hx
  rw [look_put]
  by_cases e : i = j
  · subst e
    rw [hi] at V
    (refine ob_EEAAA V fun a vs ea b l r => ?_; try clear V)
    have hl : i < σ.length := by
      have : ∀ (σ : Sto) (i : Nat) (c : Cell),look σ i = some c → i < σ.length := by
        intro σ
        induction σ with
        | nil => intro i c h; cases h
        | cons y σ ih =>
          intro i c h
          cases i with
          | zero => exact Nat.succ_pos _
          | succ i => exact Nat.succ_lt_succ (ih i c h)
      exact this σ i _ hi
    rw [if_pos ⟨rfl,hl⟩]
    refine ob_AAA (F.own i a ea) fun _ e1 e2 _ => ?_
    refine ⟨.ref a,b,.list (fun q => ?_) l.isList (r.mono (grow_del h i))⟩
    rcases q with q | q | ⟨j,q⟩
    · exact e1 q
    · exact e2 q
    · exact (wdel_some q).1 (F.inj j i a (wdel_some q).2 ea)
  · rw [if_neg fun q => e q.1]
    exact V.mono (fun v b => b) (fun a ea => by unfold wdel; rw [if_neg fun q => e q.symm]; exact ea) (fun a its _ l => l) (grow_del h i)
end
noncomputable def After (s s' : Shared) (M : List Addr) (ω ω' : Nat → Option Addr) : Prop :=
  (∃ h' tk,s' = { s with heap := h',toks := tk }) ∧ (∀ b o,b ∉ M → (∀ i,ω i ≠ some b) → s.heap.get? b = some o → s'.heap.get? b = some o) ∧ (∀ i a,ω' i = some a → a ∈ M ∨ (∃ j,ω j = some a) ∨ s.heap.get? a = none) ∧ ∀ b o,s.heap.get? b = some o → ∃ o',s'.heap.get? b = some o'
theorem After.refl (s : Shared) (M : List Addr) (ω : Nat → Option Addr) : After s s M ω ω := ⟨⟨s.heap,s.toks,rfl⟩,fun _ _ _ _ e => e,fun i a e => .inr (.inl ⟨i,e⟩),fun b o e => ⟨o,e⟩⟩
theorem After.trans {s s₁ s₂ : Shared} {M : List Addr} {ω ω₁ ω₂ : Nat → Option Addr} (a : After s s₁ M ω ω₁) (b : After s₁ s₂ M ω₁ ω₂) : After s s₂ M ω ω₂ := by
  (refine ob_AAA a fun z1q k₁ n₁ x₁ => ?_; try clear a; obtain ⟨h₁,t₁,rfl⟩ := z1q)
  (refine ob_AAA b fun z2q k₂ n₂ x₂ => ?_; try clear b; obtain ⟨h₂,t₂,rfl⟩ := z2q)
  refine ⟨⟨h₂,t₂,rfl⟩,fun c o hM hω e => k₂ c o hM (fun i q => ?_) (k₁ c o hM hω e),fun i c e => ?_,fun c o e => let ⟨o',e'⟩ := x₁ c o e; x₂ c o' e'⟩
  · rcases n₁ i c q with x | ⟨j,hj⟩ | x
    · exact hM x
    · exact hω j hj
    · rw [e] at x; cases x
  · rcases n₂ i c e with x | ⟨j,hj⟩ | x
    · exact .inl x
    · exact n₁ j c hj
    · by_cases hc : c ∈ M
      · exact .inl hc
      · by_cases hw : ∃ i,ω i = some c
        · exact .inr (.inl hw)
        · cases e' : s.heap.get? c with
          | none => exact .inr (.inr rfl)
          | some o =>
            have := k₁ c o hc (fun i q => hw ⟨i,q⟩) e'
            rw [this] at x; cases x
theorem After.keeps {s s₁ : Shared} {M : List Addr} {ω : Nat → Option Addr} (k : PySem.Keeps s s₁) : After s s₁ M ω ω := by
  (refine ob_EEA k fun h t z3q u => ?_; try clear k; obtain rfl := z3q)
  exact ⟨⟨h,t,rfl⟩,fun b o _ _ e => u b o e,fun i a e => .inr (.inl ⟨i,e⟩),fun b o e => ⟨o,u b o e⟩⟩
section
variable {K : Frag} {n : Nat} {T : TE} {A : Around} {env : Env} {Ex₀ : Addr → Prop} {M : List Addr} {h₀ : Heap} {ω : Nat → Option Addr} {σ : Sto} {w : World} {E : Value → Shared → Prop} {s s₁ : Shared}
theorem look_put_ne {σ : Sto} {i j : Nat} {c : Option Cell} (h : j ≠ i) : look (put σ i c) j = look σ j := by
  rw [look_put,if_neg fun q => h q.1.symm]
theorem VarOk.put {env : Env} {h : Heap} {Ex : Addr → Prop} {ω : Nat → Option Addr} {i : Nat} {x : Str} {c : Cell} (V : VarOk env h Ex ω i x (some c)) : VarOk env h Ex ω i x (look (put σ i (some c)) i) := by
  rw [look_put]
  by_cases l : i < σ.length
  · rw [if_pos ⟨rfl,l⟩]; exact V
  · rw [if_neg fun q => l q.2]
    have : ∀ (σ : Sto) (i : Nat), ¬ i < σ.length → look σ i = none := by
      intro σ
      induction σ with
      | nil => intros; rfl
      | cons a σ ih =>
        intro i hi
        cases i with
        | zero => exact absurd (Nat.succ_pos _) hi
        | succ i => exact ih i fun q => hi (Nat.succ_lt_succ q)
    rw [this σ i l]
    trivial
theorem lt_of_get {T : TE} {i : Nat} {x : Str} (hx : T.vars[i]? = some x) : i < T.vars.length := (List.getElem?_eq_some_iff.mp hx).1
theorem bel_store {h h' : Heap} {Ex : Addr → Prop} {M : List Addr} (b : Bel h Ex) (u : UpBut M h h') (al : ∀ c ∈ M,∃ o,h'.get? c = some o) : Bel h' Ex := fun a e => by
  refine ob_EEA (b a e) fun c o l ho => ?_
  by_cases hc : c ∈ M
  · refine ob_E (al c hc) fun o' ho' => ?_
    exact ⟨c,o',l,ho'⟩
  · exact ⟨c,o,l,u c o hc ho⟩
theorem ex_store {h h' : Heap} {M : List Addr} (u : UpBut M h h') (al : ∀ c ∈ M,∃ o,h'.get? c = some o) : ∀ b o,h.get? b = some o → ∃ o',h'.get? b = some o' := fun b o e => by
  by_cases hc : b ∈ M
  · exact al b hc
  · exact ⟨o,u b o hc e⟩
theorem FS.setFzU (F : FS K n T A env Ex₀ M h₀ ω s.heap σ) {i : Nat} {x : Str} (hx : T.vars[i]? = some x) {v : Value} {d : D} (r : Rep s.heap (Exf Ex₀ M ω) v d) {Q : Unit → Shared → Prop}
    (h : ∀ h' tk,UpBut M s.heap h' → After s { s with heap := h',toks := tk } M ω (wdel ω i) → FS K n T A env Ex₀ M h₀ (wdel ω i) h' (Internal.put σ i (some (.fz d))) → Q () { s with heap := h',toks := tk }) :
    wpAny (model prog w) A (storeName env x v) Q E s := F.fm.store (lt_of_get hx) hx fun h' tk u F' b o => by
  have g : Grow s.heap (Exf Ex₀ M ω) h' (Exf Ex₀ M (wdel ω i)) := fun a ob e ho => ⟨((grow_del s.heap i) a ob e ho).1,u a ob (fun q => e (.inr (.inl q))) ho⟩
  have lv : ∀ a o,a ∉ M → s.heap.get? a = some o → h'.get? a = some o := u
  refine h h' tk u ⟨⟨h',tk,rfl⟩,fun c o hc _ e => u c o hc e,fun j a e => .inr (.inl ⟨j,(wdel_some e).2⟩),ex_store u F'.all⟩ ⟨F.a,F.gl,F.bi,F',F.tops,fun c o e => u c o (fun q => by rw [F.m0 c q] at e; cases e) (F.up c o e),bel_store F.bel u F'.all,F.m0,fun j a e => ?_,fun j k a e f => F.inj j k a (wdel_some e).2 (wdel_some f).2,fun j y hy => ?_⟩
  · refine ob_AAAE (F.own j a (wdel_some e).2) fun e1 e2 e3 o ho => ?_
    exact ⟨e1,e2,e3,o,u a o e3 ho⟩
  · by_cases e : j = i
    · subst e
      rw [hx] at hy
      cases hy
      exact VarOk.put ⟨v,b,r.mono g⟩
    · rw [look_put_ne e]
      exact (F.vars j y hy).mono (fun v b => o j y v hy e b) (fun a ea => by unfold wdel; rw [if_neg e]; exact ea) (fun a its ea l => l.at fun ob ho => u a ob (F.own j a ea).2.2.1 ho) g
theorem FS.setFz (F : FS K n T A env Ex₀ M h₀ ω s.heap σ) {i : Nat} {x : Str} (hx : T.vars[i]? = some x) {v : Value} {d : D} (r : Rep s.heap (Exf Ex₀ M ω) v d) {Q : Unit → Shared → Prop}
    (h : ∀ h' tk,After s { s with heap := h',toks := tk } M ω (wdel ω i) → FS K n T A env Ex₀ M h₀ (wdel ω i) h' (Internal.put σ i (some (.fz d))) → Q () { s with heap := h',toks := tk }) :
    wpAny (model prog w) A (storeName env x v) Q E s := F.setFzU hx r fun h' tk _ a F' => h h' tk a F'
theorem FS.setOw (F : FS K n T A env Ex₀ M h₀ ω s.heap σ) {i : Nat} {x : Str} (hx : T.vars[i]? = some x) (k : PySem.Keeps s s₁) {D : Addr} {vs : List Value} {ds : List Internal.D} (hD : s.heap.get? D = none) (eD : ¬ Exf Ex₀ M ω D) (l : s₁.heap.PlainList D vs.toArray) (r : RepAll s₁.heap (fun b => Exf Ex₀ M ω b ∨ b = D) vs ds) {Q : Unit → Shared → Prop}
    (h : ∀ h' tk,After s { s₁ with heap := h',toks := tk } M ω (wset ω i D) → FS K n T A env Ex₀ M h₀ (wset ω i D) h' (Internal.put σ i (some (.ow ds))) → Q () { s₁ with heap := h',toks := tk }) :
    wpAny (model prog w) A (storeName env x (.ref D)) Q E s₁ := by
  have F₁ := F.keep (keeps_up k)
  refine F₁.fm.store (lt_of_get hx) hx fun h' tk u F' b o => ?_
  have old : ∀ a o,s.heap.get? a = some o → a ≠ D := fun a o e q => by rw [q,hD] at e; cases e
  have eD' : D ∉ M := fun q => eD (.inr (.inl q))
  have exf : ∀ a,Exf Ex₀ M (wset ω i D) a → Exf Ex₀ M ω a ∨ a = D := fun a q => by
    rcases q with q | q | ⟨j,q⟩
    · exact .inl (.inl q)
    · exact .inl (.inr (.inl q))
    · rcases wset_some q with ⟨_,rfl⟩ | ⟨_,q⟩
      · exact .inr rfl
      · exact .inl (.inr (.inr ⟨j,q⟩))
  have g : Grow s.heap (Exf Ex₀ M ω) h' (Exf Ex₀ M (wset ω i D)) := fun a ob e ho => ⟨fun q => (exf a q).elim e (old a ob ho),u a ob (fun q => e (.inr (.inl q))) (keeps_up k a ob ho)⟩
  have g₁ : Grow s₁.heap (fun b => Exf Ex₀ M ω b ∨ b = D) h' (Exf Ex₀ M (wset ω i D)) := fun a ob e ho => ⟨fun q => e (exf a q),u a ob (fun q => e (.inl (.inr (.inl q)))) ho⟩
  have hD₀ : h₀.get? D = none := by
    cases e : h₀.get? D with
    | none => rfl
    | some ob => rw [F.up D ob e] at hD; cases hD
  have l' : h'.PlainList D vs.toArray := l.at fun ob ho => u D ob eD' ho
  have aft : After s { s₁ with heap := h',toks := tk } M ω (wset ω i D) := by
    (refine ob_EEA k fun h₂ t₂ z4q u₂ => ?_; try clear k; obtain rfl := z4q)
    refine ⟨⟨h',tk,rfl⟩,fun c o hc _ e => u c o hc (u₂ c o e),fun j a e => ?_,fun c o e => ex_store u F'.all c o (u₂ c o e)⟩
    rcases wset_some e with ⟨_,rfl⟩ | ⟨_,e⟩
    · exact .inr (.inr hD)
    · exact .inr (.inl ⟨j,e⟩)
  refine h h' tk aft ⟨F.a,F.gl,F.bi,F',F.tops,fun c o e => u c o (fun q => by rw [F.m0 c q] at e; cases e) (F₁.up c o e),bel_store F₁.bel u F'.all,F.m0,fun j a e => ?_,fun j k' a e f => ?_,fun j y hy => ?_⟩
  · rcases wset_some e with ⟨_,rfl⟩ | ⟨_,e⟩
    · (refine ob_E l' fun nn ho => ?_; try clear l')
      exact ⟨hD₀,fun q => eD (.inl q),eD',_,ho⟩
    · refine ob_AAAE (F₁.own j a e) fun e1 e2 e3 o ho => ?_
      exact ⟨e1,e2,e3,o,u a o e3 ho⟩
  · rcases wset_some e with ⟨hj,e⟩ | ⟨hj,e⟩ <;> rcases wset_some f with ⟨hk,f⟩ | ⟨hk,f⟩
    · rw [hj,hk]
    · exact absurd (.inr (.inr ⟨k',e ▸ f⟩)) eD
    · exact absurd (.inr (.inr ⟨j,f ▸ e⟩)) eD
    · exact F.inj j k' a e f
  · by_cases e : j = i
    · subst e
      rw [hx] at hy
      cases hy
      exact VarOk.put ⟨D,vs,by unfold wset; rw [if_pos rfl],b,l',r.mono g₁⟩
    · rw [look_put_ne e]
      exact (F.vars j y hy).mono (fun v b => o j y v hy e (b.up (keeps_up k))) (fun a ea => by unfold wset; rw [if_neg e]; exact ea) (fun a its ea l => l.at fun ob ho => u a ob (F.own j a ea).2.2.1 (keeps_up k a ob ho)) g
theorem FS.setIn (F : FS K n T A env Ex₀ M h₀ ω s.heap σ) {i : Nat} {a : Addr} {ds : List D} {vs : List Value} {h' : Heap} (hi : ω i = some a) (hs : Heap.SameBut a s.heap h') (l : h'.PlainList a vs.toArray) (r : RepAll s.heap (Exf Ex₀ M ω) vs ds) (hl : ∃ ds₀,look σ i = some (.ow ds₀)) :
    FS K n T A env Ex₀ M h₀ ω h' (Internal.put σ i (some (.ow ds))) := by
  refine ob_AAAE (F.own i a hi) fun e1 e2 e3 o₀ ho₀ => ?_
  have u : ∀ b o,b ≠ a → s.heap.get? b = some o → h'.get? b = some o := fun b o hb e => (hs.2 b hb).trans e
  have exA : ∃ o,h'.get? a = some o := let ⟨n,e⟩ := l; ⟨_,e⟩
  have g : Grow s.heap (Exf Ex₀ M ω) h' (Exf Ex₀ M ω) := fun b ob e ho => ⟨e,u b ob (fun q => e (.inr (.inr ⟨i,q ▸ hi⟩))) ho⟩
  have ex : ∀ b o,s.heap.get? b = some o → ∃ o,h'.get? b = some o := fun b o e => sameBut_all hs exA ⟨o,e⟩
  have bu : ∀ x v,Bound s.heap env x v → x ∈ T.vars → Bound h' env x v := fun x v b hx => by
    refine ob_E (List.mem_iff_getElem?.mp hx) fun j hj => ?_
    rcases b with ⟨c,m,hn,e⟩ | ⟨c,cc,hc,hv⟩
    · exact .inl ⟨c,m,hn.at' fun o ho => u _ o (fun q => e3 (q ▸ F.fm.lm)) ho,e⟩
    · refine .inr ⟨c,cc,hc,?_⟩
      (refine ob_EA hv fun o ho hd => ?_; try clear hv)
      refine ⟨o,u cc o (fun q => ?_) ho,hd⟩
      rcases F.fm.own j x (lt_of_get hj) hj with h | ⟨h,c',hc',hm,_⟩
      · have : env.kindOf x = T.sc.names.lookup x := by show env.scope.names.lookup x = _; rw [F.fm.sc]
        rw [this,h] at c; cases c
      · rw [hc'] at hc
        cases hc
        exact e3 (q ▸ hm)
  refine ⟨F.a,F.gl,F.bi,F.fm.at fun b hb o e => u b o (fun q => e3 (q ▸ hb)) e,F.tops,fun c o e => u c o (fun q => by rw [q,e1] at e; cases e) (F.up c o e),fun b e => ?_,F.m0,fun j b e => ?_,F.inj,fun j y hy => ?_⟩
  · refine ob_EEA (F.bel b e) fun c o lc ho => ?_
    refine ob_E (ex c o ho) fun o' ho' => ?_
    exact ⟨c,o',lc,ho'⟩
  · refine ob_AAAE (F.own j b e) fun x1 x2 x3 o ho => ?_
    exact ⟨x1,x2,x3,ex b o ho⟩
  · have V := F.vars j y hy
    have hym := List.mem_of_getElem? hy
    by_cases e : j = i
    · subst e
      (refine ob_E hl fun ds₀ hd₀ => ?_; try clear hl)
      rw [hd₀] at V
      (refine ob_EEAAA V fun a' vs' ea b _ _ => ?_; try clear V)
      rw [hi] at ea
      cases ea
      exact VarOk.put ⟨a,vs,hi,bu y _ b hym,l,r.mono g⟩
    · rw [look_put_ne e]
      exact V.mono (fun v b => bu y v b hym) (fun c ec => ec) (fun c its ec lc => lc.at fun ob ho => u c ob (fun q => e (F.inj j i a (q ▸ ec) hi)) ho) g
end
inductive PF where
  | next (σ : Sto)
  | ret (d : D)
noncomputable def Post (K : Frag) (n : Nat) (T : TE) (A : Around) (env : Env) (Ex₀ : Addr → Prop) (M : List Addr) (h₀ : Heap) (ω : Nat → Option Addr) (s : Shared) (r : PF) (f : Flow) (s' : Shared) : Prop :=
  ∃ ω',After s s' M ω ω' ∧ match r with
    | .next σ' => f = .next ∧ FS K n T A env Ex₀ M h₀ ω' s'.heap σ'
    | .ret d => ∃ v,f = .ret v ∧ Rep s'.heap Ex₀ v d
noncomputable def DX (prog : Program) (K : Params → Frag) (n : Nat) (T : TE) (X : Env → Sem Flow) (g : Sto → Option PF) : Prop :=
  ∀ (w : World) (A : Around) (s : Shared) (env : Env) (Ex₀ : Addr → Prop) (M : List Addr) (h₀ : Heap) (ω : Nat → Option Addr) (σ : Sto) (r : PF),FS (K w.params) n T A env Ex₀ M h₀ ω s.heap σ → g σ = some r →
    wpAny (model prog w) A (X env) (Post (K w.params) n T A env Ex₀ M h₀ ω s r) (fun _ _ => False) s
noncomputable abbrev DS (prog : Program) (K : Params → Frag) (n : Nat) (T : TE) (st : Stmt) (g : Sto → Option PF) : Prop := DX prog K n T (exec st) g
noncomputable abbrev DB (prog : Program) (K : Params → Frag) (n : Nat) (T : TE) (b : List Stmt) (g : Sto → Option PF) : Prop := DX prog K n T (execs b) g
section
variable {K : Params → Frag} {n : Nat} {T : TE}
theorem DB.nil : DB prog K n T [] (fun σ => some (.next σ)) := by
  intro w A s env Ex₀ M h₀ ω σ r F hg
  cases hg
  exact wpAny_execs_nil ⟨ω,After.refl _ _ _,rfl,F⟩
noncomputable def seqF (f g : Sto → Option PF) (σ : Sto) : Option PF := (f σ).bind fun r => match r with
  | .next σ' => g σ'
  | .ret d => some (.ret d)
theorem DB.cons {st : Stmt} {b : List Stmt} {f g : Sto → Option PF} (h : DS prog K n T st f) (hb : DB prog K n T b g) : DB prog K n T (st :: b) (seqF f g) := by
  intro w A s env Ex₀ M h₀ ω σ r F hg
  refine ob_EA (Option.bind_eq_some_iff.mp hg) fun r₁ h₁ hg => ?_
  refine wpAny_execs_cons (wpAny_mono (h w A s env Ex₀ M h₀ ω σ r₁ F h₁) (fun fl s₁ p => ?_) fun _ _ e => e)
  refine ob_EA p fun ω₁ a₁ p => ?_
  cases r₁ with
  | ret d =>
    cases hg
    (refine ob_EA p fun v z5q r => ?_; try clear p; obtain rfl := z5q)
    exact ⟨ω₁,a₁,v,rfl,r⟩
  | next σ₁ =>
    (refine ob_A p fun z6q F₁ => ?_; try clear p; obtain rfl := z6q)
    refine wpAny_mono (hb w A s₁ env Ex₀ M h₀ ω₁ σ₁ r F₁ hg) (fun fl s₂ p => ?_) fun _ _ e => e
    refine ob_EA p fun ω₂ a₂ p => ?_
    exact ⟨ω₂,a₁.trans a₂,p⟩
noncomputable def ifF (t : Sto → Option Bool) (f g : Sto → Option PF) (σ : Sto) : Option PF := (t σ).bind fun b => if b then f σ else g σ
theorem DS.ite {t : Expr} {b e : List Stmt} {pos : Pos} {tf : Sto → Option Bool} {f g : Sto → Option PF} (ht : DT prog K n T t tf) (hb : DB prog K n T b f) (he : DB prog K n T e g) : DS prog K n T (.If t b e pos) (ifF tf f g) := by
  intro w A s env Ex₀ M h₀ ω σ r F hg
  refine ob_EA (Option.bind_eq_some_iff.mp hg) fun c hc hg => ?_
  refine wpAny_If (ht.use F.cxS hc fun s₁ k₁ _ => ?_)
  have F₁ := F.keep (keeps_up k₁)
  cases c with
  | true => exact wpAny_mono (hb w A s₁ env Ex₀ M h₀ ω σ r F₁ hg) (fun fl s₂ p => let ⟨ω',a,p⟩ := p; ⟨ω',(After.keeps k₁).trans a,p⟩) fun _ _ e => e
  | false => exact wpAny_mono (he w A s₁ env Ex₀ M h₀ ω σ r F₁ hg) (fun fl s₂ p => let ⟨ω',a,p⟩ := p; ⟨ω',(After.keeps k₁).trans a,p⟩) fun _ _ e => e
theorem DS.ret {e : Expr} {pos : Pos} {f : Sto → Option D} (h : DE prog K n T e f) : DS prog K n T (.Return (some e) pos) (fun σ => (f σ).map .ret) := by
  intro w A s env Ex₀ M h₀ ω σ r F hg
  (refine ob_EA (Option.map_eq_some_iff.mp hg) fun d hd z7q => ?_; obtain rfl := z7q)
  exact wpAny_Return_some (h.use F.cxS hd fun v s₁ k₁ _ r => ⟨ω,After.keeps k₁,v,rfl,r.mono fun a o e ho => ⟨fun q => e (.inl q),ho⟩⟩)
end
end
section
variable {prog : Program}
section
variable {K : Frag} {n : Nat} {T : TE} {A : Around} {env : Env} {Ex₀ : Addr → Prop} {M : List Addr} {h₀ h h' : Heap} {ω : Nat → Option Addr} {σ : Sto}
theorem Fm.bound {k : Nat} (F : Fm T k env M h) (hk : T.vars.length ≤ k) {x : Str} (hx : x ∈ T.vars) {v : Value} (b : Bound h env x v) (u : ∀ c ∈ M,∀ o,h.get? c = some o → h'.get? c = some o) : Bound h' env x v := by
  refine ob_E (List.mem_iff_getElem?.mp hx) fun j hj => ?_
  rcases b with ⟨c,m,hn,e⟩ | ⟨c,cc,hc,hv⟩
  · exact .inl ⟨c,m,hn.at' fun o ho => u _ F.lm o ho,e⟩
  · refine .inr ⟨c,cc,hc,?_⟩
    (refine ob_EA hv fun o ho hd => ?_; try clear hv)
    refine ⟨o,u cc ?_ o ho,hd⟩
    rcases F.own j x (Nat.lt_of_lt_of_le (lt_of_get hj) hk) hj with h | ⟨h,c',hc',hm,_⟩
    · have : env.kindOf x = T.sc.names.lookup x := by show env.scope.names.lookup x = _; rw [F.sc]
      rw [this,h] at c; cases c
    · rw [hc'] at hc
      cases hc
      exact hm
theorem FS.grow (F : FS K n T A env Ex₀ M h₀ ω h σ) {X : Addr → Prop} (u : Up h h') (hX : ∀ b,X b → h.get? b = none) (hb : Bel h' (fun b => Ex₀ b ∨ X b)) : FS K n T A env (fun b => Ex₀ b ∨ X b) M h₀ ω h' σ := by
  have F' := F.keep u
  have nX : ∀ a o,h.get? a = some o → ¬ X a := fun a o e q => by rw [hX a q] at e; cases e
  have g : Grow h (Exf Ex₀ M ω) h' (Exf (fun b => Ex₀ b ∨ X b) M ω) := fun a o e ho => ⟨fun q => by
    rcases q with (q | q) | q | q
    · exact e (.inl q)
    · exact nX a o ho q
    · exact e (.inr (.inl q))
    · exact e (.inr (.inr q)),u a o ho⟩
  exact ⟨F.a,F.gl,F.bi,F'.fm,F.tops,F'.up,hb,F.m0,fun i a e => let ⟨x,y,z,o,ho⟩ := F.own i a e; ⟨x,fun q => q.elim y (nX a o ho),z,o,u a o ho⟩,F.inj,
    fun i x hx => (F.vars i x hx).mono (fun v b => b.up u) (fun a e => e) (fun a its e l => l.at fun o ho => u a o ho) g⟩
theorem FS.shrink {Ex₁ : Addr → Prop} (F : FS K n T A env Ex₁ M h₀ ω h σ) (s : ∀ a,Ex₀ a → Ex₁ a) : FS K n T A env Ex₀ M h₀ ω h σ :=
  ⟨F.a,F.gl,F.bi,F.fm,F.tops,F.up,fun a e => F.bel a (s a e),F.m0,fun i a e => let ⟨x,y,z⟩ := F.own i a e; ⟨x,fun q => y (s a q),z⟩,F.inj,
    fun i x hx => (F.vars i x hx).mono (fun v b => b) (fun a e => e) (fun a its e l => l) fun a o e ho => ⟨fun q => e (q.imp (s a) id),ho⟩⟩
theorem FS.chg (F : FS K n T A env Ex₀ M h₀ ω h σ) {X : Addr → Prop} (hX : ∀ b,X b → Ex₀ b ∧ b ∉ M ∧ h₀.get? b = none) (u : ∀ b o, ¬ X b → h.get? b = some o → h'.get? b = some o) (hb : Bel h' Ex₀) : FS K n T A env Ex₀ M h₀ ω h' σ := by
  have uM : ∀ c ∈ M,∀ o,h.get? c = some o → h'.get? c = some o := fun c hc o e => u c o (fun q => (hX c q).2.1 hc) e
  have uW : ∀ i a,ω i = some a → ∀ o,h.get? a = some o → h'.get? a = some o := fun i a e o ho => u a o (fun q => (F.own i a e).2.1 (hX a q).1) ho
  exact ⟨F.a,F.gl,F.bi,F.fm.at uM,F.tops,fun c o e => u c o (fun q => by rw [(hX c q).2.2] at e; cases e) (F.up c o e),hb,F.m0,fun i a e => let ⟨x,y,z,o,ho⟩ := F.own i a e; ⟨x,y,z,o,uW i a e o ho⟩,F.inj,
    fun i x hx => (F.vars i x hx).mono (fun v b => F.fm.bound (Nat.le_refl _) (List.mem_of_getElem? hx) b uM) (fun a e => e) (fun a its e l => l.at fun o ho => uW i a e o ho) fun a o e ho => ⟨e,u a o (fun q => e (.inl (hX a q).1)) ho⟩⟩
theorem FS.drop {X : Addr → Prop} (F : FS K n T A env (fun b => Ex₀ b ∨ X b) M h₀ ω h σ) (hX : ∀ b,X b → b ∉ M ∧ h₀.get? b = none) (u : ∀ b o, ¬ X b → h.get? b = some o → h'.get? b = some o) (hb : Bel h' Ex₀) : FS K n T A env Ex₀ M h₀ ω h' σ := by
  have uM : ∀ c ∈ M,∀ o,h.get? c = some o → h'.get? c = some o := fun c hc o e => u c o (fun q => (hX c q).1 hc) e
  have uW : ∀ i a,ω i = some a → ∀ o,h.get? a = some o → h'.get? a = some o := fun i a e o ho => u a o (fun q => (F.own i a e).2.1 (.inr q)) ho
  exact ⟨F.a,F.gl,F.bi,F.fm.at uM,F.tops,fun c o e => u c o (fun q => by rw [(hX c q).2] at e; cases e) (F.up c o e),hb,F.m0,fun i a e => let ⟨x,y,z,o,ho⟩ := F.own i a e; ⟨x,fun q => y (.inl q),z,o,uW i a e o ho⟩,F.inj,
    fun i x hx => (F.vars i x hx).mono (fun v b => F.fm.bound (Nat.le_refl _) (List.mem_of_getElem? hx) b uM) (fun a e => e) (fun a its e l => l.at fun o ho => uW i a e o ho) fun a o e ho => ⟨fun q => e (q.imp .inl id),u a o (fun q => e (.inl (.inr q))) ho⟩⟩
theorem FS.setOw' {w : World} {E : Value → Shared → Prop} {s₁ : Shared} {D : Addr} (F : FS K n T A env (fun b => Ex₀ b ∨ b = D) M h₀ ω s₁.heap σ) {i : Nat} {x : Str} (hx : T.vars[i]? = some x) {vs : List Value} {ds : List Internal.D} (e1 : ¬ Ex₀ D) (eM : D ∉ M) (e0 : h₀.get? D = none) (l : s₁.heap.PlainList D vs.toArray) (r : RepAll s₁.heap (Exf (fun b => Ex₀ b ∨ b = D) M ω) vs ds) {Q : Unit → Shared → Prop}
    (h : ∀ h' tk,UpBut M s₁.heap h' → FS K n T A env Ex₀ M h₀ (wset ω i D) h' (put σ i (some (.ow ds))) → Q () { s₁ with heap := h',toks := tk }) :
    wpAny (model prog w) A (storeName env x (.ref D)) Q E s₁ := by
  refine F.fm.store (lt_of_get hx) hx fun h' tk u F' b o => ?_
  have eω : ∀ j,ω j ≠ some D := fun j q => (F.own j D q).2.1 (.inr rfl)
  have g : Grow s₁.heap (Exf (fun b => Ex₀ b ∨ b = D) M ω) h' (Exf Ex₀ M (wset ω i D)) := fun a ob e ho => ⟨fun q => by
    rcases q with q | q | ⟨j,q⟩
    · exact e (.inl (.inl q))
    · exact e (.inr (.inl q))
    · rcases wset_some q with ⟨_,q⟩ | ⟨_,q⟩
      · exact e (.inl (.inr q.symm))
      · exact e (.inr (.inr ⟨j,q⟩)),u a ob (fun q => e (.inr (.inl q))) ho⟩
  have l' : h'.PlainList D vs.toArray := l.at fun ob ho => u D ob eM ho
  refine h h' tk u ⟨F.a,F.gl,F.bi,F',F.tops,fun c o e => u c o (fun q => by rw [F.m0 c q] at e; cases e) (F.up c o e),bel_store (fun a e => F.bel a (.inl e)) u F'.all,F.m0,fun j a e => ?_,fun j k' a e f => ?_,fun j y hy => ?_⟩
  · rcases wset_some e with ⟨_,rfl⟩ | ⟨_,e⟩
    · (refine ob_E l' fun nn ho => ?_; try clear l')
      exact ⟨e0,e1,eM,_,ho⟩
    · refine ob_AAAE (F.own j a e) fun e1 e2 e3 o ho => ?_
      exact ⟨e1,fun q => e2 (.inl q),e3,o,u a o e3 ho⟩
  · rcases wset_some e with ⟨hj,e⟩ | ⟨hj,e⟩ <;> rcases wset_some f with ⟨hk,f⟩ | ⟨hk,f⟩
    · rw [hj,hk]
    · exact absurd (e ▸ f) (eω k')
    · exact absurd (f ▸ e) (eω j)
    · exact F.inj j k' a e f
  · by_cases e : j = i
    · subst e
      rw [hx] at hy
      cases hy
      exact VarOk.put ⟨D,vs,by unfold wset; rw [if_pos rfl],b,l',r.mono g⟩
    · rw [look_put_ne e]
      exact (F.vars j y hy).mono (fun v b => o j y v hy e b) (fun a ea => by unfold wset; rw [if_neg e]; exact ea) (fun a its ea l => l.at fun ob ho => u a ob (F.own j a ea).2.2.1 ho) g
end
section
variable {K : Params → Frag} {n : Nat} {T : TE}
theorem After.wdel {s s' : Shared} {M : List Addr} {ω ω' : Nat → Option Addr} {i : Nat} (a : After s s' M (wdel ω i) ω') : After s s' M ω ω' :=
  ⟨a.1,fun b o hM hω e => a.2.1 b o hM (fun j q => hω j (wdel_some q).2) e,fun j b e => by
    rcases a.2.2.1 j b e with q | ⟨k,q⟩ | q
    · exact .inl q
    · exact .inr (.inl ⟨k,(wdel_some q).2⟩)
    · exact .inr (.inr q),a.2.2.2⟩
noncomputable def frzF (i : Nat) (σ : Sto) : Option Sto := match look σ i with
  | some (.ow ds) => some (put σ i (some (.fz (.list ds))))
  | _ => none
theorem DX.freeze {X : Env → Sem Flow} {g : Sto → Option PF} (i : Nat) (H : DX prog K n T X g) : DX prog K n T X (fun σ => (frzF i σ).bind g) := by
  intro w A s env Ex₀ M h₀ ω σ r F hg
  refine ob_EA (Option.bind_eq_some_iff.mp hg) fun σ' h' hg => ?_
  unfold frzF at h'
  split at h'
  · rename_i ds hl
    cases h'
    refine wpAny_mono (H w A s env Ex₀ M h₀ _ _ r (F.freeze hl) hg) (fun fl s₁ p => ?_) fun _ _ e => e
    refine ob_EA p fun ω' a p => ?_
    exact ⟨ω',a.wdel,p⟩
  · cases h'
/-! assignments to a name -/
noncomputable def asgS (i : Nat) (f : Sto → Option D) (σ : Sto) : Option PF := (f σ).bind fun d => if d.flat then some (.next (put σ i (some (.fz d)))) else none
noncomputable def asgF (i : Nat) (f : Sto → Option D) (σ : Sto) : Option PF := (f (fzs σ)).map fun d => .next (put σ i (some (.fz d)))
noncomputable def asgO (i : Nat) (f : Sto → Option (List D)) (σ : Sto) : Option PF := (f (fzs σ)).map fun d => .next (put σ i (some (.ow d)))
theorem DS.asgS {x : Str} {pp pos : Pos} {e : Expr} {i : Nat} {f : Sto → Option D} (hx : T.vars[i]? = some x) (H : DE prog K n T e f) (hs : ∀ env,swapsWith e (some (.Name x pp)) pos.line env = pure false := by intro _; rfl) :
    DS prog K n T (.Assign [.Name x pp] e pos) (asgS i f) := by
  intro w A s env Ex₀ M h₀ ω σ r F hg
  refine ob_EA (Option.bind_eq_some_iff.mp hg) fun d hd hg => ?_
  split at hg
  · rename_i hfl
    cases hg
    refine wpAny_Assign_Name (H.use F.cxS hd fun v s₁ k₁ _ r₁ => ?_) (hs env)
    refine (F.keep (keeps_up k₁)).setFz hx (r₁.ofFlat hfl) fun h' tk a F' => ⟨_,?_,rfl,F'⟩
    exact (After.keeps k₁).trans a
  · cases hg
theorem DS.asgF {x : Str} {pp pos : Pos} {e : Expr} {i : Nat} {f : Sto → Option D} (hx : T.vars[i]? = some x) (H : DE prog K n T e f) (hs : ∀ env,swapsWith e (some (.Name x pp)) pos.line env = pure false := by intro _; rfl) :
    DS prog K n T (.Assign [.Name x pp] e pos) (asgF i f) := by
  intro w A s env Ex₀ M h₀ ω σ r F hg
  (refine ob_EA (Option.map_eq_some_iff.mp hg) fun d hd z1q => ?_; obtain rfl := z1q)
  refine wpAny_Assign_Name (H.use F.cxF hd fun v s₁ k₁ _ r₁ => ?_) (hs env)
  exact (F.keep (keeps_up k₁)).setFz hx r₁ fun h' tk a F' => ⟨_,(After.keeps k₁).trans a,rfl,F'⟩
theorem DS.asgO {x : Str} {pp pos : Pos} {e : Expr} {i : Nat} {f : Sto → Option (List D)} (hx : T.vars[i]? = some x) (H : DF prog K n T e f) (hs : ∀ env,swapsWith e (some (.Name x pp)) pos.line env = pure false := by intro _; rfl) :
    DS prog K n T (.Assign [.Name x pp] e pos) (asgO i f) := by
  intro w A s env Ex₀ M h₀ ω σ r F hg
  (refine ob_EA (Option.map_eq_some_iff.mp hg) fun ds hd z2q => ?_; obtain rfl := z2q)
  refine wpAny_Assign_Name (wpAny_mono (H w A _ s env _ _ ds F.cxF hd) (fun v s₁ g => ?_) fun _ _ e => e) (hs env)
  (refine ob_EEAAAAA g fun D vs z3q k₁ hD eD l r₁ => ?_; try clear g; obtain rfl := z3q)
  exact F.setOw hx k₁ hD eD l r₁ fun h' tk a F' => ⟨_,a,rfl,F'⟩
theorem comp_store {w : World} {A : Around} {s : Shared} {env : Env} {Ex₀ : Addr → Prop} {M : List Addr} {h₀ : Heap} {ω : Nat → Option Addr} {σ σx : Sto} {ys : List D} {Ex : Addr → Prop} {x : Str} {pp pos : Pos} {i : Nat} {scope : Scope} {own oc : List Str} {js : List Nat} {cs : List Str} {elt tg iter : Expr} {ifs : List Expr} {cpos : Pos} {f : Sto → Option (List D)} {bnd : D → Sto → Option Sto} {ts : Sto → Option Bool} {el : Sto → Option D}
    (F : FS (K w.params) n T A env Ex₀ M h₀ ω s.heap σ) (hx : T.vars[i]? = some x) (O : CpOk T scope own oc js cs) (Hi : DI prog K n T tg iter f) (Tg : TgOk prog (cpTE T scope own cs) own.length tg bnd) (Ts : IfOk prog K n (cpTE T scope own cs) ifs ts) (El : DE prog K n (cpTE T scope own cs) elt el)
    (hs : swapsWith (.ListComp elt [⟨tg,iter,ifs,0⟩] scope cpos) (some (.Name x pp)) pos.line env = pure true) (C : Cx (K w.params) n T A env Ex s.heap σx) (hf : compF own.length js f bnd ts el σx = some ys)
    (tr : ∀ h' D Ca vs,RepAll h' (fun b => Ex b ∨ b = D ∨ b = Ca) vs ys → RepAll h' (fun b => Exf Ex₀ M ω b ∨ b = D ∨ b = Ca) vs ys) :
    wpAny (model prog w) A (exec (.Assign [.Name x pp] (.ListComp elt [⟨tg,iter,ifs,0⟩] scope cpos) pos) env) (Post (K w.params) n T A env Ex₀ M h₀ ω s (.next (put σ i (some (.ow ys))))) (fun _ _ => False) s := by
  unfold compF at hf
  refine ob_EA (Option.bind_eq_some_iff.mp hf) fun ds hd hf => ?_
  split at hf
  · rename_i hz
    refine ob_EA (Option.bind_eq_some_iff.mp hf) fun σ₀ hσ hr => ?_
    rw [exec_Assign_Name_used _ _ _ _ hs]
    refine wpAny_bind (wpAny_standAt (wpAny_bind ?_))
    show wpAny _ A (do let _ ← comprehension (.ListComp elt [⟨tg,iter,ifs,0⟩] scope cpos) scope env _ (newList []) false (eval iter env) (some (assign (.Name x pp) env))) _ _ s
    refine wpAny_bind (wpAny_mono (wpAny_comprehension_free (use := some (assign (.Name x pp) env)) (Q := fun _ s' => Post (K w.params) n T A env Ex₀ M h₀ ω s (.next (put σ i (some (.ow ys)))) .next s') rfl (Hi.1 env) (closure_ok (cp_closure O C hσ)) O.kind O.names
      (wpAny_mono (Hi.2 w A _ s env Ex σx ds C hd) (fun xv s₁ h₁ => wpAny_mono h₁ (fun it s₂ h₂ => ?_) fun _ _ e => e) fun _ _ e => e)) (fun _ s' hq => wpAny_pure (wpAny_pure hq)) fun _ _ e => e)
    (refine ob_EEEEEEEAA h₂ fun I fp wr P Md St hm z4q k₂ S => ?_; try clear h₂; obtain rfl := z4q)
    refine comp_block (RR := fun acc Ca r s' => compPost (model prog w) A (fun _ _ => False) (some (assign (.Name x pp) env)) (fun _ s' => Post (K w.params) n T A env Ex₀ M h₀ ω s (.next (put σ i (some (.ow ys)))) .next s') acc Ca r s') O Tg Ts El C hσ k₂ S hr hz fun h' tk D Ca m vs hD hC hne k hn hl r => ?_
    have lt : ∀ (b : Nat) o,s.heap.get? b = some o → b < s₂.heap.objs.size := fun b o e => Heap.lt_size (keeps_up k₂ b o e)
    have nn : ∀ b : Nat,s₂.heap.objs.size ≤ b → s.heap.get? b = none := fun b hb => by
      cases e : s.heap.get? b with
      | none => rfl
      | some o => exact absurd (lt b o e) (Nat.not_lt.mpr hb)
    have bD : ∀ b : Nat,s₂.heap.objs.size ≤ b → ¬ Exf Ex₀ M ω b := fun b hb e => Nat.not_lt.mpr hb ((F.belF.up (keeps_up k₂)).lt e)
    show wpAny _ A (assign (.Name x pp) env (.ref D)) _ _ _
    have exC : ∃ o,h'.get? Ca = some o := let ⟨o,_,_,ho,_⟩ := hn; ⟨o,ho⟩
    have exD : ∃ o,h'.get? D = some o := let ⟨_,e⟩ := hl; ⟨_,e⟩
    have u₁ : Up s.heap h' := keeps_up k
    have FX : FS (K w.params) n T A env (fun b => Ex₀ b ∨ (b = Ca ∨ b = D)) M h₀ ω h' σ := F.grow u₁ (fun b hb => by
      rcases hb with rfl | rfl
      · exact nn _ hC
      · exact nn _ hD) fun a e => by
      rcases e with e | rfl | rfl
      · exact (F.bel.up u₁) a e
      · (refine ob_E exC fun o ho => ?_; try clear exC)
        exact ⟨_,o,Nat.le_refl _,ho⟩
      · (refine ob_E exD fun o ho => ?_; try clear exD)
        exact ⟨_,o,Nat.le_refl _,ho⟩
    have notM : ∀ b : Nat,s₂.heap.objs.size ≤ b → b ∉ M := fun b hb q => by
      refine ob_E (F.fm.all b q) fun o ho => ?_
      rw [nn b hb] at ho; cases ho
    have not0 : ∀ b : Nat,s₂.heap.objs.size ≤ b → h₀.get? b = none := fun b hb => by
      cases e : h₀.get? b with
      | none => rfl
      | some o => rw [← F.up b o e]; exact (nn b hb).symm ▸ rfl
    have FY : FS (K w.params) n T A env (fun b => (Ex₀ b ∨ b = Ca) ∨ b = D) M h₀ ω { s₂ with heap := h',toks := tk }.heap σ := FX.shrink fun a e => by
      rcases e with (e | e) | e
      · exact .inl e
      · exact .inr (.inl e)
      · exact .inr (.inr e)
    have r' : RepAll { s₂ with heap := h',toks := tk }.heap (Exf (fun b => (Ex₀ b ∨ b = Ca) ∨ b = D) M ω) vs ys := (tr h' D Ca vs r).mono fun a o e ho => ⟨fun q => e (by
      rcases q with ((q | q) | q) | q
      · exact .inl (.inl q)
      · exact .inr (.inr q)
      · exact .inr (.inl q)
      · exact .inl (.inr q)),ho⟩
    refine wpAny_assign_Name (FY.setOw' hx (fun q => ?_) (notM D hD) (not0 D hD) hl r' fun h'' tk'' u'' F'' => ?_)
    · rcases q with q | q
      · exact bD D hD (.inl q)
      · exact hne q
    · refine ⟨m,hn.at' fun o e => u'' Ca o (notM Ca hC) e,fun h₃ hs₃ => ?_⟩
      have u₃ : ∀ b o,b ≠ Ca → h''.get? b = some o → h₃.get? b = some o := fun b o hb e => (hs₃.2 b hb).trans e
      refine ⟨wset ω i D,⟨?_,fun b o hM hω e => u₃ b o (fun q => ?_) (u'' b o hM (u₁ b o e)),fun j a e => ?_,fun b o e => ?_⟩,rfl,?_⟩
      · (refine ob_EEA k₂ fun hh tt z5q _ => ?_; try clear k₂; obtain rfl := z5q)
        exact ⟨h₃,tk'',rfl⟩
      · rw [q,nn Ca hC] at e; cases e
      · rcases wset_some e with ⟨_,rfl⟩ | ⟨_,e⟩
        · exact .inr (.inr (nn _ hD))
        · exact .inr (.inl ⟨j,e⟩)
      · refine ob_E (ex_store u'' F''.fm.all b o (u₁ b o e)) fun o' ho' => ?_
        exact ⟨o',u₃ b o' (fun q => by rw [q,nn Ca hC] at e; cases e) ho'⟩
      · refine FS.drop (X := fun b => b = Ca) F'' (fun b hb => ?_) u₃ fun a e => ?_
        · have hb' : b = Ca := hb
          rw [hb']
          exact ⟨notM Ca hC,not0 Ca hC⟩
        · refine ob_EEA (F.bel a e) fun b o lb hbo => ?_
          have hbC : b ≠ Ca := fun q => by rw [q,nn Ca hC] at hbo; cases hbo
          by_cases hm : b ∈ M
          · refine ob_E (F''.fm.all b hm) fun o' ho' => ?_
            exact ⟨b,o',lb,u₃ b o' hbC ho'⟩
          · exact ⟨b,o,lb,u₃ b o hbC (u'' b o hm (u₁ b o hbo))⟩
  · cases hf
theorem DS.asgCompO {x : Str} {pp pos cpos : Pos} {i : Nat} {scope : Scope} {own oc : List Str} {js : List Nat} {cs : List Str} {elt tg iter : Expr} {ifs : List Expr} {f : Sto → Option (List D)} {bnd : D → Sto → Option Sto} {ts : Sto → Option Bool} {el : Sto → Option D}
    (hx : T.vars[i]? = some x) (O : CpOk T scope own oc js cs) (Hi : DI prog K n T tg iter f) (Tg : TgOk prog (cpTE T scope own cs) own.length tg bnd) (Ts : IfOk prog K n (cpTE T scope own cs) ifs ts) (El : DE prog K n (cpTE T scope own cs) elt el)
    (hs : ∀ env : Env,env.scope = T.sc → swapsWith (.ListComp elt [⟨tg,iter,ifs,0⟩] scope cpos) (some (.Name x pp)) pos.line env = pure true) :
    DS prog K n T (.Assign [.Name x pp] (.ListComp elt [⟨tg,iter,ifs,0⟩] scope cpos) pos) (Internal.asgO i (compF own.length js f bnd ts el)) := by
  intro w A s env Ex₀ M h₀ ω σ r F hg
  (refine ob_EA (Option.map_eq_some_iff.mp hg) fun ys hd z6q => ?_; obtain rfl := z6q)
  exact comp_store F hx O Hi Tg Ts El (hs env F.fm.sc) F.cxF hd fun h' D Ca vs r => r
noncomputable def asgOS (i : Nat) (f : Sto → Option (List D)) (σ : Sto) : Option PF := (f σ).bind fun ds => if ds.all D.flat then some (.next (put σ i (some (.ow ds)))) else none
theorem DS.asgCompS {x : Str} {pp pos cpos : Pos} {i : Nat} {scope : Scope} {own oc : List Str} {js : List Nat} {cs : List Str} {elt tg iter : Expr} {ifs : List Expr} {f : Sto → Option (List D)} {bnd : D → Sto → Option Sto} {ts : Sto → Option Bool} {el : Sto → Option D}
    (hx : T.vars[i]? = some x) (O : CpOk T scope own oc js cs) (Hi : DI prog K n T tg iter f) (Tg : TgOk prog (cpTE T scope own cs) own.length tg bnd) (Ts : IfOk prog K n (cpTE T scope own cs) ifs ts) (El : DE prog K n (cpTE T scope own cs) elt el)
    (hs : ∀ env : Env,env.scope = T.sc → swapsWith (.ListComp elt [⟨tg,iter,ifs,0⟩] scope cpos) (some (.Name x pp)) pos.line env = pure true) :
    DS prog K n T (.Assign [.Name x pp] (.ListComp elt [⟨tg,iter,ifs,0⟩] scope cpos) pos) (Internal.asgOS i (compF own.length js f bnd ts el)) := by
  intro w A s env Ex₀ M h₀ ω σ r F hg
  refine ob_EA (Option.bind_eq_some_iff.mp hg) fun ys hd hg => ?_
  split at hg
  · rename_i hfl
    cases hg
    exact comp_store F hx O Hi Tg Ts El (hs env F.fm.sc) F.cxS hd fun h' D Ca vs r => r.ofFlat hfl
  · cases hg
end
end
section
variable {prog : Program}
section
variable {K : Params → Frag} {n : Nat} {T : TE}
noncomputable def TgS (prog : Program) (K : Params → Frag) (n : Nat) (T : TE) (tg : Expr) (bnd : D → Sto → Option Sto) : Prop :=
  ∀ (w : World) (A : Around) (E : Value → Shared → Prop) (s : Shared) (env : Env) (Ex₀ : Addr → Prop) (M : List Addr) (h₀ : Heap) (ω : Nat → Option Addr) (σ σ' : Sto) (v : Value) (d : D) (Q : Unit → Shared → Prop),FS (K w.params) n T A env Ex₀ M h₀ ω s.heap σ → ItemRep tg s.heap (Exf Ex₀ M ω) v d → bnd d σ = some σ' →
    (∀ s' ω',After s s' M ω ω' → FS (K w.params) n T A env Ex₀ M h₀ ω' s'.heap σ' → Q () s') → wpAny (model prog w) A (assign tg env v) Q E s
theorem TgS.name {x : Str} {pos : Pos} {i : Nat} (hx : T.vars[i]? = some x) : TgS prog K n T (.Name x pos) (bndName i) := by
  intro w A E s env Ex₀ M h₀ ω σ σ' v d Q F r hb h
  cases hb
  exact wpAny_assign_Name (F.setFz hx r fun h' tk a F' => h _ _ a F')
theorem TgS.tup {x y : Str} {px py pos : Pos} {kk : Nat} {i j : Nat} (hx : T.vars[i]? = some x) (hy : T.vars[j]? = some y) : TgS prog K n T (.Tuple [.Name x px,.Name y py] kk pos) (bndTup i j) := by
  intro w A E s env Ex₀ M h₀ ω σ σ' v d Q F r hb h
  (refine ob_EEEAAA r fun a vs ds z1q z2q ht q => ?_; try clear r; obtain rfl := z1q; obtain rfl := z2q)
  unfold bndTup at hb
  split at hb
  · rename_i d₁ d₂ he
    cases he
    cases hb
    (refine ob_EEAA (repAll_two q) fun v₁ v₂ z3q r₁ r₂ => ?_; obtain rfl := z3q)
    refine wpAny_assign_Tuple F.a.hd ht rfl rfl fun h₁ hs₁ => ?_
    have u₁ := up_extBut hs₁
    refine inOrder_two (f := assign (.Name x px) env) (g := assign (.Name y py) env) (wpAny_assign_Name (FS.setFz (s := { s with heap := h₁ }) (F.keep u₁) hx (r₁.up u₁) fun h₂ tk₂ a₂ F₂ => ?_))
    have g₂ : Grow h₁ (Exf Ex₀ M ω) h₂ (Exf Ex₀ M (wdel ω i)) := fun a ob e ho => ⟨((grow_del h₁ i) a ob e ho).1,a₂.2.1 a ob (fun q => e (.inr (.inl q))) (fun j q => e (.inr (.inr ⟨j,q⟩))) ho⟩
    have k₁ : PySem.Keeps s { s with heap := h₁ } := ⟨h₁,s.toks,rfl,u₁⟩
    refine wpAny_assign_Name (FS.setFz (s := { s with heap := h₂,toks := tk₂ }) F₂ hy ((r₂.up u₁).mono g₂) fun h₃ tk₃ a₃ F₃ => h _ _ ((After.keeps k₁).trans (a₂.trans a₃)) F₃)
  · cases hb
noncomputable def forF (bnd : D → Sto → Option Sto) (body : Sto → Option PF) : List D → Sto → Option PF
  | [],σ => some (.next σ)
  | d :: r,σ => (bnd d σ).bind fun σ₁ => (body σ₁).bind fun p => match p with
    | .next σ₂ => forF bnd body r σ₂
    | .ret d => some (.ret d)
theorem nos {α : Type} {x : Option α} {a : α} {P : Prop} (p : x = none) (q : x = some a) : P := by rw [p] at q; cases q
noncomputable def AW (M wr : List Addr) (ω : Nat → Option Addr) (h h' : Heap) (ω' : Nat → Option Addr) : Prop :=
  (∀ b o,b ∉ M → (∀ j,ω j ≠ some b) → b ∉ wr → h.get? b = some o → h'.get? b = some o) ∧ (∀ j a,ω' j = some a → a ∈ M ∨ (∃ j,ω j = some a) ∨ h.get? a = none) ∧ ∀ b o,b ∉ wr → h.get? b = some o → ∃ o',h'.get? b = some o'
section
variable {M wr : List Addr} {ω ω' ω₄ : Nat → Option Addr} {h h' h₂ : Heap} {s s₂ s₃ s₄ : Shared}
theorem AW.refl : AW M wr ω h h ω := ⟨fun _ _ _ _ _ e => e,fun j _ e => .inr (.inl ⟨j,e⟩),fun _ o _ e => ⟨o,e⟩⟩
theorem AW.step (a : AW M wr ω h h' ω') (u : ∀ b o,b ∉ wr → h'.get? b = some o → h₂.get? b = some o) : AW M wr ω h h₂ ω' := ⟨fun b o hM hω hw e => u b o hw (a.1 b o hM hω hw e),a.2.1,fun b o hw e => Exists.imp (fun o' => u b o' hw) (a.2.2 b o hw e)⟩
theorem AW.turn (a : AW M wr ω h s₃.heap ω') (lv : ∀ b ∈ wr,∃ o,s₃.heap.get? b = some o) (aa : After s₃ s₄ M ω' ω₄) : AW M wr ω h s₄.heap ω₄ :=
  ⟨fun b o hM hω hw e => aa.2.1 b o hM (fun j q => (a.2.1 j b q).elim hM fun q => q.elim (fun q => Exists.elim q hω) fun q => nos q e) (a.1 b o hM hω hw e),
    fun j x e => (aa.2.2.1 j x e).elim .inl fun q => q.elim (fun q => Exists.elim q fun j q => a.2.1 j x q) fun q => by
      by_cases hM : x ∈ M
      · exact .inl hM
      by_cases hω : ∃ j,ω j = some x
      · exact .inr (.inl hω)
      refine .inr (.inr (none_of fun o e' => ?_))
      by_cases hw : x ∈ wr
      · exact (lv x hw).elim fun o' h' => nos q h'
      · exact nos q (a.1 x o hM (fun j z => hω ⟨j,z⟩) hw e'),
    fun b o hw e => Exists.elim (a.2.2 b o hw e) fun o' ho' => aa.2.2.2 b o' ho'⟩
theorem AW.after (a : AW M wr ω s₂.heap s₃.heap ω') (k : PySem.Keeps s s₂) (sh : ∃ h t,s₃ = { s₂ with heap := h,toks := t }) (nw : ∀ b o,s.heap.get? b = some o → b ∉ wr) : After s s₃ M ω ω' := by
  have kept : ∀ (b : Addr) (o : Obj),s.heap.get? b = some o → s₂.heap.get? b = some o := keeps_up k
  (refine ob_EEA k fun hh tt e₂ u => ?_)
  (refine ob_EE sh fun h₃ t₃ z5q => ?_)
  refine ⟨⟨h₃,t₃,by rw [z5q,e₂]⟩,fun b o hM hω e => a.1 b o hM hω (nw b o e) (kept b o e),fun j x e => (a.2.1 j x e).imp id fun q => q.imp id fun q => ?_,fun b o e => a.2.2 b o (nw b o e) (kept b o e)⟩
  exact none_of fun o e' => nos q (kept x o e')
end
inductive ForI (P : Heap → (Nat → Option Addr) → Sto → Prop) (bnd : D → Sto → Option Sto) (g : Sto → Option PF) (ds : List D) (r : PF) (St : Nat → Heap → Prop) (C : Heap → (Nat → Option Addr) → Prop) (s₂ : Shared) : Nat → Shared → Prop
  | mk (h' : Heap) (tk i : Nat) (ω' : Nat → Option Addr) (σ' : Sto) : i ≤ ds.length → St i h' → P h' ω' σ' → forF bnd g (ds.drop i) σ' = some r → C h' ω' → ForI P bnd g ds r St C s₂ (ds.length + 1 - i) { s₂ with heap := h',toks := tk }
theorem less_turn {n i : Nat} (h : i < n) : n + 1 - (i + 1) < n + 1 - i := Nat.sub_succ_lt_self _ _ (Nat.lt_succ_of_lt h)
theorem forF_cons {bnd : D → Sto → Option Sto} {g : Sto → Option PF} {ds : List D} {i : Nat} {d : D} {σ : Sto} {r : PF} (hd : ds[i]? = some d) (h : forF bnd g (ds.drop i) σ = some r) : ∃ σ₁,bnd d σ = some σ₁ ∧ ∃ p,g σ₁ = some p ∧ (match p with
    | .next σ₂ => forF bnd g (ds.drop (i + 1)) σ₂
    | .ret d => some (.ret d)) = some r := by
  refine ob_E (List.getElem?_eq_some_iff.mp hd) fun hl he => ?_
  rw [List.drop_eq_getElem_cons hl,he] at h
  refine ob_EA (Option.bind_eq_some_iff.mp h) fun σ₁ hσ₁ h => ?_
  refine ob_EA (Option.bind_eq_some_iff.mp h) fun p hp h => ?_
  exact ⟨σ₁,hσ₁,p,hp,h⟩
theorem DS.for {tg iter : Expr} {body : List Stmt} {pos : Pos} {f : Sto → Option (List D)} {bnd : D → Sto → Option Sto} {g : Sto → Option PF} (Hi : DI prog K n T tg iter f) (Tg : TgS prog K n T tg bnd) (Hb : DB prog K n T body g) :
    DS prog K n T (.For tg iter body [] pos) (fun σ => (f (fzs σ)).bind fun ds => forF bnd g ds σ) := by
  intro w A s env Ex₀ M h₀ ω σ r F hg
  refine ob_EA (Option.bind_eq_some_iff.mp hg) fun ds hd hg => ?_
  refine wpAny_For (wpAny_mono (Hi.2 w A _ s env _ _ ds F.cxF hd) (fun x s₁ h₁ => wpAny_mono h₁ (fun it s₂ h₂ => ?_) fun _ _ e => e) fun _ _ e => e) (Hi.1 env)
  (refine ob_EEEEEEEAA h₂ fun I fp wr P Md St hm z4q k₂ S => ?_; try clear h₂; obtain rfl := z4q)
  have newW : ∀ b o,s.heap.get? b = some o → b ∉ wr := fun b o e hb => nos (S.new b hb) (S.u₀ b o e)
  have wrM : ∀ b ∈ wr,b ∉ M := fun b hb q => Exists.elim (F.fm.all b q) fun o ho => newW b o ho hb
  have wr0 : ∀ b ∈ wr,h₀.get? b = none := fun b hb => none_of fun o e => newW b o (F.up b o e) hb
  let Ex₁ : Addr → Prop := fun b => Ex₀ b ∨ b ∈ wr
  have F₂ : FS (K w.params) n T A env Ex₁ M h₀ ω s₂.heap σ := F.grow (keeps_up k₂) (fun b hb => none_of fun o e => newW b o e hb) fun a e => e.elim (fun e => (F.bel.up (keeps_up k₂)) a e) fun e =>
    Exists.elim (S.ex a (S.W.sub a e)) fun o ho => ⟨a,o,Nat.le_refl _,ho⟩
  refine codeAny_forLoop_any (ForI (fun h ω' σ' => FS (K w.params) n T A env Ex₁ M h₀ ω' h σ') bnd g ds r St (AW M wr ω s₂.heap) s₂) ?_ (ds.length + 1)
    (ForI.mk s₂.heap s₂.toks 0 ω σ (Nat.zero_le _) S.st F₂ hg .refl)
  intro m s' hI
  cases hI with | mk h' tk i ω' σ' hi hst F' hf' aw => ?_
  have fpX : ∀ b ∈ fp,b ∉ wr → b ∉ M ∧ ∀ j,ω' j ≠ some b := fun b hb hw =>
    have e := S.off b hb hw
    ⟨fun q => e (.inr (.inl q)),fun j q => (aw.2.1 j b q).elim (fun q => e (.inr (.inl q))) fun q => q.elim (fun q => e (.inr (.inr q))) fun q => Exists.elim (S.ex b hb) fun o ho => nos q ho⟩
  by_cases hlt : i < ds.length
  · refine S.W.item i _ _ _ hlt hst fun v h₁ tk₁ hMd k₁ => ?_
    refine S.W.go i v _ _ _ hMd fun h₂ hP hst₂ k₂' => ?_
    have u12 : ∀ b o,b ∉ wr → h'.get? b = some o → h₂.get? b = some o := fun b o hb e => k₂' b o hb (k₁ b o hb e)
    have lv := S.live _ _ hst₂
    have FA : FS (K w.params) n T A env Ex₁ M h₀ ω' h₂ σ' := F'.chg (X := fun b => b ∈ wr) (fun b hb => ⟨.inr hb,wrM b hb,wr0 b hb⟩) u12 fun a e =>
      ob_EEA (F'.bel a e) fun b o lb hb => (Classical.em (b ∈ wr)).elim (fun hw => Exists.elim (lv b hw) fun o' ho' => ⟨b,o',lb,ho'⟩) fun hw => ⟨b,o,lb,u12 b o hw hb⟩
    have aw₂ : AW M wr ω s₂.heap h₂ ω' := aw.step u12
    refine ob_EA (S.item i v h₂ (Exf Ex₁ M ω') hlt hP fun a o e ho =>
      have hs₂ := S.u₁ a o ho
      have hw : a ∉ wr := fun q => nos (S.new a q) ho
      ⟨fun q => q.elim (fun q => q.elim (fun q => e (.inl q)) hw) fun q => q.elim (fun q => e (.inr (.inl q))) fun q => Exists.elim q fun j q => (aw.2.1 j a q).elim (fun q => e (.inr (.inl q))) fun q => q.elim (fun q => e (.inr (.inr q))) fun q => nos q hs₂,
        aw₂.1 a o (fun q => e (.inr (.inl q))) (fun j q => e (.inr (.inr ⟨j,q⟩))) hw hs₂⟩) fun d hd' rI => ?_
    refine ob_EAEA (forF_cons hd' hf') fun σ₁ hσ₁ p hp hf' => ?_
    refine Tg w A _ { s₂ with heap := h₂,toks := tk₁ } env Ex₁ M h₀ ω' σ' σ₁ v d _ FA rI hσ₁ fun s₃ ω₃ a₃ F₃ => ?_
    refine wpAny_mono (Hb w A s₃ env Ex₁ M h₀ ω₃ σ₁ p F₃ hp) (fun fl s₄ q => ?_) fun _ _ e => e.elim
    refine ob_EA q fun ω₄ a₄ q => ?_
    have aa := a₃.trans a₄
    have aw₄ := AW.turn (s₃ := { s₂ with heap := h₂,toks := tk₁ }) aw₂ lv aa
    have sh : ∃ h t,s₄ = { s₂ with heap := h,toks := t } := aa.1
    cases p with
    | ret d =>
      cases hf'
      (refine ob_EA q fun v z7q rv => ?_; try clear q; obtain rfl := z7q)
      exact ⟨ω₄,aw₄.after k₂ sh newW,v,rfl,rv.mono fun a o e ho => ⟨fun q => e (.inl q),ho⟩⟩
    | next σ₂ =>
      (refine ob_A q fun z8q F₄ => ?_; try clear q; obtain rfl := z8q)
      (refine ob_EE sh fun h₄ t₄ z9q => ?_; try clear sh; obtain rfl := z9q)
      exact ⟨_,less_turn hlt,ForI.mk h₄ t₄ (i + 1) ω₄ σ₂ hlt (S.W.frame _ _ _ hst₂ fun b hb o e => (Classical.em (b ∈ wr)).elim (fun hw => aa.2.1 b o (wrM b hw) (fun j q => (F'.own j b q).2.1 (.inr hw)) e) fun hw => aa.2.1 b o (fpX b hb hw).1 (fpX b hb hw).2 e) F₄ hf' aw₄⟩
  · obtain rfl : i = ds.length := Nat.le_antisymm hi (Nat.le_of_not_lt hlt)
    rw [List.drop_length] at hf'
    cases hf'
    refine S.W.done _ _ _ hst fun h₁ tk₁ k₁ => wpAny_execs_nil ?_
    have aw₁ : AW M wr ω s₂.heap h₁ ω' := aw.step k₁
    refine ⟨ω',AW.after (s₃ := { s₂ with heap := h₁,toks := tk₁ }) aw₁ k₂ ⟨h₁,tk₁,rfl⟩ newW,rfl,?_⟩
    exact FS.drop (X := fun b => b ∈ wr) F' (fun b hb => ⟨wrM b hb,wr0 b hb⟩) k₁ fun a e =>
      ob_EEA (F.bel a e) fun b o lb hbo => Exists.elim (aw₁.2.2 b o (newW b o hbo) (keeps_up k₂ b o hbo)) fun o' ho' => ⟨b,o',lb,ho'⟩
end
end
section
variable {prog : Program}
section
variable {K : Params → Frag} {n : Nat} {T : TE}
noncomputable def whileF (t : Sto → Option Bool) (g : Sto → Option PF) : Nat → Sto → Option PF
  | 0,_ => none
  | k + 1,σ => (t σ).bind fun b => if b then (g σ).bind fun p => match p with
      | .next σ' => whileF t g k σ'
      | .ret d => some (.ret d)
    else some (.next σ)
theorem DS.while {t : Expr} {body : List Stmt} {pos : Pos} {tf : Sto → Option Bool} {g : Sto → Option PF} (N : Sto → Nat) (Ht : DT prog K n T t tf) (Hb : DB prog K n T body g) : DS prog K n T (.While t body [] pos) (fun σ => whileF tf g (N σ) σ) := by
  intro w A s env Ex₀ M h₀ ω σ r F hg
  refine wpAny_While (codeAny_whileLoop (fun k s' => ∃ ω' σ',After s s' M ω ω' ∧ FS (K w.params) n T A env Ex₀ M h₀ ω' s'.heap σ' ∧ whileF tf g k σ' = some r) ?_ (N σ) ⟨ω,σ,After.refl _ _ _,F,hg⟩)
  rintro k s' ⟨ω',σ',a,F',hf⟩
  cases k with
  | zero => cases hf
  | succ k =>
    refine ob_EA (Option.bind_eq_some_iff.mp hf) fun b hb hf => ?_
    refine Ht.use F'.cxS hb fun s₁ k₁ _ => ?_
    have F₁ := F'.keep (keeps_up k₁)
    have a₁ := a.trans (After.keeps k₁)
    cases b with
    | false =>
      rw [if_neg Bool.false_ne_true] at hf ⊢
      cases hf
      exact wpAny_execs_nil ⟨ω',a₁,rfl,F₁⟩
    | true =>
      rw [if_pos rfl] at hf ⊢
      refine ob_EA (Option.bind_eq_some_iff.mp hf) fun p hp hf => ?_
      refine wpAny_mono (Hb w A s₁ env Ex₀ M h₀ ω' σ' p F₁ hp) (fun fl s₂ q => ?_) fun _ _ e => e.elim
      refine ob_EA q fun ω₂ a₂ q => ?_
      cases p with
      | ret d =>
        cases hf
        (refine ob_EA q fun v z1q rv => ?_; try clear q; obtain rfl := z1q)
        exact ⟨ω₂,a₁.trans a₂,v,rfl,rv⟩
      | next σ₂ =>
        (refine ob_A q fun z2q F₂ => ?_; try clear q; obtain rfl := z2q)
        exact ⟨k,Nat.lt_succ_self k,ω₂,σ₂,a₁.trans a₂,F₂,hf⟩
/-! augmented assignments -/
noncomputable def IopOk (prog : Program) (op : Operator) (F : D → D → Option D) : Prop :=
  ∀ (w : World) (A : Around) (E : Value → Shared → Prop) (s : Shared) (Ex : Addr → Prop) (a b : Value) (x y d : D),Rep s.heap Ex a x → Rep s.heap Ex b y → F x y = some d → d.flat = true ∧ wpAny (model prog w) A (inplaceOp op a b) (Got s Ex d) E s
noncomputable def iaddD : D → D → Option D
  | .int a,.int b => some (.int (a + b))
  | .str x,.str y => if x.length + y.length ≤ sizeLine then some (.str (x ++ y)) else none
  | _,_ => none
theorem iop_add : IopOk prog .Add iaddD := by
  intro w A E s Ex a b x y d r₁ r₂ hf
  unfold iaddD at hf
  split at hf
  · cases hf
    (refine ob_E r₁.int_inv fun t z3q => ?_; obtain rfl := z3q)
    (refine ob_E r₂.int_inv fun u z4q => ?_; obtain rfl := z4q)
    exact ⟨rfl,wpAny_iadd_int (got_toks (.int _ _))⟩
  · split at hf
    · rename_i hz
      cases hf
      (refine ob_E r₁.str_inv fun t z5q => ?_; obtain rfl := z5q)
      (refine ob_E r₂.str_inv fun u z6q => ?_; obtain rfl := z6q)
      exact ⟨rfl,SB.iadd (fun t' k => got_toks (.str _ _)) hz⟩
    · cases hf
  · cases hf
theorem iop_sub : IopOk prog .Sub subD := by
  intro w A E s Ex a b x y d r₁ r₂ hf
  refine ints2_inv hf fun i j e1 e2 hf => ?_
  subst e1 e2
  obtain rfl := Option.some.inj hf
  (refine ob_E r₁.int_inv fun t z7q => ?_; obtain rfl := z7q)
  (refine ob_E r₂.int_inv fun u z8q => ?_; obtain rfl := z8q)
  exact ⟨rfl,AutoIntOps.isub_0 (got_toks (.int _ _))⟩
theorem iop_mul : IopOk prog .Mult mulD := by
  intro w A E s Ex a b x y d r₁ r₂ hf
  refine ints2_inv hf fun i j e1 e2 hf => ?_
  subst e1 e2
  refine ob_A (ifs hf) fun hz e => ?_
  subst e
  (refine ob_E r₁.int_inv fun t z9q => ?_; obtain rfl := z9q)
  (refine ob_E r₂.int_inv fun u z10q => ?_; obtain rfl := z10q)
  exact ⟨rfl,AutoIntOps.imul_0 (got_toks (.int _ _)) (mul_ok hz)⟩
noncomputable def augS (i : Nat) (G : D → D → Option D) (f : Sto → Option D) (σ : Sto) : Option PF := (σ.get i).bind fun x => (f σ).bind fun y => (G x y).map fun d => .next (put σ i (some (.fz d)))
theorem DS.aug {x : Str} {xp pos : Pos} {op : Operator} {e : Expr} {i : Nat} {G : D → D → Option D} {f : Sto → Option D} (hx : T.vars[i]? = some x) (Ho : IopOk prog op G) (H : DE prog K n T e f) : DS prog K n T (.AugAssign (.Name x xp) op e pos) (augS i G f) := by
  intro w A s env Ex₀ M h₀ ω σ r F hg
  refine ob_EA (Option.bind_eq_some_iff.mp hg) fun a ha hg => ?_
  refine ob_EA (Option.bind_eq_some_iff.mp hg) fun b hb hg => ?_
  (refine ob_EA (Option.map_eq_some_iff.mp hg) fun d hd z11q => ?_; obtain rfl := z11q)
  have C := F.cxS
  refine ob_EA (C.vars i x a hx ha) fun v bv rv => ?_
  refine wpAny_AugAssign_Name (wpAny_loadVar C.kind bv (H.use C hb fun u s₁ k₁ C₁ r₁ => ?_))
  refine ob_A (Ho w A (fun _ _ => False) s₁ _ v u a b d (rv.up (keeps_up k₁)) r₁ hd) fun hfl hop => ?_
  refine wpAny_mono hop (fun z s₂ g => ?_) fun _ _ e => e
  have kk := keeps_trans k₁ g.1
  exact (F.keep (keeps_up kk)).setFz hx (g.2.ofFlat hfl) fun h' tk a F' => ⟨_,(After.keeps kk).trans a,rfl,F'⟩
/-! lists of the frame's own -/
theorem FS.ow {w : World} {A : Around} {env : Env} {Ex₀ : Addr → Prop} {M : List Addr} {h₀ h : Heap} {ω : Nat → Option Addr} {σ : Sto} {i : Nat} {x : Str} {ds : List D} (F : FS (K w.params) n T A env Ex₀ M h₀ ω h σ) (hx : T.vars[i]? = some x) (hl : look σ i = some (.ow ds)) :
    ∃ a vs,ω i = some a ∧ Bound h env x (.ref a) ∧ h.PlainList a (List.toArray vs) ∧ RepAll h (Exf Ex₀ M ω) vs ds := by
  have V := F.vars i x hx
  rw [hl] at V
  exact V
theorem FS.after {w : World} {A : Around} {env : Env} {Ex₀ : Addr → Prop} {M : List Addr} {h₀ : Heap} {ω : Nat → Option Addr} {σ : Sto} {s : Shared} {h' : Heap} {i : Nat} {a : Addr} (F : FS (K w.params) n T A env Ex₀ M h₀ ω s.heap σ) (hi : ω i = some a) (hs : Heap.SameBut a s.heap h') (ex : ∃ o,h'.get? a = some o) : After s { s with heap := h' } M ω ω :=
  ⟨⟨h',s.toks,rfl⟩,fun b o _ hω e => (hs.2 b fun q => hω i (q ▸ hi)).trans e,fun j b e => .inr (.inl ⟨j,e⟩),fun b o e => sameBut_all hs ex ⟨o,e⟩⟩
theorem quiet {env : Env} (h : env.scope.kind = .function) : interactive env = false := by
  unfold interactive
  rw [h]
  rfl
theorem base_name {x name : Str} {xp : Pos} {env : Env} : attributeBase (.Name x xp) name env (eval (.Name x xp) env) = eval (.Name x xp) env := rfl
noncomputable def appS (i : Nat) (f : Sto → Option D) (σ : Sto) : Option PF := match look σ i with
  | some (.ow ds) => (f σ).bind fun d => if d.flat = true ∧ ds.length ≤ sizeLine then some (.next (put σ i (some (.ow (ds ++ [d]))))) else none
  | _ => none
noncomputable def appF (i : Nat) (f : Sto → Option D) (σ : Sto) : Option PF := match look σ i with
  | some (.ow ds) => (f (fzs σ)).bind fun d => if ds.length ≤ sizeLine then some (.next (put σ i (some (.ow (ds ++ [d]))))) else none
  | _ => none
theorem app_core {w : World} {A : Around} {s : Shared} {env : Env} {Ex₀ : Addr → Prop} {M : List Addr} {h₀ : Heap} {ω : Nat → Option Addr} {σ : Sto} {x : Str} {xp apos cpos pos : Pos} {e : Expr} {i : Nat} {ds : List D} {d : D} {Ex : Addr → Prop} {σx : Sto} {f : Sto → Option D}
    (F : FS (K w.params) n T A env Ex₀ M h₀ ω s.heap σ) (hx : T.vars[i]? = some x) (hdb : (x == ("__debug__" : Str)) = false) (hl : look σ i = some (.ow ds)) (hz : ds.length ≤ sizeLine) (H : DE prog K n T e f) (C : Cx (K w.params) n T A env Ex s.heap σx) (hd : f σx = some d)
    (tr : ∀ h v,Rep h Ex v d → Rep h (Exf Ex₀ M ω) v d) (hs : ∀ env,starEach [e] env = [(false,eval e env)]) (hline : (apos.endLine == cpos.line) = true) (hsw : ∀ env,swapsWith (.Call (.Attribute (.Name x xp) "append" apos) [e] [] cpos) none pos.line env = pure false) :
    wpAny (model prog w) A (exec (.Expr (.Call (.Attribute (.Name x xp) "append" apos) [e] [] cpos) pos) env) (Post (K w.params) n T A env Ex₀ M h₀ ω s (.next (put σ i (some (.ow (ds ++ [d])))))) (fun _ _ => False) s := by
  refine ob_EEAAA (F.ow hx hl) fun a vs hi b l r => ?_
  refine wpAny_Expr (wpAny_mono (Call_method1 (Q := fun v s' => v = .none ∧ Post (K w.params) n T A env Ex₀ M h₀ ω s (.next (put σ i (some (.ow (ds ++ [d]))))) .next s') base_name (hs env) hline (wpAny_Name (wpAny_loadVar C.kind b ?_) hdb)) (fun v s' h => ?_) fun _ _ e => e) (quiet C.kind) (hsw env)
  · refine ⟨"list",_,PySem.F.plainAttrs_list,PySem.F.slot_list_append,PySem.F.type_list_append,l.isList.typeIs,fun c e => ?_,?_⟩
    · cases e
      (refine ob_E l fun nn e => ?_; try clear l)
      exact ⟨_,e,rfl⟩
    · refine Calls.callWith_builtin rfl (Calls.evalArgs_plain (Calls.spliced_cons (H.use C hd fun u s₁ k₁ C₁ r₁ => Calls.spliced_nil ?_)))
      have F₁ := F.keep (keeps_up k₁)
      refine wpAny_list_append_plain (l.at fun o ho => keeps_up k₁ a o ho) (fun h' l' hs' => ?_) (by rw [List.size_toArray,r.length]; exact hz)
      have r' : RepAll s₁.heap (Exf Ex₀ M ω) (vs ++ [u]) (ds ++ [d]) := (r.up (keeps_up k₁)).append (.one (tr _ _ r₁))
      have l'' : h'.PlainList a (vs ++ [u]).toArray := by rwa [List.push_toArray] at l'
      exact ⟨rfl,ω,(After.keeps k₁).trans (F₁.after hi hs' (let ⟨_,e⟩ := l''; ⟨_,e⟩)),rfl,F₁.setIn hi hs' l'' r' ⟨ds,hl⟩⟩
  · obtain ⟨rfl,h⟩ := h
    exact h
theorem DS.appS {x : Str} {xp apos cpos pos : Pos} {e : Expr} {i : Nat} {f : Sto → Option D} (hx : T.vars[i]? = some x) (H : DE prog K n T e f) (hdb : (x == ("__debug__" : Str)) = false := by decide) (hs : ∀ env,starEach [e] env = [(false,eval e env)] := by intro _; rfl) (hline : (apos.endLine == cpos.line) = true := by rfl)
    (hsw : ∀ env,swapsWith (.Call (.Attribute (.Name x xp) "append" apos) [e] [] cpos) none pos.line env = pure false := by intro _; rfl) : DS prog K n T (.Expr (.Call (.Attribute (.Name x xp) "append" apos) [e] [] cpos) pos) (Internal.appS i f) := by
  intro w A s env Ex₀ M h₀ ω σ r F hg
  unfold Internal.appS at hg
  split at hg
  · rename_i ds hl
    refine ob_EA (Option.bind_eq_some_iff.mp hg) fun d hd hg => ?_
    split at hg
    · rename_i hc
      cases hg
      exact app_core F hx hdb hl hc.2 H F.cxS hd (fun h v r => r.ofFlat hc.1) hs hline hsw
    · cases hg
  · cases hg
theorem DS.appF {x : Str} {xp apos cpos pos : Pos} {e : Expr} {i : Nat} {f : Sto → Option D} (hx : T.vars[i]? = some x) (H : DE prog K n T e f) (hdb : (x == ("__debug__" : Str)) = false := by decide) (hs : ∀ env,starEach [e] env = [(false,eval e env)] := by intro _; rfl) (hline : (apos.endLine == cpos.line) = true := by rfl)
    (hsw : ∀ env,swapsWith (.Call (.Attribute (.Name x xp) "append" apos) [e] [] cpos) none pos.line env = pure false := by intro _; rfl) : DS prog K n T (.Expr (.Call (.Attribute (.Name x xp) "append" apos) [e] [] cpos) pos) (Internal.appF i f) := by
  intro w A s env Ex₀ M h₀ ω σ r F hg
  unfold Internal.appF at hg
  split at hg
  · rename_i ds hl
    refine ob_EA (Option.bind_eq_some_iff.mp hg) fun d hd hg => ?_
    split at hg
    · rename_i hc
      cases hg
      exact app_core F hx hdb hl hc H F.cxF hd (fun h v r => r) hs hline hsw
    · cases hg
  · cases hg
end
end
section
variable {prog : Program}
inductive CellsRep (h : Heap) (Ex : Addr → Prop) : List Addr → List Value → List Cell → Prop
  | nil : CellsRep h Ex [] [] []
  | fz {v : Value} {d : D} {nw : List Addr} {vs : List Value} {cs : List Cell} : Rep h Ex v d → CellsRep h Ex nw vs cs → CellsRep h Ex nw (v :: vs) (.fz d :: cs)
  | ow {D : Addr} {us : List Value} {ds : List Internal.D} {nw : List Addr} {vs : List Value} {cs : List Cell} : h.PlainList D us.toArray → RepAll h Ex us ds → CellsRep h Ex nw vs cs → CellsRep h Ex (D :: nw) (.ref D :: vs) (.ow ds :: cs)
theorem CellsRep.mono {h h' : Heap} {Ex Ex' : Addr → Prop} (g : Grow h Ex h' Ex') {nw : List Addr} {vs : List Value} {cs : List Cell} (q : CellsRep h Ex nw vs cs) : (∀ b ∈ nw,∀ o,h.get? b = some o → h'.get? b = some o) → CellsRep h' Ex' nw vs cs :=
  CellsRep.rec (motive := fun nw vs cs _ => (∀ b ∈ nw,∀ o,h.get? b = some o → h'.get? b = some o) → CellsRep h' Ex' nw vs cs) (fun _ => .nil) (fun r _ q k => .fz (r.mono g) (q k)) (fun l r _ q k => .ow (l.at fun o e => k _ List.mem_cons_self o e) (r.mono g) (q fun b hb => k b (List.mem_cons_of_mem _ hb))) q
theorem CellsRep.rev {h : Heap} {Ex : Addr → Prop} {nw : List Addr} {vs : List Value} {cs : List Cell} (q : CellsRep h Ex nw vs cs) : ∀ {nw' : List Addr} {vs' : List Value} {cs' : List Cell},CellsRep h Ex nw' vs' cs' → CellsRep h Ex (nw.reverseAux nw') (vs.reverseAux vs') (cs.reverseAux cs') :=
  CellsRep.rec (motive := fun nw vs cs _ => ∀ {nw' : List Addr} {vs' : List Value} {cs' : List Cell},CellsRep h Ex nw' vs' cs' → CellsRep h Ex (nw.reverseAux nw') (vs.reverseAux vs') (cs.reverseAux cs')) (@fun _ _ _ k => k) (@fun _ _ _ _ _ r _ q _ _ _ k => q (.fz r k)) (@fun _ _ _ _ _ _ l r _ q _ _ _ k => q (.ow l r k)) q
theorem CellsRep.reverse {h : Heap} {Ex : Addr → Prop} {nw : List Addr} {vs : List Value} {cs : List Cell} (q : CellsRep h Ex nw vs cs) : CellsRep h Ex nw.reverse vs.reverse cs.reverse := q.rev (nw' := []) (vs' := []) (cs' := []) .nil
theorem CellsRep.length {h : Heap} {Ex : Addr → Prop} {nw : List Addr} {vs : List Value} {cs : List Cell} (q : CellsRep h Ex nw vs cs) : vs.length = cs.length :=
  CellsRep.rec (motive := fun _ vs cs _ => vs.length = cs.length) rfl (fun _ _ q => congrArg (· + 1) q) (fun _ _ _ q => congrArg (· + 1) q) q
section
variable {K : Params → Frag} {n : Nat} {T : TE}
noncomputable def DKs (prog : Program) (K : Params → Frag) (n : Nat) (T : TE) (es : List Expr) (f : Sto → Option (List Cell)) : Prop :=
  ∀ (w : World) (A : Around) (s : Shared) (env : Env) (Ex₀ : Addr → Prop) (M : List Addr) (h₀ : Heap) (ω : Nat → Option Addr) (σ : Sto) (cs : List Cell) (pos : Pos),FS (K w.params) n T A env Ex₀ M h₀ ω s.heap σ → f σ = some cs →
    wpAny (model prog w) A (spliced (backTo pos (starEach es env))) (fun vs s' => ∃ nw,PySem.Keeps s s' ∧ nw.Nodup ∧ (∀ b ∈ nw,s.heap.get? b = none ∧ ¬ Ex₀ b ∧ ∃ o,s'.heap.get? b = some o) ∧ CellsRep s'.heap (Exf (fun b => Ex₀ b ∨ b ∈ nw) M ω) nw vs cs) (fun _ _ => False) s
theorem DKs.nil : DKs prog K n T [] (fun _ => some []) := by
  intro w A s env Ex₀ M h₀ ω σ cs pos F hf
  cases hf
  exact spliced_nil ⟨[],keeps_refl s,List.nodup_nil,fun b hb => (nomatch hb),.nil⟩
theorem DKs.consV {e : Expr} {es : List Expr} {f : Sto → Option D} {g : Sto → Option (List Cell)} (he : DE prog K n T e f) (hs : DKs prog K n T es g) (hp : ∀ env,starEach (e :: es) env = (false,eval e env) :: starEach es env := by intro _; rfl) :
    DKs prog K n T (e :: es) (fun σ => (f (fzs σ)).bind fun d => (g σ).map (.fz d :: ·)) := by
  intro w A s env Ex₀ M h₀ ω σ cs pos F hf
  refine ob_EA (Option.bind_eq_some_iff.mp hf) fun d hd hf => ?_
  (refine ob_EA (Option.map_eq_some_iff.mp hf) fun r hr z1q => ?_; obtain rfl := z1q)
  refine spliced_more (he.use F.cxF hd fun v s₁ k₁ C₁ r₁ => ?_) (hp env)
  refine wpAny_mono (hs w A s₁ env Ex₀ M h₀ ω σ r pos (F.keep (keeps_up k₁)) hr) (fun vs s₂ q => ?_) fun _ _ e => e
  refine ob_EAAA q fun nw k₂ nd hn q => ?_
  refine ⟨nw,keeps_trans k₁ k₂,nd,fun b hb => ⟨?_,(hn b hb).2⟩,.fz (r₁.mono fun a o e ho => ⟨fun z => ?_,keeps_up k₂ a o ho⟩) q⟩
  · cases e : s.heap.get? b with
    | none => rfl
    | some o => have := (hn b hb).1; rw [keeps_up k₁ b o e] at this; cases this
  · rcases z with (z | z) | z
    · exact e (.inl z)
    · rw [(hn a z).1] at ho; cases ho
    · exact e (.inr z)
theorem DKs.consS {e : Expr} {es : List Expr} {f : Sto → Option D} {g : Sto → Option (List Cell)} (he : DE prog K n T e f) (hs : DKs prog K n T es g) (hp : ∀ env,starEach (e :: es) env = (false,eval e env) :: starEach es env := by intro _; rfl) :
    DKs prog K n T (e :: es) (fun σ => (f σ).bind fun d => if d.flat then (g σ).map (.fz d :: ·) else none) := by
  intro w A s env Ex₀ M h₀ ω σ cs pos F hf
  refine ob_EA (Option.bind_eq_some_iff.mp hf) fun d hd hf => ?_
  split at hf
  · rename_i hfl
    (refine ob_EA (Option.map_eq_some_iff.mp hf) fun r hr z2q => ?_; obtain rfl := z2q)
    refine spliced_more (he.use F.cxS hd fun v s₁ k₁ C₁ r₁ => ?_) (hp env)
    refine wpAny_mono (hs w A s₁ env Ex₀ M h₀ ω σ r pos (F.keep (keeps_up k₁)) hr) (fun vs s₂ q => ?_) fun _ _ e => e
    refine ob_EAAA q fun nw k₂ nd hn q => ?_
    refine ⟨nw,keeps_trans k₁ k₂,nd,fun b hb => ⟨?_,(hn b hb).2⟩,.fz (r₁.ofFlat hfl) q⟩
    cases e : s.heap.get? b with
    | none => rfl
    | some o => have := (hn b hb).1; rw [keeps_up k₁ b o e] at this; cases this
  · cases hf
theorem DKs.consO {e : Expr} {es : List Expr} {f : Sto → Option (List D)} {g : Sto → Option (List Cell)} (he : DF prog K n T e f) (hs : DKs prog K n T es g) (hp : ∀ env,starEach (e :: es) env = (false,eval e env) :: starEach es env := by intro _; rfl) :
    DKs prog K n T (e :: es) (fun σ => (f (fzs σ)).bind fun d => (g σ).map (.ow d :: ·)) := by
  intro w A s env Ex₀ M h₀ ω σ cs pos F hf
  refine ob_EA (Option.bind_eq_some_iff.mp hf) fun d hd hf => ?_
  (refine ob_EA (Option.map_eq_some_iff.mp hf) fun r hr z3q => ?_; obtain rfl := z3q)
  refine spliced_more (wpAny_mono (he w A _ s env _ _ d F.cxF hd) (fun v s₁ g => ?_) fun _ _ e => e) (hp env)
  (refine ob_EEAAAAA g fun D us z4q k₁ hD eD l r₁ => ?_; try clear g; obtain rfl := z4q)
  have exD : ∃ o,s₁.heap.get? D = some o := let ⟨_,e⟩ := l; ⟨_,e⟩
  have F₁ : FS (K w.params) n T A env (fun b => Ex₀ b ∨ b = D) M h₀ ω s₁.heap σ := F.grow (keeps_up k₁) (fun b hb => by rw [hb]; exact hD) fun a e => by
    rcases e with e | e
    · exact (F.bel.up (keeps_up k₁)) a e
    · (refine ob_E exD fun o ho => ?_; try clear exD)
      exact ⟨D,o,Nat.le_of_eq e,ho⟩
  refine wpAny_mono (hs w A s₁ env _ M h₀ ω σ r pos F₁ hr) (fun vs s₂ q => ?_) fun _ _ e => e
  refine ob_EAAA q fun nw k₂ nd hn q => ?_
  have exfE : ∀ a,Exf (fun b => Ex₀ b ∨ b ∈ D :: nw) M ω a → Exf (fun b => (Ex₀ b ∨ b = D) ∨ b ∈ nw) M ω a := fun a z => by
    rcases z with (z | z) | z
    · exact .inl (.inl (.inl z))
    · rcases List.mem_cons.mp z with z | z
      · exact .inl (.inl (.inr z))
      · exact .inl (.inr z)
    · exact .inr z
  refine ⟨D :: nw,keeps_trans k₁ k₂,List.nodup_cons.mpr ⟨fun z => (hn D z).2.1 (.inr rfl),nd⟩,fun b hb => ?_,.ow (l.at fun o e => keeps_up k₂ D o e) (r₁.mono fun a o e ho => ⟨fun z => ?_,keeps_up k₂ a o ho⟩) (q.mono (fun a o e ho => ⟨fun z => e (exfE a z),ho⟩) fun _ _ _ e => e)⟩
  · rcases List.mem_cons.mp hb with rfl | hb
    · (refine ob_E exD fun o ho => ?_; try clear exD)
      exact ⟨hD,fun z => eD (.inl z),o,keeps_up k₂ _ o ho⟩
    · refine ⟨?_,fun z => (hn b hb).2.1 (.inl z),(hn b hb).2.2⟩
      cases e : s.heap.get? b with
      | none => rfl
      | some o => have := (hn b hb).1; rw [keeps_up k₁ b o e] at this; cases this
  · rcases exfE a z with ((z | z) | z) | z
    · exact e (.inl (.inl z))
    · exact e (.inr z)
    · rw [(hn a z).1] at ho; cases ho
    · exact e (.inl (.inr z))
noncomputable def putAll : Sto → List Nat → List Cell → Sto
  | σ,i :: is,c :: cs => putAll (put σ i (some c)) is cs
  | σ,_,_ => σ
noncomputable def StsOk (prog : Program) (w : World) (A : Around) (T : TE) (env : Env) : List Nat → List (Value → Sem Unit) → Prop
  | [], [] => True
  | i :: is,f :: fs => (∃ x,T.vars[i]? = some x ∧ ∀ (v : Value) (Q : Unit → Shared → Prop) (E : Value → Shared → Prop) (s : Shared),wpAny (model prog w) A (storeName env x v) Q E s → wpAny (model prog w) A (f v) Q E s) ∧ StsOk prog w A T env is fs
  | _,_ => False
theorem store_all {w : World} {A : Around} {env : Env} {Ex₀ : Addr → Prop} {M : List Addr} {h₀ : Heap} {E : Value → Shared → Prop} {Q : Unit → Shared → Prop} : ∀ (is : List Nat) (fs : List (Value → Sem Unit)) (cs : List Cell) (vs : List Value) (nw : List Addr) (s : Shared) (ω : Nat → Option Addr) (σ : Sto),StsOk prog w A T env is fs → is.length = cs.length →
    FS (K w.params) n T A env (fun b => Ex₀ b ∨ b ∈ nw) M h₀ ω s.heap σ → CellsRep s.heap (Exf (fun b => Ex₀ b ∨ b ∈ nw) M ω) nw vs cs → nw.Nodup → (∀ b ∈ nw, ¬ Ex₀ b ∧ b ∉ M ∧ h₀.get? b = none) →
    (∀ s' ω',(∃ h t,s' = { s with heap := h,toks := t }) → UpBut M s.heap s'.heap → (∀ i a,ω' i = some a → a ∈ nw ∨ ∃ j,ω j = some a) → FS (K w.params) n T A env Ex₀ M h₀ ω' s'.heap (putAll σ is cs) → Q () s') → wpAny (model prog w) A (assignInOrder fs vs) Q E s
  | [], [],cs,vs,nw,s,ω,σ,_,hlen,F,q,_,_,h => by
    cases q with
    | nil =>
      show wpAny _ A (pure ()) Q E s
      exact wpAny_pure (h s ω ⟨s.heap,s.toks,rfl⟩ (fun _ _ _ e => e) (fun i a e => .inr ⟨i,e⟩) (F.shrink fun a e => .inl e))
    | fz r q => cases hlen
    | ow l r q => cases hlen
  | [],_ :: _,_,_,_,_,_,_,hst,_,_,_,_,_,_ => hst.elim
  | _ :: _, [],_,_,_,_,_,_,hst,_,_,_,_,_,_ => hst.elim
  | i :: is,f :: fs,cs,vs,nw,s,ω,σ,hst,hlen,F,q,nd,hn,h => by
    (refine ob_A hst fun z5q hs => ?_; try clear hst; obtain ⟨x,hx,hf⟩ := z5q)
    cases q with
    | nil => cases hlen
    | fz r q =>
      rename_i v d vs cs
      show wpAny _ A (holding vs (f v) >>= fun _ => assignInOrder fs vs) Q E s
      refine wpAny_bind (wpAny_holding (hf v _ _ s (F.setFzU hx r fun h' tk u a F' => ?_)))
      have g : Grow s.heap (Exf (fun b => Ex₀ b ∨ b ∈ nw) M ω) h' (Exf (fun b => Ex₀ b ∨ b ∈ nw) M (wdel ω i)) := fun a o e ho => ⟨((grow_del s.heap i) a o e ho).1,u a o (fun z => e (.inr (.inl z))) ho⟩
      refine store_all is fs cs vs nw { s with heap := h',toks := tk } (wdel ω i) _ hs (by simpa using hlen) F' (q.mono g fun b hb o e => u b o (hn b hb).2.1 e) nd hn fun s' ω' e' u' n' F'' => ?_
      refine h s' ω' e' (u.trans u') (fun j a e => ?_) F''
      rcases n' j a e with z | ⟨k,z⟩
      · exact .inl z
      · exact .inr ⟨k,(wdel_some z).2⟩
    | ow l r q =>
      rename_i D us ds nw vs cs
      show wpAny _ A (holding vs (f (.ref D)) >>= fun _ => assignInOrder fs vs) Q E s
      have eq : ∀ a,((Ex₀ a ∨ a ∈ nw) ∨ a = D) → (Ex₀ a ∨ a ∈ D :: nw) := fun a z => by
        rcases z with (z | z) | z
        · exact .inl z
        · exact .inr (List.mem_cons_of_mem _ z)
        · exact .inr (z ▸ List.mem_cons_self)
      refine ob_AA (hn D List.mem_cons_self) fun n1 n2 n3 => ?_
      refine ob_A (List.nodup_cons.mp nd) fun nd1 nd2 => ?_
      have FD : FS (K w.params) n T A env (fun b => (Ex₀ b ∨ b ∈ nw) ∨ b = D) M h₀ ω s.heap σ := F.shrink eq
      have rD : RepAll s.heap (Exf (fun b => (Ex₀ b ∨ b ∈ nw) ∨ b = D) M ω) us ds := r.mono fun a o e ho => ⟨fun z => e (z.imp (eq a) id),ho⟩
      refine wpAny_bind (wpAny_holding (hf _ _ _ s (FD.setOw' hx (fun z => z.elim n1 nd1) n2 n3 l rD fun h' tk u F' => ?_)))
      have g : Grow s.heap (Exf (fun b => Ex₀ b ∨ b ∈ D :: nw) M ω) h' (Exf (fun b => Ex₀ b ∨ b ∈ nw) M (wset ω i D)) := fun a o e ho => ⟨fun z => by
        rcases z with z | z | ⟨j,z⟩
        · exact e (.inl (z.imp id (List.mem_cons_of_mem _)))
        · exact e (.inr (.inl z))
        · rcases wset_some z with ⟨_,z⟩ | ⟨_,z⟩
          · exact e (.inl (.inr (z ▸ List.mem_cons_self)))
          · exact e (.inr (.inr ⟨j,z⟩)),u a o (fun z => e (.inr (.inl z))) ho⟩
      refine store_all is fs cs vs nw { s with heap := h',toks := tk } (wset ω i D) _ hs (by simpa using hlen) F' (q.mono g fun b hb o e => u b o (hn b (List.mem_cons_of_mem _ hb)).2.1 e) nd2 (fun b hb => hn b (List.mem_cons_of_mem _ hb)) fun s' ω' e' u' n' F'' => ?_
      refine h s' ω' e' (u.trans u') (fun j a e => ?_) F''
      rcases n' j a e with z | ⟨k,z⟩
      · exact .inl (List.mem_cons_of_mem _ z)
      · rcases wset_some z with ⟨_,z⟩ | ⟨_,z⟩
        · exact .inl (z ▸ List.mem_cons_self)
        · exact .inr ⟨k,z⟩
end
end
section
variable {prog : Program}
section
variable {K : Params → Frag} {n : Nat} {T : TE}
theorem tup_core {w : World} {A : Around} {s s₁ s₃ : Shared} {env : Env} {Ex₀ : Addr → Prop} {M : List Addr} {h₀ : Heap} {ω : Nat → Option Addr} {σ : Sto} {cs : List Cell} {vs : List Value} {nw : List Addr} {is : List Nat} {fs : List (Value → Sem Unit)} {E : Value → Shared → Prop}
    (F : FS (K w.params) n T A env Ex₀ M h₀ ω s.heap σ) (k₁ : PySem.Keeps s s₁) (nd : nw.Nodup) (hn : ∀ b ∈ nw,s.heap.get? b = none ∧ ¬ Ex₀ b ∧ ∃ o,s₁.heap.get? b = some o) (q : CellsRep s₁.heap (Exf (fun b => Ex₀ b ∨ b ∈ nw) M ω) nw vs cs) (k₃ : PySem.Keeps s₁ s₃) (hst : StsOk prog w A T env is fs) (hlen : is.length = cs.length) :
    wpAny (model prog w) A (assignInOrder fs vs) (fun _ s' => Post (K w.params) n T A env Ex₀ M h₀ ω s (.next (putAll σ is cs)) .next s') E s₃ := by
  have k₀ := keeps_trans k₁ k₃
  have u₃ := keeps_up k₃
  have F₃ : FS (K w.params) n T A env (fun b => Ex₀ b ∨ b ∈ nw) M h₀ ω s₃.heap σ := F.grow (keeps_up k₀) (fun b hb => (hn b hb).1) fun a e => by
    rcases e with e | e
    · exact (F.bel.up (keeps_up k₀)) a e
    · refine ob_E ((hn a e).2.2) fun o ho => ?_
      exact ⟨a,o,Nat.le_refl _,u₃ a o ho⟩
  refine store_all is fs cs vs nw s₃ ω σ hst hlen F₃ (q.mono u₃.grow fun b _ o e => u₃ b o e) nd (fun b hb => ⟨(hn b hb).2.1,fun z => ?_,?_⟩) fun s' ω' e' u' n' F' => ⟨ω',⟨?_,?_,?_,?_⟩,rfl,F'⟩
  · refine ob_E (F.fm.all b z) fun o ho => ?_
    rw [(hn b hb).1] at ho; cases ho
  · cases e : h₀.get? b with
    | none => rfl
    | some o => have := (hn b hb).1; rw [F.up b o e] at this; cases this
  · (refine ob_EE e' fun h t z1q => ?_; try clear e'; obtain rfl := z1q)
    (refine ob_EEA k₀ fun h₂ t₂ z2q _ => ?_; try clear k₀; obtain rfl := z2q)
    exact ⟨h,t,rfl⟩
  · exact fun b o hM _ e => u' b o hM (keeps_up k₀ b o e)
  · intro j a e
    rcases n' j a e with z | z
    · exact .inr (.inr (hn a z).1)
    · exact .inr (.inl z)
  · exact fun b o e => ex_store u' F'.fm.all b o (keeps_up k₀ b o e)
noncomputable def tupF (is : List Nat) (f : Sto → Option (List Cell)) (σ : Sto) : Option PF := (f σ).bind fun cs => if is.length = cs.length then some (.next (putAll σ is cs)) else none
theorem DS.tup {elts es : List Expr} {kk kk' : Nat} {tp ep pos : Pos} {is : List Nat} {f : Sto → Option (List Cell)} (hD : DKs prog K n T es f) (hst : ∀ w A env,StsOk prog w A T env is ((assignEach elts env).map (·.2))) (hn : ∀ env,(assignEach elts env).length = is.length) (hstar : ∀ env,(assignEach elts env).findIdx? (·.1) = none) (hi : is.length ≤ 1000 := by decide)
    (hw : ∀ env : Env,env.scope = T.sc → swappedStores [.Tuple elts kk tp] (.Tuple es kk' ep) env = pure none) (hs : ∀ env,swapsWithSole [.Tuple elts kk tp] (.Tuple es kk' ep) pos.line env = pure false := by intro _; rfl) :
    DS prog K n T (.Assign [.Tuple elts kk tp] (.Tuple es kk' ep) pos) (tupF is f) := by
  intro w A s env Ex₀ M h₀ ω σ r F hg
  refine ob_EA (Option.bind_eq_some_iff.mp hg) fun cs hcs hg => ?_
  split at hg
  · rename_i hlen
    cases hg
    refine PyProof.Rows.Assign_Tuple (wpAny_Tuple_spliced (wpAny_mono (hD w A s env Ex₀ M h₀ ω σ cs ep F hcs) (fun vs s₁ q => ?_) fun _ _ e => e)) (hs env) (hw env F.fm.sc)
    refine ob_EAAA q fun nw k₁ nd hnw q => ?_
    refine ⟨by rw [q.length, ← hlen]; unfold sizeLine; exact Nat.le_trans (by assumption) (by decide),?_⟩
    refine wpAny_assign_Tuple (items := vs.toArray) F.a.hd ⟨_,Heap.get?_push_size _ rfl,rfl,_,rfl⟩ (by rw [hn env,List.size_toArray,q.length,hlen]) (hstar env) fun h' hs' => ?_
    have k₃ : PySem.Keeps s₁ { s₁ with heap := h' } := ⟨h',s₁.toks,rfl,(Up.push _ _).trans (up_extBut hs')⟩
    exact tup_core F k₁ nd hnw q k₃ (hst w A env) hlen
  · cases hg
theorem DS.tupSwap {elts es : List Expr} {kk kk' : Nat} {tp ep pos : Pos} {is : List Nat} {f : Sto → Option (List Cell)} {names : List Str} (hD : DKs prog K n T es f) (hst : ∀ w A env,StsOk prog w A T env is.reverse (names.reverse.map fun n => bindName env n)) (hn : names.length = is.length) (hi : is.length ≤ 1000 := by decide)
    (hw : ∀ env : Env,env.scope = T.sc → swappedStores [.Tuple elts kk tp] (.Tuple es kk' ep) env = pure (some names)) (hs : ∀ env,swapsWithSole [.Tuple elts kk tp] (.Tuple es kk' ep) pos.line env = pure false := by intro _; rfl) :
    DS prog K n T (.Assign [.Tuple elts kk tp] (.Tuple es kk' ep) pos) (tupF is.reverse fun σ => (f σ).map List.reverse) := by
  intro w A s env Ex₀ M h₀ ω σ r F hg
  refine ob_EA (Option.bind_eq_some_iff.mp hg) fun cs' hcs' hg => ?_
  (refine ob_EA (Option.map_eq_some_iff.mp hcs') fun cs hcs z3q => ?_; obtain rfl := z3q)
  split at hg
  · rename_i hlen
    cases hg
    refine PyProof.Rows.Assign_Tuple_swapped (names := names) (wpAny_Tuple_spliced (wpAny_mono (hD w A s env Ex₀ M h₀ ω σ cs ep F hcs) (fun vs s₁ q => ?_) fun _ _ e => e)) (hs env) (hw env F.fm.sc)
    refine ob_EAAA q fun nw k₁ nd hnw q => ?_
    have hl2 : is.length = cs.length := by simpa using hlen
    refine ⟨by rw [q.length, ← hl2]; unfold sizeLine; exact Nat.le_trans (by assumption) (by decide),?_⟩
    have hsz : names.length = vs.toArray.size := by rw [hn,List.size_toArray,q.length,hl2]
    rw [hsz]
    refine wpAny_unpackItems_tuple (items := vs.toArray) F.a.hd ⟨_,Heap.get?_push_size _ rfl,rfl,_,rfl⟩ fun h' hs' => ?_
    have k₃ : PySem.Keeps s₁ { s₁ with heap := h' } := ⟨h',s₁.toks,rfl,(Up.push _ _).trans (up_extBut hs')⟩
    have nd' : nw.reverse.Nodup := List.pairwise_reverse.mpr (nd.imp fun h => h.symm)
    have ee : ∀ a,(Ex₀ a ∨ a ∈ nw.reverse) ↔ (Ex₀ a ∨ a ∈ nw) := fun a => by rw [List.mem_reverse]
    have q' : CellsRep s₁.heap (Exf (fun b => Ex₀ b ∨ b ∈ nw.reverse) M ω) nw.reverse vs.reverse cs.reverse := q.reverse.mono (fun a o e ho => ⟨fun z => e (z.imp (ee a).mp id),ho⟩) fun _ _ _ e => e
    exact tup_core F k₁ nd' (fun b hb => hnw b (List.mem_reverse.mp hb)) q' k₃ (hst w A env) hlen
  · cases hg
theorem DS.asgTup {elts : List Expr} {e : Expr} {kk : Nat} {tp pos : Pos} {bnd : D → Sto → Option Sto} {f : Sto → Option D} (H : DE prog K n T e f) (Tg : TgS prog K n T (.Tuple elts kk tp) bnd)
    (hw : ∀ env : Env,swappedStores [.Tuple elts kk tp] e env = pure none := by intro _; rfl) (hs : ∀ env,swapsWithSole [.Tuple elts kk tp] e pos.line env = pure false := by intro _; rfl) :
    DS prog K n T (.Assign [.Tuple elts kk tp] e pos) (fun σ => (f σ).bind fun d => match d with | .tup ds => if ds.all D.flat then (bnd d σ).map .next else none | _ => none) := by
  intro w A s env Ex₀ M h₀ ω σ r F hg
  refine ob_EA (Option.bind_eq_some_iff.mp hg) fun d hd hg => ?_
  split at hg
  · rename_i ds
    split at hg
    · rename_i hfl
      (refine ob_EA (Option.map_eq_some_iff.mp hg) fun σ' hb z4q => ?_; obtain rfl := z4q)
      refine PyProof.Rows.Assign_Tuple (H.use F.cxS hd fun v s₁ k₁ C₁ r₁ => ?_) (hs env) (hw env)
      (refine ob_EEAAA r₁.tup_inv fun a vs z5q _ ht q => ?_; obtain rfl := z5q)
      exact Tg w A _ s₁ env Ex₀ M h₀ ω σ σ' (.ref a) (.tup ds) _ (F.keep (keeps_up k₁)) ⟨a,vs,ds,rfl,rfl,ht,q.ofFlat hfl⟩ hb fun s' ω' a' F' => ⟨ω',(After.keeps k₁).trans a',rfl,F'⟩
    · cases hg
  · cases hg
theorem RepAll.eraseIdx {h : Heap} {Ex : Addr → Prop} : ∀ {vs : List Value} {ds : List D} (k : Nat),RepAll h Ex vs ds → RepAll h Ex (vs.eraseIdx k) (ds.eraseIdx k)
  | _,_,_,.nil => .nil
  | _,_,0,.cons a r => r
  | _,_,k + 1,.cons a r => .cons a (r.eraseIdx k)
theorem RepAll.set {h : Heap} {Ex : Addr → Prop} {v : Value} {d : D} (x : Rep h Ex v d) : ∀ {vs : List Value} {ds : List D} (k : Nat),RepAll h Ex vs ds → RepAll h Ex (vs.set k v) (ds.set k d)
  | _,_,_,.nil => .nil
  | _,_,0,.cons a r => .cons x r
  | _,_,k + 1,.cons a r => .cons a (r.set x k)
theorem eraseIdx_arr (vs : List Value) (k : Nat) (hk : k < vs.length) : vs.toArray.eraseIdxIfInBounds k = (vs.eraseIdx k).toArray := by
  unfold Array.eraseIdxIfInBounds
  rw [dif_pos (by rw [List.size_toArray]; exact hk)]
  apply Array.toList_inj.mp
  rw [Array.toList_eraseIdx]
theorem fit_nat {k : Nat} (h : k < 16777300) : Builtin.List.listFitsIndex (k : Int) = true := by
  unfold Builtin.List.listFitsIndex
  rw [Bool.and_eq_true,decide_eq_true_eq,decide_eq_true_eq]
  exact ⟨Int.le_trans (by decide) (Int.natCast_nonneg k),Int.lt_trans (Int.ofNat_lt.mpr h) (by decide)⟩
theorem seq_nat {k m : Nat} (h : k < m) : seqIndex? (k : Int) m = some k := by
  unfold seqIndex?
  have h1 : ¬ ((k : Int) < 0) := by exact Int.not_lt.mpr (Int.natCast_nonneg _)
  have h2 : (k : Int) < (m : Int) := by exact Int.ofNat_lt.mpr (by assumption)
  have h3 : (0 : Int) ≤ (k : Int) := by exact Int.natCast_nonneg _
  simp [h1,h2]
theorem call_pop_at {w : World} {A : Around} {E : Value → Shared → Prop} {s : Shared} {a : Addr} {items : Array Value} {nn k : Nat} {z : Int} {t : Tok} {y : Value} {Q : Value → Shared → Prop} (hf : Builtin.List.listFitsIndex z = true) (hk : seqIndex? z items.size = some k) (e : s.heap.get? a = some { cls := .type "list",data := .seq items nn }) (hz : items.size ≤ sizeLine) (hy : items[k]? = some y)
    (hq : Q y { s with heap := s.heap.update a (Obj.mapSeq fun xs => xs.eraseIdxIfInBounds k) }) : wpAny (model prog w) A (call (.builtin "list.pop") [.ref a,.int z t]) Q E s := by
  refine call_meets PySem.F.slot_list_pop ⟨_,e,rfl⟩ PySem.F.entry_list_pop (PySem.F.args_list_pop_2 _ _) (PySem.MeetsSeq.list_pop_at a items nn z t k y hf hk hy hz) ⟨e,?_⟩
  exact hq
theorem pop_core {w : World} {A : Around} {s : Shared} {env : Env} {Ex₀ : Addr → Prop} {M : List Addr} {h₀ : Heap} {ω : Nat → Option Addr} {σ : Sto} {i : Nat} {ds : List D} {d : D} {k : Nat} {a : Addr} {vs : List Value} {E : Value → Shared → Prop} {Q : Value → Shared → Prop} {args : List Value}
    (F : FS (K w.params) n T A env Ex₀ M h₀ ω s.heap σ) (hl : look σ i = some (.ow ds)) (hd : ds[k]? = some d) (hi : ω i = some a) (l : s.heap.PlainList a vs.toArray) (r : RepAll s.heap (Exf Ex₀ M ω) vs ds)
    (hcall : ∀ nn y,s.heap.get? a = some { cls := .type "list",data := .seq vs.toArray nn } → vs.toArray[k]? = some y → Q y { s with heap := s.heap.update a (Obj.mapSeq fun xs => xs.eraseIdxIfInBounds k) } → wpAny (model prog w) A (call (.builtin "list.pop") args) Q E s)
    (h : ∀ y h',Rep h' (Exf Ex₀ M ω) y d → After s { s with heap := h' } M ω ω → FS (K w.params) n T A env Ex₀ M h₀ ω h' (put σ i (some (.ow (ds.eraseIdx k)))) → Q y { s with heap := h' }) : wpAny (model prog w) A (call (.builtin "list.pop") args) Q E s := by
  refine ob_EA (r.get hd) fun y hy ry => ?_
  refine ob_E (id l) fun nn e => ?_
  have hk : k < vs.length := (List.getElem?_eq_some_iff.mp hy).1
  refine hcall nn y e (by simpa using hy) ?_
  have hs : Heap.SameBut a s.heap (s.heap.update a (Obj.mapSeq fun xs => xs.eraseIdxIfInBounds k)) := Heap.SameBut.update ..
  have l' : (s.heap.update a (Obj.mapSeq fun xs => xs.eraseIdxIfInBounds k)).PlainList a (vs.eraseIdx k).toArray := by
    have q := PySem.IsL.update (show PySem.IsL s.heap a vs.toArray nn from e) fun xs => xs.eraseIdxIfInBounds k
    rw [eraseIdx_arr vs k hk] at q
    exact ⟨_,q⟩
  have ex : ∃ o,(s.heap.update a (Obj.mapSeq fun xs => xs.eraseIdxIfInBounds k)).get? a = some o := let ⟨_,e⟩ := l'; ⟨_,e⟩
  exact h y _ (ry.mono fun b o e ho => ⟨e,(hs.2 b fun q => e (.inr (.inr ⟨i,q ▸ hi⟩))).trans ho⟩) (F.after hi hs ex) (F.setIn hi hs l' (r.eraseIdx k) ⟨ds,hl⟩)
noncomputable def popEnd (i : Nat) (σ : Sto) : Option PF := match look σ i with
  | some (.ow ds) => if ds.length ≤ sizeLine then ds[ds.length - 1]?.bind fun d => if d.flat then some (.next (put σ i (some (.ow (ds.eraseIdx (ds.length - 1)))))) else none else none
  | _ => none
theorem DS.popEnd {x : Str} {xp apos cpos pos : Pos} {i : Nat} (hx : T.vars[i]? = some x) (hdb : (x == ("__debug__" : Str)) = false := by decide) (hline : (apos.endLine == cpos.line) = true := by rfl)
    (hsw : ∀ env,swapsWith (.Call (.Attribute (.Name x xp) "pop" apos) [] [] cpos) none pos.line env = pure false := by intro _; rfl) : DS prog K n T (.Expr (.Call (.Attribute (.Name x xp) "pop" apos) [] [] cpos) pos) (Internal.popEnd i) := by
  intro w A s env Ex₀ M h₀ ω σ r F hg
  unfold Internal.popEnd at hg
  split at hg
  · rename_i ds hl
    split at hg
    · rename_i hz
      refine ob_EA (Option.bind_eq_some_iff.mp hg) fun d hd hg => ?_
      split at hg
      · rename_i hfl
        cases hg
        refine ob_EEAAA (F.ow hx hl) fun a vs hi b l rr => ?_
        have C := F.cxS
        refine wpAny_Expr (wpAny_mono (Call_method0 (Q := fun v s' => (∀ c,v ≠ .ref c) ∧ Post (K w.params) n T A env Ex₀ M h₀ ω s (.next (put σ i (some (.ow (ds.eraseIdx (ds.length - 1)))))) .next s') base_name hline (wpAny_Name (wpAny_loadVar C.kind b ?_) hdb)) (fun v s' h => ?_) fun _ _ e => e) (quiet C.kind) (hsw env)
        · refine ⟨"list",_,PySem.F.plainAttrs_list,PySem.F.slot_list_pop,PySem.F.type_list_pop,l.isList.typeIs,fun c e => ?_,?_⟩
          · cases e
            (refine ob_E l fun nn e => ?_; try clear l)
            exact ⟨_,e,rfl⟩
          · refine Calls.callWith_builtin rfl (evalArgs_nil3 ?_)
            refine pop_core (k := ds.length - 1) (args := [.ref a]) F hl hd hi l rr (fun nn y e hy hq => ?_) fun y h' ry af F' => ⟨?_,ω,af,rfl,F'⟩
            · have hsz : vs.toArray.size = ds.length := by rw [List.size_toArray,rr.length]
              have m := PySem.MeetsSeq.list_pop_last a vs.toArray nn y (by rw [hsz]; exact hy) (by rw [hsz]; exact hz)
              rw [hsz] at m
              exact call_meets PySem.F.slot_list_pop ⟨_,e,rfl⟩ PySem.F.entry_list_pop (PySem.F.args_list_pop_1 _) m ⟨e,hq⟩
            · intro c hc
              subst hc
              cases ry <;> cases hfl
        · obtain ⟨hv,h⟩ := h
          cases v <;> first | exact h | exact absurd rfl (hv _)
      · cases hg
    · cases hg
  · cases hg
noncomputable def popAt (i j : Nat) (f : Sto → Option D) (σ : Sto) : Option PF := match look σ i with
  | some (.ow ds) => if ds.length ≤ sizeLine then (f σ).bind fun z => match z with
      | .int z => if 0 ≤ z then ds[z.toNat]?.map fun d => .next (put (put σ i (some (.ow (ds.eraseIdx z.toNat)))) j (some (.fz d))) else none
      | _ => none
    else none
  | _ => none
theorem DS.popAt {x y : Str} {xp yp apos cpos pos : Pos} {e : Expr} {i j : Nat} {f : Sto → Option D} (hx : T.vars[i]? = some x) (hy : T.vars[j]? = some y) (H : DE prog K n T e f) (hdb : (x == ("__debug__" : Str)) = false := by decide) (hs : ∀ env,starEach [e] env = [(false,eval e env)] := by intro _; rfl) (hline : (apos.endLine == cpos.line) = true := by rfl)
    (hsw : ∀ env,swapsWith (.Call (.Attribute (.Name x xp) "pop" apos) [e] [] cpos) (some (.Name y yp)) pos.line env = pure false := by intro _; rfl) : DS prog K n T (.Assign [.Name y yp] (.Call (.Attribute (.Name x xp) "pop" apos) [e] [] cpos) pos) (Internal.popAt i j f) := by
  intro w A s env Ex₀ M h₀ ω σ r F hg
  unfold Internal.popAt at hg
  split at hg
  · rename_i ds hl
    split at hg
    · rename_i hz
      refine ob_EA (Option.bind_eq_some_iff.mp hg) fun z hzz hg => ?_
      split at hg
      · rename_i z
        split at hg
        · rename_i h0
          (refine ob_EA (Option.map_eq_some_iff.mp hg) fun d hd z6q => ?_; obtain rfl := z6q)
          (refine ob_E (Int.eq_ofNat_of_zero_le h0) fun k z7q => ?_; obtain rfl := z7q)
          rw [Int.toNat_natCast] at hd ⊢
          refine ob_EEAAA (F.ow hx hl) fun a vs hi b l rr => ?_
          have C := F.cxS
          refine wpAny_Assign_Name (Call_method1 base_name (hs env) hline (wpAny_Name (wpAny_loadVar C.kind b ?_) hdb)) (hsw env)
          refine ⟨"list",_,PySem.F.plainAttrs_list,PySem.F.slot_list_pop,PySem.F.type_list_pop,l.isList.typeIs,fun c e => ?_,?_⟩
          · cases e
            (refine ob_E l fun nn e => ?_; try clear l)
            exact ⟨_,e,rfl⟩
          · refine Calls.callWith_builtin rfl (Calls.evalArgs_plain (Calls.spliced_cons (H.use C hzz fun u s₁ k₁ C₁ r₁ => Calls.spliced_nil ?_)))
            (refine ob_E r₁.int_inv fun t z8q => ?_; obtain rfl := z8q)
            have u₁ := keeps_up k₁
            have F₁ := F.keep u₁
            show wpAny _ _ (call (.builtin "list.pop") [.ref a,.int (k : Int) t]) _ _ _
            refine pop_core (k := k) (args := [.ref a,.int (k : Int) t]) F₁ hl hd hi (l.at fun o ho => u₁ a o ho) (rr.up u₁) (fun nn y e hy hq => ?_) fun y' h' ry af F' => F'.setFz hy ry fun h'' tk a' F'' => ⟨_,(After.keeps k₁).trans (af.trans a'),rfl,F''⟩
            have hsz : vs.toArray.size = ds.length := by rw [List.size_toArray,rr.length]
            have hlt : k < vs.toArray.size := by
              rw [hsz]; exact (List.getElem?_eq_some_iff.mp hd).1
            exact call_pop_at (fit_nat (by rw [hsz] at hlt; rw [sizeLine_eq] at hz; lia)) (seq_nat hlt) e (by rw [hsz]; exact hz) hy hq
        · cases hg
      · cases hg
    · cases hg
  · cases hg
end
end
section
variable {prog : Program}
section
variable {w : World} {A : Around} {E : Value → Shared → Prop} {s : Shared}
theorem setItem_plain {a : Addr} {items : Array Value} {k : Int} {t : Tok} {v : Value} {Q : Unit → Shared → Prop} (l : s.heap.PlainList a items) (h0 : 0 ≤ k) (hn : k < items.size) (hfit : Builtin.List.listFitsIndex k = true)
    (hQ : ∀ h',h'.PlainList a (items.setIfInBounds k.toNat v) → Heap.SameBut a s.heap h' → Q () { s with heap := h' }) : wpAny (model prog w) A (setItem (.ref a) (.int k t) v) Q E s := by
  refine ob_E (id l) fun nn ho => ?_
  have hT := l.isList.typeIs
  unfold setItem
  refine wpAny_holding (wpAny_bind (wpAny_sequenceKey hT (by decide) ?_))
  refine wpAny_bind (wpAny_callSpecial?_slot (name := Str.ofString "__setitem__") hT slot_list_setitem (wpAny_call_entry slot_list_setitem hT entry_list_setitem ?_ (args_list_setitem _ _ _)))
  show wpAny _ _ (Builtin.List.listSubscript? (.int k t) >>= _) _ _ s
  refine wpAny_bind (wpAny_listSubscript_int hfit ?_)
  clear hfit
  (refine ob_E (Int.eq_ofNat_of_zero_le h0) fun j z1q => ?_; obtain rfl := z1q)
  have hj : j < items.size := by exact Int.ofNat_lt.mp (by assumption)
  have hx : items[j]? = some items[j] := Array.getElem?_eq_getElem hj
  have fin : (s.heap.update a (Obj.mapSeq (·.setIfInBounds j v))).PlainList a (items.setIfInBounds j v) :=
    ⟨_,PySem.IsL.update (show PySem.IsL s.heap a items nn from ho) (·.setIfInBounds j v)⟩
  show wpAny _ _ ((seqItemAt a j >>= fun r => pure (r.map (j, ·))) >>= _) _ _ s
  refine wpAny_bind (wpAny_bind (wpAny_seqItemAt ho rfl (wpAny_pure ?_)))
  rw [hx]
  show wpAny _ _ (setSeqItemAt a j v >>= _) _ _ s
  refine wpAny_bind (wpAny_setSeqItemAt ho rfl ?_)
  first
    | exact wpAny_bind (wpAny_pure (wpAny_pure ⟨.none,rfl,wpAny_pure (hQ _ fin (Heap.SameBut.update ..))⟩))
    | exact wpAny_pure ⟨.none,rfl,wpAny_pure (hQ _ fin (Heap.SameBut.update ..))⟩
end
section
variable {K : Params → Frag} {n : Nat} {T : TE}
noncomputable def setS (i : Nat) (fk fv : Sto → Option D) (σ : Sto) : Option PF := (fv σ).bind fun d => match look σ i with
  | some (.ow ds) => (fk σ).bind fun z => match z with
    | .int z => if d.flat = true ∧ 0 ≤ z ∧ z.toNat < ds.length ∧ ds.length ≤ sizeLine then some (.next (put σ i (some (.ow (ds.set z.toNat d))))) else none
    | _ => none
  | _ => none
theorem DS.setS {x : Str} {xp spos pos : Pos} {ek ev : Expr} {i : Nat} {fk fv : Sto → Option D} (hx : T.vars[i]? = some x) (Hk : DE prog K n T ek fk) (Hv : DE prog K n T ev fv) (hdb : (x == ("__debug__" : Str)) = false := by decide)
    (hsw : ∀ env,swapsWith ev (some (.Subscript (.Name x xp) ek spos)) pos.line env = pure false := by intro _; rfl) : DS prog K n T (.Assign [.Subscript (.Name x xp) ek spos] ev pos) (Internal.setS i fk fv) := by
  intro w A s env Ex₀ M h₀ ω σ r F hg
  refine ob_EA (Option.bind_eq_some_iff.mp hg) fun d hd hg => ?_
  split at hg
  · rename_i ds hl
    refine ob_EA (Option.bind_eq_some_iff.mp hg) fun z hz hg => ?_
    split at hg
    · rename_i z
      split at hg
      · rename_i hc
        (refine ob_AAA hc fun hfl h0 hlt hsz => ?_; try clear hc)
        cases hg
        (refine ob_E (Int.eq_ofNat_of_zero_le h0) fun j z2q => ?_; obtain rfl := z2q)
        rw [Int.toNat_natCast] at hlt ⊢
        refine ob_EEAAA (F.ow hx hl) fun a vs hi b l rr => ?_
        have C := F.cxS
        refine wpAny_Assign_Subscript (Hv.use C hd fun v s₁ k₁ C₁ r₁ => wpAny_Name (wpAny_loadVar C.kind (b.up (keeps_up k₁)) (Hk.use C₁ hz fun u s₂ k₂ C₂ r₂ => ?_)) hdb) (hsw env)
        (refine ob_E r₂.int_inv fun t z3q => ?_; obtain rfl := z3q)
        have kk := keeps_trans k₁ k₂
        have F₂ := F.keep (keeps_up kk)
        have hvs : vs.length = ds.length := rr.length
        refine setItem_plain (l.at fun o ho => keeps_up kk a o ho) h0 (by rw [List.size_toArray,hvs]; exact Int.ofNat_lt.mpr (by assumption)) (fit_nat (by rw [sizeLine_eq] at hsz; lia)) fun h' l' hs' => ?_
        have l'' : h'.PlainList a (vs.set j v).toArray := by simpa using l'
        exact ⟨ω,(After.keeps kk).trans (F₂.after hi hs' (let ⟨_,e⟩ := l''; ⟨_,e⟩)),rfl,F₂.setIn hi hs' l'' ((rr.up (keeps_up kk)).set (r₁.ofFlat hfl) j) ⟨ds,hl⟩⟩
      · cases hg
    · cases hg
  · cases hg
theorem DE.glob {x : Str} {pos : Pos} {i : Int} {t : Tok} (hx : IsGlob K T x (.int i t)) : DE prog K n T (.Name x pos) (fun _ => some (.int i)) := by
  intro w A E s env Ex σ d C hf
  cases hf
  exact glob_use C hx ⟨keeps_refl s,.int _ _⟩
noncomputable def fLR : List D → Option (List D)
  | [.int a,.int b,.int c] => if c ≠ 0 ∧ c.natAbs < 1073741824 ∧ Builtin.Range.small a b c = true ∧ 0 ≤ Builtin.Range.rangeSize a b c ∧ Builtin.Range.rangeSize a b c ≤ 16777216 then some ((List.range (Builtin.Range.rangeSize a b c).toNat).map fun (i : Nat) => D.int (a + (i : Int) * c)) else none
  | _ => none
theorem ints_rep {h : Heap} {Ex : Addr → Prop} {a c : Int} {m : Nat} {acc : Array Value} (x : ItemsOf (fun i v => ∃ t,v = .int (a + i * c) t) acc m) : RepAll h Ex acc.toList ((List.range m).map fun (i : Nat) => D.int (a + (i : Int) * c)) := by
  have : ∀ (vs : List Value) (k : Nat),(∀ j v,vs[j]? = some v → ∃ t,v = Value.int (a + ((k + j : Nat) : Int) * c) t) → RepAll h Ex vs ((List.range' k vs.length).map fun (i : Nat) => D.int (a + (i : Int) * c)) := by
    intro vs
    induction vs with
    | nil => intros; exact .nil
    | cons v vs ih =>
      intro k hk
      (refine ob_E (hk 0 v rfl) fun t z4q => ?_; obtain rfl := z4q)
      rw [List.length_cons,List.range'_succ,List.map_cons]
      refine .cons (by rw [Nat.add_zero]; exact .int _ _) (ih (k + 1) fun j v hj => ?_)
      have := hk (j + 1) v (by simpa using hj)
      rwa [show k + (j + 1) = k + 1 + j by simp +arith] at this
  have q := this acc.toList 0 fun j v hj => by
    have := x.2 j v (by simpa using hj)
    rwa [Nat.zero_add]
  rw [List.range_eq_range']
  have e : acc.toList.length = m := by rw [Array.length_toList]; exact x.1
  rwa [e] at q
theorem DF.listRange {x y : Str} {np rp rpos pos : Pos} {e : Expr} {es : List Expr} {f : Sto → Option (List D)} (hx : IsBuilt K T x (.type "list")) (hy : IsBuilt K T y (.type "range")) (hs : DEs prog K n T (e :: es) f)
    (hp : ∀ env,starEach (e :: es) env = (false,eval e env) :: starEach es env := by intro _; rfl) (ha : ∀ env pos,(backTo pos (starEach (e :: es) env)).any (·.1) = false := by intro _ _; rfl)
    (hp' : ∀ env,starEach [.Call (.Name y rp) (e :: es) [] rpos] env = (false,eval (.Call (.Name y rp) (e :: es) [] rpos) env) :: starEach [] env := by intro _; rfl) (ha' : ∀ env pos,(backTo pos (starEach [.Call (.Name y rp) (e :: es) [] rpos] env)).any (·.1) = false := by intro _ _; rfl) :
    DF prog K n T (.Call (.Name x np) [.Call (.Name y rp) (e :: es) [] rpos] [] pos) (fun σ => (f σ).bind fLR) := by
  intro w A E s env Ex σ ds C hf
  refine ob_EA (Option.bind_eq_some_iff.mp hf) fun as hd hf => ?_
  cases as with
  | nil => exact nn hf
  | cons x0 as => cases x0 with
    | int a =>
      cases as with
      | nil => exact nn hf
      | cons x1 as => cases x1 with
        | int b =>
          cases as with
          | nil => exact nn hf
          | cons x2 as => cases x2 with
            | int c =>
              cases as with
              | cons => exact nn hf
              | nil =>
                refine ob_A (ifs hf) fun hc hds => ?_
                (refine ob_AAAA hc fun c0 c1 c2 c3 c4 => ?_; try clear hc)
                subst hds
                refine call_glob (σ := σ) (Ex := Ex) (built_use C hx (PyProof.Rows.callWith_type (ha' env pos) (any_spliced (hp' env) (spliced_more (call_T hy hs hp ha C hd fun vs s₁ k₁ C₁ r => ?_) (hp' env)))))
                obtain ⟨v₁,vs,rfl,r₁,r'⟩ : ∃ v vs',vs = v :: vs' ∧ Rep s₁.heap Ex v (.int a) ∧ RepAll s₁.heap Ex vs' [.int b,.int c] := by
                  cases r with
                  | cons x y => exact ⟨_,_,rfl,x,y⟩
                (refine ob_EEAA (repAll_two r') fun v₂ v₃ z5q r₂ r₃ => ?_; obtain rfl := z5q)
                (refine ob_E r₁.int_inv fun t₁ z6q => ?_; obtain rfl := z6q)
                (refine ob_E r₂.int_inv fun t₂ z7q => ?_; obtain rfl := z7q)
                (refine ob_E r₃.int_inv fun t₃ z8q => ?_; obtain rfl := z8q)
                refine call_range_3 c0 ?_ (.inl (PyProof.noPylong_small c1))
                refine spliced_nil ?_
                rw [List.nil_append]
                refine ob_E (Int.eq_ofNat_of_zero_le c3) fun m hm => ?_
                have k₂ := keeps_trans k₁ (keeps_push s₁ { cls := .type "range",data := .fields #[.int a t₁,.int b t₂,.int c t₃] } s₁.toks)
                refine call_list_range (s := { s₁ with heap := s₁.heap.push { cls := .type "range",data := .fields #[.int a t₁,.int b t₂,.int c t₃] },toks := s₁.toks }) C.a.hd (IsRange.new ..) c2 hm (by lia) fun h' tk acc' c' u ho it => ?_
                have nn : s.heap.get? (s₁.heap.push { cls := .type "range",data := .fields #[.int a t₁,.int b t₂,.int c t₃] }).objs.size = none := by
                  cases e : s.heap.get? (s₁.heap.push { cls := .type "range",data := .fields #[.int a t₁,.int b t₂,.int c t₃] }).objs.size with
                  | none => rfl
                  | some o => exact absurd (Heap.lt_size (keeps_up k₂ _ o e)) (Nat.lt_irrefl _)
                refine ⟨_,acc'.toList,rfl,keeps_trans k₂ ⟨h',tk,rfl,u⟩,nn,fun q => Nat.lt_irrefl _ ((C.bel.up (keeps_up k₂)).lt q),⟨c',by rw [Array.toArray_toList]; exact ho⟩,?_⟩
                rw [hm,Int.toNat_natCast]
                exact ints_rep it
            | _ => exact nn hf
        | _ => exact nn hf
    | _ => exact nn hf
theorem DF.lst {es : List Expr} {pos : Pos} {f : Sto → Option (List D)} (h : DEs prog K n T es f) : DF prog K n T (.List es pos) (fun σ => (f σ).bind fun ds => if ds.length ≤ sizeLine then some ds else none) := by
  intro w A E s env Ex σ ds C hf
  refine ob_EA (Option.bind_eq_some_iff.mp hf) fun ds' hd hf => ?_
  split at hf
  · rename_i hz
    cases hf
    refine List_ (wpAny_mono (h w A E s env Ex σ _ pos C hd) (fun vs s₁ g => ?_) fun _ _ e => e)
    have hsz : sizeOk (.seq vs.toArray) := by show vs.toArray.size ≤ sizeLine; rw [List.size_toArray,g.2.length]; exact hz
    have nn : s.heap.get? s₁.heap.objs.size = none := by
      cases e : s.heap.get? s₁.heap.objs.size with
      | none => rfl
      | some o => exact absurd (Heap.lt_size (keeps_up g.1 _ o e)) (Nat.lt_irrefl _)
    refine wpAny_newObj_type ⟨s₁.heap.objs.size,vs,rfl,keeps_trans g.1 (keeps_push s₁ _ s₁.toks),nn,fun q => Nat.lt_irrefl _ ((C.bel.up (keeps_up g.1)).lt q),⟨_,Heap.get?_push_size _ rfl⟩,g.2.mono fun a o e ho => ⟨fun q => ?_,Heap.get?_push_of_some _ ho⟩⟩ hsz
    rcases q with q | q
    · exact e q
    · rw [q] at ho; exact absurd (Heap.lt_size ho) (Nat.lt_irrefl _)
  · cases hf
end
end
section
variable {prog : Program}
theorem bindL_other {k : Str → Option NameKind} : ∀ (b : List (Str × Value)) (m : Str → Option Value) (x : Str),x ∉ b.map (·.1) → bindL k b m x = m x
  | [],m,x,_ => rfl
  | (y,v) :: r,m,x,h => by
    rw [List.map_cons,List.mem_cons,not_or] at h
    unfold bindL
    rw [bindL_other r _ x h.2]
    split
    · exact if_neg h.1
    · rfl
theorem bindC_other {k : Str → Option NameKind} : ∀ (b : List (Str × Value)) (m : Str → Option Value) (x : Str),x ∉ b.map (·.1) → bindC k b m x = m x
  | [],m,x,_ => rfl
  | (y,v) :: r,m,x,h => by
    rw [List.map_cons,List.mem_cons,not_or] at h
    unfold bindC
    rw [bindC_other r _ x h.2]
    split
    · rfl
    · exact if_neg h.1
theorem zip_fst_sub : ∀ (ps : List Str) (vs : List Value) (x : Str),x ∈ (ps.zip vs).map (·.1) → x ∈ ps
  | [],_,_,h => by simp at h
  | _ :: _, [],_,h => by simp at h
  | p :: ps,v :: vs,x,h => by
    rw [List.zip_cons_cons,List.map_cons,List.mem_cons] at h
    rcases h with h | h
    · exact h ▸ List.mem_cons_self
    · exact List.mem_cons_of_mem _ (zip_fst_sub ps vs x h)
theorem bindL_get {k : Str → Option NameKind} : ∀ (ps : List Str) (vs : List Value) (m : Str → Option Value) (i : Nat) (x : Str) (v : Value),ps.Nodup → ps[i]? = some x → vs[i]? = some v → k x = some .local → bindL k (ps.zip vs) m x = some v
  | [],_,_,_,_,_,_,h,_,_ => by simp at h
  | _ :: _, [],_,_,_,_,_,_,h,_ => by simp at h
  | p :: ps,u :: vs,m,0,x,v,nd,hx,hv,hk => by
    refine ob_A (List.nodup_cons.mp nd) fun n1 n2 => ?_
    obtain rfl : p = x := Option.some.inj hx
    obtain rfl : u = v := Option.some.inj hv
    rw [List.zip_cons_cons]
    unfold bindL
    rw [bindL_other _ _ _ fun q => n1 (zip_fst_sub ps vs _ q),if_pos hk,if_pos rfl]
  | p :: ps,u :: vs,m,i + 1,x,v,nd,hx,hv,hk => by
    refine ob_A (List.nodup_cons.mp nd) fun n1 n2 => ?_
    rw [List.zip_cons_cons]
    unfold bindL
    exact bindL_get ps vs _ i x v n2 (by simpa using hx) (by simpa using hv) hk
theorem bindC_get {k : Str → Option NameKind} : ∀ (ps : List Str) (vs : List Value) (m : Str → Option Value) (i : Nat) (x : Str) (v : Value),ps.Nodup → ps[i]? = some x → vs[i]? = some v → k x = some .cell → bindC k (ps.zip vs) m x = some v
  | [],_,_,_,_,_,_,h,_,_ => by simp at h
  | _ :: _, [],_,_,_,_,_,_,h,_ => by simp at h
  | p :: ps,u :: vs,m,0,x,v,nd,hx,hv,hk => by
    refine ob_A (List.nodup_cons.mp nd) fun n1 n2 => ?_
    obtain rfl : p = x := Option.some.inj hx
    obtain rfl : u = v := Option.some.inj hv
    rw [List.zip_cons_cons]
    unfold bindC
    rw [bindC_other _ _ _ fun q => n1 (zip_fst_sub ps vs _ q),if_neg (by rw [hk]; decide),if_pos rfl]
  | p :: ps,u :: vs,m,i + 1,x,v,nd,hx,hv,hk => by
    refine ob_A (List.nodup_cons.mp nd) fun n1 n2 => ?_
    rw [List.zip_cons_cons]
    unfold bindC
    exact bindC_get ps vs _ i x v n2 (by simpa using hx) (by simpa using hv) hk
noncomputable def FdOk (K : Frag) (fa : Addr) (sc : Scope) (body : List Stmt) (ps : List Str) : Prop :=
  ∃ o fd,K.lookup fa = some o ∧ o.data = .func fd ∧ fd.scope = sc ∧ fd.body = .stmts body ∧ fd.globals = mainGlobals ∧ fd.builtins = builtinsNs ∧ fd.closure = [] ∧ codeIn K fd.code fd.qualname = true ∧ ∀ vs : List Value,vs.length = ps.length → bindArgs fd ⟨vs, []⟩ = pure (ps.zip vs)
structure FnStat (sc : Scope) (ps vars : List Str) : Prop where
  kind : sc.kind = .function
  co : sc.isCoroutine = false
  gen : sc.isGenerator = false
  pre : ps = vars.take ps.length
  nd : vars.Nodup
  kinds : ∀ x ∈ vars,sc.names.lookup x = some .local ∨ (sc.names.lookup x = some .cell ∧ x ∈ (cellsFrom 0 sc.names []).map (·.1))
noncomputable def retF (g : Sto → Option PF) (σ : Sto) : Option D := (g σ).map fun r => match r with
  | .ret d => d
  | .next _ => .none
noncomputable def entry (m : Nat) (ds : List D) : Sto := (ds.map fun d => some (.fz d)) ++ List.replicate (m - ds.length) none
theorem look_entry {m : Nat} : ∀ {ds : List D} {i : Nat} {c : Cell},look ((ds.map fun d => some (.fz d)) ++ List.replicate m none) i = some c → ∃ d,c = .fz d ∧ ds[i]? = some d
  | [],i,c,h => by
    exfalso
    rw [List.map_nil,List.nil_append] at h
    induction m generalizing i with
    | zero => cases h
    | succ m ih =>
      rw [List.replicate_succ] at h
      cases i with
      | zero => cases h
      | succ i => exact ih i h
  | d :: ds,0,c,h => by
    cases h
    exact ⟨d,rfl,rfl⟩
  | d :: ds,i + 1,c,h => look_entry (ds := ds) (i := i) h
theorem mem_lookup_some {α : Type} {x : Str} : ∀ {l : List (Str × α)},x ∈ l.map (·.1) → (l.lookup x).isSome = true
  | [],h => by cases h
  | (y,c) :: l,h => by
    rw [List.map_cons,List.mem_cons] at h
    rw [List.lookup_cons]
    cases e : x == y with
    | true => rfl
    | false =>
      rcases h with h | h
      · rw [h,beq_self_eq_true] at e; cases e
      · exact mem_lookup_some h
section
variable {K : Params → Frag} {n : Nat}
theorem FnOk.of {fa : Addr} {sc : Scope} {body : List Stmt} {ps vars : List Str} {g : Sto → Option PF} (hK : ∀ P,FdOk (K P) fa sc body ps) (S : FnStat sc ps vars) (Hb : DB prog K n ⟨sc,vars⟩ body g) :
    FnOk prog K (n + 1) fa (fun ds => if ds.length = ps.length then retF g (entry vars.length ds) else none) := by
  intro w A s Ex vs ds d R hA hT hB hr hF hQ
  dsimp only at hF
  split at hF
  · rename_i hlen
    refine ob_EA (Option.map_eq_some_iff.mp hF) fun r hg hd => ?_
    (refine ob_EEAAAAAAAA (hK w.params) fun o fd ho hdata z1q hbody hgl hbi hclo hcode hbind => ?_; obtain rfl := z1q)
    have hvl : vs.length = ps.length := hr.length.trans hlen
    refine ob_EEEEEA (id hT) fun p loose mean mg mb hTop hIn => ?_
    have hpsv : ∀ i x,ps[i]? = some x → vars[i]? = some x ∧ i < ps.length := fun i x hx => by
      have hi : i < ps.length := (List.getElem?_eq_some_iff.mp hx).1
      refine ⟨?_,hi⟩
      rw [S.pre,List.getElem?_take_of_lt hi] at hx
      exact hx
    have hcellsL : ∀ k x,x ∈ (cellsFrom 0 fd.scope.names []).map (·.1) → ((cellsFrom k fd.scope.names []).lookup x).isSome = true := fun k x hx => mem_lookup_some (by rw [cellsFrom_names fd.scope.names k 0 [] [] rfl]; exact hx)
    refine codeAny_call_cells (by have := hA.dp; exact Nat.lt_of_le_of_lt (Nat.le_add_right _ _) (by assumption)) (hIn _ _ ho) hdata hTop.nolimit (codeRec_of hIn hcode) hbody (hbind vs hvl) hclo (fun x hx => ?_) (fun s₁ x => ?_) S.co S.gen S.kind
    · have hx' : x.1 ∈ ps := zip_fst_sub ps vs x.1 (List.mem_map_of_mem hx)
      refine ob_E (List.mem_iff_getElem?.mp hx') fun i hi => ?_
      rcases S.kinds x.1 (List.mem_of_getElem? (hpsv i x.1 hi).1) with h | ⟨h,hc⟩
      · exact .inl h
      · exact .inr ⟨h,hcellsL _ _ hc⟩
    · generalize henv : callEnvC fd s.heap.objs.size fa = env at x
      have eL : env.locals = s.heap.objs.size := by rw [← henv]; rfl
      have eS : env.scope = fd.scope := by rw [← henv]; rfl
      have eK : ∀ y,env.kindOf y = fd.scope.names.lookup y := fun y => by show env.scope.names.lookup y = _; rw [eS]
      have eC : env.cells = cellsFrom (s.heap.objs.size + 1) fd.scope.names [] := by rw [← henv]; rfl
      generalize hM : (env.locals :: vars.filterMap fun y => env.cells.lookup y) = M
      have memM : ∀ b ∈ M,b = env.locals ∨ ∃ y,env.cells.lookup y = some b := fun b hb => by
        rw [← hM] at hb
        rcases List.mem_cons.mp hb with h | h
        · exact .inl h
        · refine ob_EA (List.mem_filterMap.mp h) fun y _ hy => ?_
          exact .inr ⟨y,hy⟩
      have geM : ∀ b ∈ M,s.heap.objs.size ≤ b := fun b hb => by
        rcases memM b hb with h | ⟨y,hy⟩
        · exact Nat.le_of_eq (by rw [h,eL])
        · have := x.above y b (mem_of_lookup hy)
          rw [eL] at this
          exact Nat.le_of_lt this
      have nnM : ∀ b ∈ M,s.heap.get? b = none := fun b hb => by
        cases e : s.heap.get? b with
        | none => rfl
        | some o => exact absurd (Heap.lt_size e) (Nat.not_lt.mpr (geM b hb))
      have up : Up s.heap s₁.heap := x.toInCall.keep
      have hns := x.toInCall.ns
      have hFm : Fm ⟨fd.scope,vars⟩ vars.length env M s₁.heap := by
        refine ⟨eS,S.kind,S.nd,by rw [← hM]; exact List.mem_cons_self,fun b hb => ?_,⟨_,hns⟩,fun i y hi hy => ?_,fun i j y z c hi hy hz ky kz cy cz => ?_,fun j y c hy ky cy => ?_⟩
        · rcases memM b hb with h | ⟨y,hy⟩
          · (refine ob_EEEA hns fun o _ _ ho _ => ?_; try clear hns)
            exact ⟨o,h ▸ ho⟩
          · refine ob_EA (x.cell y b hy) fun o ho _ => ?_
            exact ⟨o,ho⟩
        · rcases S.kinds y (List.mem_of_getElem? hy) with h | ⟨h,hc⟩
          · exact .inl h
          · refine ob_E (Option.isSome_iff_exists.mp (hcellsL (s.heap.objs.size + 1) y hc)) fun c hc' => ?_
            rw [← eC] at hc'
            refine .inr ⟨h,c,hc',?_,_,x.cell y c hc'⟩
            rw [← hM]
            exact List.mem_cons_of_mem _ (List.mem_filterMap.mpr ⟨y,List.mem_of_getElem? hy,hc'⟩)
        · exact name_of_addr x.apart (mem_of_lookup cy) (mem_of_lookup cz)
        · exact Nat.ne_of_gt (x.above y c (mem_of_lookup cy))
      have g₀ : Grow s.heap Ex s₁.heap (Exf Ex M fun _ => none) := fun a o e ho => by
        refine ⟨fun q => ?_,up a o ho⟩
        rcases q with q | q | ⟨_,q⟩
        · exact e q
        · rw [nnM a q] at ho; cases ho
        · cases q
      have hFS : FS (K w.params) n ⟨fd.scope,vars⟩ (A.deeper env) env Ex M s.heap (fun _ => none) s₁.heap (entry vars.length ds) := by
        refine ⟨⟨hA.hd,by have := hA.dp; show A.depth + 1 + n < _; lia,by have := hA.un; show A.units + 3 + 8 * n + 8 < _; lia⟩,by rw [← henv]; exact hgl,by rw [← henv]; exact hbi,hFm,hT,up,hB.up up,nnM,fun i a e => (by cases e),fun i j a e => (by cases e),fun i y hy => ?_⟩
        cases hc : look (entry vars.length ds) i with
        | none => trivial
        | some c =>
          (refine ob_EA (look_entry hc) fun dd z2q hdd => ?_; obtain rfl := z2q)
          refine ob_EA (hr.get hdd) fun v hv rv => ?_
          have hi : i < ps.length := by rw [← hlen]; exact (List.getElem?_eq_some_iff.mp hdd).1
          have hpi : ps[i]? = some y := by rw [S.pre,List.getElem?_take_of_lt hi]; exact hy
          have ndp : ps.Nodup := by rw [S.pre]; exact S.nd.sublist (List.take_sublist _ _)
          refine ⟨v,?_,rv.mono g₀⟩
          rcases S.kinds y (List.mem_of_getElem? hy) with h | ⟨h,hcl⟩
          · exact .inl ⟨(eK y).trans h,_,hns,bindL_get ps vs _ i y v ndp hpi hv ((eK y).trans h)⟩
          · refine ob_E (Option.isSome_iff_exists.mp (hcellsL (s.heap.objs.size + 1) y hcl)) fun c hc' => ?_
            rw [← eC] at hc'
            refine .inr ⟨(eK y).trans h,c,hc',?_⟩
            have := x.cell y c hc'
            rwa [bindC_get ps vs _ i y v ndp hpi hv ((eK y).trans h)] at this
      refine wpAny_mono (Hb w (A.deeper env) s₁ env Ex M s.heap (fun _ => none) _ r hFS hg) (fun fl s₂ q => ?_) fun _ _ e => e.elim
      refine ob_EA q fun ω' a q => ?_
      have kk : PySem.Keeps s s₂ := by
        (refine ob_AA a fun z3q k _ => ?_; try clear a; obtain ⟨h₂,t₂,e₂⟩ := z3q)
        refine ob_EE x.toInCall.same fun h₁ t₁ e₁ => ?_
        subst e₂
        subst e₁
        exact ⟨h₂,t₂,rfl,fun b o e => k b o (fun q => by rw [nnM b q] at e; cases e) (fun i q => by cases q) (up b o e)⟩
      cases r with
      | ret d' =>
        (refine ob_EA q fun v z4q rv => ?_; try clear q; obtain rfl := z4q)
        cases hd
        exact hQ v s₂ ⟨kk,rv⟩
      | next σ' =>
        (refine ob_A q fun z5q _ => ?_; try clear q; obtain rfl := z5q)
        cases hd
        exact hQ .none s₂ ⟨kk,.none⟩
  · cases hF
end
noncomputable def cpCheck (T : TE) (scope : Scope) (own oc : List Str) (js : List Nat) (cs : List Str) : Bool :=
  decide (scope.kind = .function) && decide (∀ y ∈ scope.names,y.2 = .local → scope.names.lookup y.1 = some .local) && decide (ownC scope.names = oc) && decide (oc.length ≤ 1) &&
  decide (∀ p ∈ scope.names,p.2 = .free → p.1 ∈ cs) && decide (∀ x ∈ cs,(x,NameKind.free) ∈ scope.names ∧ T.sc.names.lookup x = some .cell ∧ x ∉ oc) && decide (js.map (T.vars[·]?) = cs.map some) &&
  decide (∀ x ∈ own,(relab scope T.sc).names.lookup x = some .local ∨ ((relab scope T.sc).names.lookup x = some .cell ∧ x ∈ oc)) && decide (∀ x ∈ cs,(relab scope T.sc).names.lookup x = some .cell) && decide ((own ++ cs).Nodup)
theorem CpOk.of {T : TE} {scope : Scope} {own oc : List Str} {js : List Nat} {cs : List Str} (h : cpCheck T scope own oc js cs = true) : CpOk T scope own oc js cs := by
  unfold cpCheck at h
  simp only [Bool.and_eq_true,decide_eq_true_eq] at h
  (refine ob_A h fun z6q k => ?_; try clear h; obtain ⟨⟨⟨⟨⟨⟨⟨⟨a,b⟩,c⟩,d⟩,e⟩,f⟩,g⟩,i⟩,j⟩ := z6q)
  refine ⟨a,b,c,?_,e,f,g,i,j,k⟩
  match oc,d with
  | [],_ => exact .inl rfl
  | [x],_ => exact .inr ⟨x,rfl⟩
noncomputable def fnCheck (sc : Scope) (ps vars : List Str) : Bool :=
  decide (sc.kind = .function) && decide (sc.isCoroutine = false) && decide (sc.isGenerator = false) && decide (ps = vars.take ps.length) && decide (vars.Nodup) &&
  decide (∀ x ∈ vars,sc.names.lookup x = some .local ∨ (sc.names.lookup x = some .cell ∧ x ∈ (cellsFrom 0 sc.names []).map (·.1)))
theorem FnStat.of {sc : Scope} {ps vars : List Str} (h : fnCheck sc ps vars = true) : FnStat sc ps vars := by
  unfold fnCheck at h
  simp only [Bool.and_eq_true,decide_eq_true_eq] at h
  (refine ob_A h fun z7q f => ?_; try clear h; obtain ⟨⟨⟨⟨a,b⟩,c⟩,d⟩,e⟩ := z7q)
  exact ⟨a,b,c,d,e,f⟩
theorem FnOk.mono {K : Params → Frag} {n m : Nat} {fa : Addr} {F : List D → Option D} (h : FnOk prog K n fa F) (k : n ≤ m) : FnOk prog K m fa F := fun w A s Ex vs ds d R ha => h w A s Ex vs ds d R (ha.one k)
end
section
variable {prog : Program} {K : Params → Frag}
noncomputable def envS (sc : Scope) : Env := { scope := sc,locals := 0,globals := 0,cells := [],qual := "",func := none,code := .none,frame := none,builtins := 0 }
theorem swapped_env (ts : List Expr) (v : Expr) (env : Env) : swappedStores ts v env = swappedStores ts v (envS env.scope) := rfl
theorem swap_of {ts : List Expr} {v : Expr} {env : Env} {sc : Scope} {r : Sem (Option (List Str))} (he : env.scope = sc) (h : swappedStores ts v (envS sc) = r) : swappedStores ts v env = r := by
  rw [swapped_env,he]; exact h
theorem swaps_env (v : Expr) (t : Option Expr) (l : Nat) (env : Env) : swapsWith v t l env = swapsWith v t l (envS env.scope) := rfl
theorem swaps_of {v : Expr} {t : Option Expr} {l : Nat} {env : Env} {sc : Scope} {r : Sem Bool} (he : env.scope = sc) (h : swapsWith v t l (envS sc) = r) : swapsWith v t l env = r := by
  rw [swaps_env,he]; exact h
noncomputable def asg2F (i j : Nat) (f : Sto → Option D) (σ : Sto) : Option PF := (f σ).bind fun d => if d.flat then some (.next (put (put σ i (some (.fz d))) j (some (.fz d)))) else none
theorem DS.asg2 {n : Nat} {T : TE} {x y : Str} {px py pos : Pos} {e : Expr} {i j : Nat} {f : Sto → Option D} (hx : T.vars[i]? = some x) (hy : T.vars[j]? = some y) (H : DE prog K n T e f) (hs : ∀ env,swapsWithSole [.Name x px,.Name y py] e pos.line env = pure false := by intro _; rfl)
    (hw : ∀ env,swappedStores [.Name x px,.Name y py] e env = pure none := by intro _; rfl) : DS prog K n T (.Assign [.Name x px,.Name y py] e pos) (asg2F i j f) := by
  intro w A s env Ex₀ M h₀ ω σ r F hg
  refine ob_EA (Option.bind_eq_some_iff.mp hg) fun d hd hg => ?_
  split at hg
  · rename_i hfl
    cases hg
    refine wpAny_Assign_two (H.use F.cxS hd fun v s₁ k₁ _ r₁ => ?_)
    refine wpAny_assign_Name ((F.keep (keeps_up k₁)).setFz hx (r₁.ofFlat hfl) fun h₁ t₁ a₁ F₁ => ?_)
    refine wpAny_assign_Name (FS.setFz (s := { s₁ with heap := h₁,toks := t₁ }) F₁ hy (r₁.ofFlat hfl) fun h₂ t₂ a₂ F₂ => ?_)
    exact ⟨_,(After.keeps k₁).trans (a₁.trans a₂),rfl,F₂⟩
  · cases hg
noncomputable def defAt (i : Nat) : Stmt := (PySem.Challenge.pw_tp0061_01.main.body[i]?).getD (.Pass ⟨0,0,0,0⟩)
noncomputable def bodyAt (i : Nat) : List Stmt := match defAt i with
  | .FunctionDef _ _ b _ _ _ _ _ _ _ => b
  | _ => []
noncomputable def stmtAt (i j : Nat) : Stmt := ((bodyAt i)[j]?).getD (.Pass ⟨0,0,0,0⟩)
noncomputable def scopeAt (i : Nat) : Scope := match defAt i with
  | .FunctionDef _ _ _ _ _ _ s _ _ _ => s
  | _ => ⟨.module, [],false,false, []⟩
noncomputable abbrev GL (K : Params → Frag) (x : Str) (v : Value) : Prop := ∀ P,nsIn (K P) mainGlobals x = some (some v)
noncomputable abbrev BL (K : Params → Frag) (x : Str) : Prop := ∀ P,nsIn (K P) mainGlobals x = some none
theorem isGlob {T : TE} {x : Str} {v : Value} (h : GL K x v) (a : T.sc.names.lookup x = some .globalImplicit := by rfl) (b : (x == ("__debug__" : Str)) = false := by rfl) : IsGlob K T x v := ⟨a,b,h⟩
theorem isBuilt {T : TE} {x : Str} {v : Value} (h : BL K x) (d : bootBuiltins x = some v) (a : T.sc.names.lookup x = some .globalImplicit := by rfl) (b : (x == ("__debug__" : Str)) = false := by rfl) (c : x ≠ "__name__" := by decide) : IsBuilt K T x v := ⟨a,b,c,h,d⟩
theorem DE.globI {n : Nat} {T : TE} {x : Str} {pos : Pos} {i : Int} (hx : ∃ t,GL K x (.int i t)) (a : T.sc.names.lookup x = some .globalImplicit := by rfl) (b : (x == ("__debug__" : Str)) = false := by rfl) : DE prog K n T (.Name x pos) (fun _ => some (.int i)) := let ⟨_,h⟩ := hx; DE.glob ⟨a,b,h⟩
theorem FdOk.fn {K : Frag} {fa : Addr} {sc : Scope} {body : List Stmt} {ps : List Str} (h : FdOk K fa sc body ps) : ∃ o fd,K.lookup fa = some o ∧ o.data = .func fd := let ⟨o,fd,a,b,_⟩ := h; ⟨o,fd,a,b⟩
theorem bb_int : bootBuiltins "int" = some (.type "int") := by kernel_rfl
theorem bb_enumerate : bootBuiltins "enumerate" = some (.type "enumerate") := by kernel_rfl
theorem bb_range : bootBuiltins "range" = some (.type "range") := by kernel_rfl
theorem bb_list : bootBuiltins "list" = some (.type "list") := by kernel_rfl
theorem bb_len : bootBuiltins "len" = some (.builtin "len") := by kernel_rfl
theorem bb_abs : bootBuiltins "abs" = some (.builtin "abs") := by kernel_rfl
theorem bb_chr : bootBuiltins "chr" = some (.builtin "chr") := by kernel_rfl
theorem bb_max : bootBuiltins "max" = some (.builtin "max") := by kernel_rfl
theorem bb_min : bootBuiltins "min" = some (.builtin "min") := by kernel_rfl
theorem bb_divmod : bootBuiltins "divmod" = some (.builtin "divmod") := by kernel_rfl
theorem bb_sum : bootBuiltins "sum" = some (.builtin "sum") := by kernel_rfl
theorem FnOk.none {n : Nat} {fa : Addr} : FnOk prog K n fa (fun _ => Option.none) := by
  intro w A s Ex vs ds d R hA hT hB hr hF
  cases hF
end
section
set_option maxHeartbeats 0
noncomputable def tokTab : List (Str × Int) := ([("!",54),("!=",28),("%",24),("%=",40),("&",19),("&=",41),("(",7),(")",8),("*",16),("**",35),("**=",46),("*=",38),("+",14),("+=",36),(",",12),("-",15),("-=",37),("->",51),(".",23),("...",52),("/",17),("//",47),("//=",48),("/=",39),(":",11),(":=",53),(";",13),("<",20),("<<",33),("<<=",44),("<=",29),("=",22),("==",27),(">",21),(">=",30),(">>",34),(">>=",45),("@",49),("@=",50),("[",9),("]",10),("^",32),("^=",43),("{",25),("|",18),("|=",42),("}",26),("~",31)] : List (String × Int)).map fun p => (Str.ofString p.1,p.2)
structure KB (K : Params → Frag) : Prop where
  g_MOVE_COST : ∃ t,GL K "_MOVE_COST" (.int 2 t)
  g_CASE_COST : ∃ t,GL K "_CASE_COST" (.int 1 t)
  g_MAX_STRING_SIZE : ∃ t,GL K "_MAX_STRING_SIZE" (.int 40 t)
  b_int : BL K "int"
  b_enumerate : BL K "enumerate"
  b_range : BL K "range"
  b_list : BL K "list"
  b_len : BL K "len"
  b_abs : BL K "abs"
  b_chr : BL K "chr"
  b_max : BL K "max"
  b_min : BL K "min"
  b_divmod : BL K "divmod"
  b_sum : BL K "sum"
  f_EXACT : GL K "EXACT_TOKEN_TYPES" (.ref 60)
  tab : TabIs K 60 tokTab
  f_substitution_cost : GL K "_substitution_cost" (.ref 45)
  o_substitution_cost : ∀ P,FdOk (K P) 45 (scopeAt 6) (bodyAt 6) ["ch_a", "ch_b"]
  f_levenshtein_distance : GL K "_levenshtein_distance" (.ref 52)
  o_levenshtein_distance : ∀ P,FdOk (K P) 52 (scopeAt 7) (bodyAt 7) ["a", "b", "max_cost"]
  fInt2AP : GL K "Int2AP" (.ref 59)
  oInt2AP : ∀ P,FdOk (K P) 59 (scopeAt 9) (bodyAt 9) ["num"]
  o_law_names : ∀ P,FdOk (K P) 197 (scopeAt 68) (bodyAt 68) ["draws", "sizes"]
  f_law_due : GL K "_law_due" (.ref 209)
  o_law_due : ∀ P,FdOk (K P) 209 (scopeAt 70) (bodyAt 70) ["hosts", "sizes", "node"]
  f_law_symbols : GL K "_law_symbols" (.ref 216)
  o_law_symbols : ∀ P,FdOk (K P) 216 (scopeAt 71) (bodyAt 71) ["page"]
  f_law_roads : GL K "_law_roads" (.ref 223)
  o_law_roads : ∀ P,FdOk (K P) 223 (scopeAt 72) (bodyAt 72) ["page"]
  f_law_words : GL K "_law_words" (.ref 228)
  o_law_words : ∀ P,FdOk (K P) 228 (scopeAt 73) (bodyAt 73) ["roads"]
  f_law_products : GL K "_law_products" (.ref 233)
  o_law_products : ∀ P,FdOk (K P) 233 (scopeAt 74) (bodyAt 74) ["roads", "up", "down"]
  f_law_determinant : GL K "_law_determinant" (.ref 238)
  o_law_determinant : ∀ P,FdOk (K P) 238 (scopeAt 75) (bodyAt 75) ["table", "less"]
  f_law_agree : GL K "_law_agree" (.ref 245)
  o_law_agree : ∀ P,FdOk (K P) 245 (scopeAt 76) (bodyAt 76) ["page", "sizes", "up", "down", "less"]
theorem FnOk.ofP {prog : Program} {K : Params → Frag} {n : Nat} {fa : Addr} {sc : Scope} {body : List Stmt} {ps vars : List Str} (p : {g : Sto → Option PF // ∀ (prog : Program) (K : Params → Frag),KB K → DB prog K n ⟨sc,vars⟩ body g}) (H : KB K) (hK : ∀ P,FdOk (K P) fa sc body ps) (S : FnStat sc ps vars) :
    FnOk prog K (n + 1) fa (fun ds => if ds.length = ps.length then retF p.1 (entry vars.length ds) else Option.none) := FnOk.of hK S (p.2 prog K H)
noncomputable abbrev T6 : TE := ⟨scopeAt 6, ["ch_a", "ch_b"]⟩
noncomputable def p6 : {g : Sto → Option PF // ∀ (prog : Program) (K : Params → Frag),KB K → DB prog K 1 T6 (bodyAt 6) g} := ⟨_,fun prog K H => (DB.cons (DS.ite (DT.cmp op_eq (DE.name (i := 0) rfl rfl) (DE.name (i := 1) rfl rfl) rfl) (DB.cons (DS.ret DE.int)
  DB.nil) DB.nil)
  (DB.cons (DS.ite (DT.cmp op_eq (DE.lower (DE.name (i := 0) rfl rfl) (fun _ => rfl) rfl) (DE.lower (DE.name (i := 1) rfl rfl) (fun _ => rfl) rfl) rfl) (DB.cons (DS.ret (DE.globI H.g_CASE_COST))
  DB.nil) DB.nil)
  (DB.cons (DS.ret (DE.globI H.g_MOVE_COST))
  DB.nil)))⟩
noncomputable def F6 (ds : List D) : Option D := if ds.length = 2 then retF p6.1 (entry 2 ds) else none
theorem c6 {prog : Program} {K : Params → Frag} (H : KB K) : FnOk prog K 2 45 F6 := FnOk.ofP (K := K) (sc := scopeAt 6) (body := bodyAt 6) (ps := ["ch_a", "ch_b"]) (vars := ["ch_a", "ch_b"]) p6 H H.o_substitution_cost (FnStat.of (by decide +kernel))
noncomputable abbrev T7 : TE := ⟨scopeAt 7, ["a", "b", "max_cost", "pre", "post", "row", "result", "bindex", "bchar", "distance", "minimum", "index", "substitute", "insert_delete"]⟩
noncomputable def p7 : {g : Sto → Option PF // ∀ (prog : Program) (K : Params → Frag),KB K → DB prog K 2 T7 (bodyAt 7) g} := ⟨_,fun prog K H => (DB.cons (DS.ite (DT.cmp op_eq (DE.name (i := 0) rfl rfl) (DE.name (i := 1) rfl rfl) rfl) (DB.cons (DS.ret DE.int)
  DB.nil) DB.nil)
  (DB.cons (DS.asgS (i := 3) rfl DE.int)
  (DB.cons (DS.while (fun _ => 2000) (DT.bool (DTs.and (DT.plain (DE.slice (DE.name (i := 0) rfl rfl) (DP.yes (DE.name (i := 3) rfl rfl)) DP.no) (fun _ => rfl)) (DTs.and (DT.plain (DE.slice (DE.name (i := 1) rfl rfl) (DP.yes (DE.name (i := 3) rfl rfl)) DP.no) (fun _ => rfl)) (DTs.and (DT.cmp op_eq (DE.idx (DE.name (i := 0) rfl rfl) (DE.name (i := 3) rfl rfl) (fun _ _ => rfl)) (DE.idx (DE.name (i := 1) rfl rfl) (DE.name (i := 3) rfl rfl) (fun _ _ => rfl)) rfl) DTs.andNil)))) (DB.cons (DS.aug (i := 3) rfl iop_add DE.int)
  DB.nil))
  (DB.cons (DS.asgS (i := 0) rfl (DE.slice (DE.name (i := 0) rfl rfl) (DP.yes (DE.name (i := 3) rfl rfl)) DP.no))
  (DB.cons (DS.asgS (i := 1) rfl (DE.slice (DE.name (i := 1) rfl rfl) (DP.yes (DE.name (i := 3) rfl rfl)) DP.no))
  (DB.cons (DS.asgS (i := 4) rfl DE.int)
  (DB.cons (DS.while (fun _ => 2000) (DT.bool (DTs.and (DT.plain (DE.slice (DE.name (i := 0) rfl rfl) DP.no (DP.yes (DE.or2 (DE.name (i := 4) rfl rfl) DE.cnone))) (fun _ => rfl)) (DTs.and (DT.plain (DE.slice (DE.name (i := 1) rfl rfl) DP.no (DP.yes (DE.or2 (DE.name (i := 4) rfl rfl) DE.cnone))) (fun _ => rfl)) (DTs.and (DT.cmp op_eq (DE.idx (DE.name (i := 0) rfl rfl) (DE.bin op_sub (DE.name (i := 4) rfl rfl) DE.int) (fun _ _ => rfl)) (DE.idx (DE.name (i := 1) rfl rfl) (DE.bin op_sub (DE.name (i := 4) rfl rfl) DE.int) (fun _ _ => rfl)) rfl) DTs.andNil)))) (DB.cons (DS.aug (i := 4) rfl iop_sub DE.int)
  DB.nil))
  (DB.cons (DS.asgS (i := 0) rfl (DE.slice (DE.name (i := 0) rfl rfl) DP.no (DP.yes (DE.or2 (DE.name (i := 4) rfl rfl) DE.cnone))))
  (DB.cons (DS.asgS (i := 1) rfl (DE.slice (DE.name (i := 1) rfl rfl) DP.no (DP.yes (DE.or2 (DE.name (i := 4) rfl rfl) DE.cnone))))
  (DB.cons (DS.ite (DT.bool (DTs.or (DT.not (DT.plain (DE.name (i := 0) rfl rfl) (fun _ => rfl))) (DTs.or (DT.not (DT.plain (DE.name (i := 1) rfl rfl) (fun _ => rfl))) DTs.orNil))) (DB.cons (DS.ret (DE.bin op_mul (DE.globI H.g_MOVE_COST) (DE.bin op_add (DE.callB (isBuilt H.b_len bb_len) b_len (DEs.cons (DE.name (i := 0) rfl rfl) DEs.nil (fun _ => rfl)) (fun _ => rfl) (fun _ _ => rfl)) (DE.callB (isBuilt H.b_len bb_len) b_len (DEs.cons (DE.name (i := 1) rfl rfl) DEs.nil (fun _ => rfl)) (fun _ => rfl) (fun _ _ => rfl)))))
  DB.nil) DB.nil)
  (DB.cons (DS.ite (DT.bool (DTs.or (DT.cmp op_gt (DE.callB (isBuilt H.b_len bb_len) b_len (DEs.cons (DE.name (i := 0) rfl rfl) DEs.nil (fun _ => rfl)) (fun _ => rfl) (fun _ _ => rfl)) (DE.globI H.g_MAX_STRING_SIZE) rfl) (DTs.or (DT.cmp op_gt (DE.callB (isBuilt H.b_len bb_len) b_len (DEs.cons (DE.name (i := 1) rfl rfl) DEs.nil (fun _ => rfl)) (fun _ => rfl) (fun _ _ => rfl)) (DE.globI H.g_MAX_STRING_SIZE) rfl) DTs.orNil))) (DB.cons (DS.ret (DE.bin op_add (DE.name (i := 2) rfl rfl) DE.int))
  DB.nil) DB.nil)
  (DB.cons (DS.ite (DT.cmp op_lt (DE.callB (isBuilt H.b_len bb_len) b_len (DEs.cons (DE.name (i := 1) rfl rfl) DEs.nil (fun _ => rfl)) (fun _ => rfl) (fun _ _ => rfl)) (DE.callB (isBuilt H.b_len bb_len) b_len (DEs.cons (DE.name (i := 0) rfl rfl) DEs.nil (fun _ => rfl)) (fun _ => rfl) (fun _ _ => rfl)) rfl) (DB.cons (DS.tupSwap (is := [0,1]) (names := ["a", "b"]) (DKs.consS (DE.name (i := 1) rfl rfl) (DKs.consS (DE.name (i := 0) rfl rfl) DKs.nil)) (fun _ _ _ => ⟨⟨_,rfl,fun _ _ _ _ h => wpAny_bindName h⟩,⟨⟨_,rfl,fun _ _ _ _ h => wpAny_bindName h⟩,trivial⟩⟩) rfl (by decide) (fun env he => swap_of he rfl))
  DB.nil) DB.nil)
  (DB.cons (DS.ite (DT.cmp op_gt (DE.bin op_mul (DE.bin op_sub (DE.callB (isBuilt H.b_len bb_len) b_len (DEs.cons (DE.name (i := 1) rfl rfl) DEs.nil (fun _ => rfl)) (fun _ => rfl) (fun _ _ => rfl)) (DE.callB (isBuilt H.b_len bb_len) b_len (DEs.cons (DE.name (i := 0) rfl rfl) DEs.nil (fun _ => rfl)) (fun _ => rfl) (fun _ _ => rfl))) (DE.globI H.g_MOVE_COST)) (DE.name (i := 2) rfl rfl) rfl) (DB.cons (DS.ret (DE.bin op_add (DE.name (i := 2) rfl rfl) DE.int))
  DB.nil) DB.nil)
  (DB.cons (DS.asgO (i := 5) rfl (DF.listRange (isBuilt H.b_list bb_list) (isBuilt H.b_range bb_range) (DEs.cons (DE.globI H.g_MOVE_COST) (DEs.cons (DE.bin op_mul (DE.globI H.g_MOVE_COST) (DE.bin op_add (DE.callB (isBuilt H.b_len bb_len) b_len (DEs.cons (DE.name (i := 0) rfl rfl) DEs.nil (fun _ => rfl)) (fun _ => rfl) (fun _ _ => rfl)) DE.int)) (DEs.cons (DE.globI H.g_MOVE_COST) DEs.nil (fun _ => rfl)) (fun _ => rfl)) (fun _ => rfl))))
  (DB.cons (DS.asgS (i := 6) rfl DE.int)
  (DB.cons (DS.for (DI.range (isBuilt H.b_range bb_range) (DEs.cons (DE.callB (isBuilt H.b_len bb_len) b_len (DEs.cons (DE.name (i := 1) rfl rfl) DEs.nil (fun _ => rfl)) (fun _ => rfl) (fun _ _ => rfl)) DEs.nil (fun _ => rfl)) (fun _ => rfl) (fun _ _ => rfl)) (TgS.name (i := 7) rfl) (DB.cons (DS.asgS (i := 8) rfl (DE.idx (DE.name (i := 1) rfl rfl) (DE.name (i := 7) rfl rfl) (fun _ _ => rfl)))
  (DB.cons (DS.asg2 (i := 9) (j := 6) rfl rfl (DE.bin op_mul (DE.name (i := 7) rfl rfl) (DE.globI H.g_MOVE_COST)))
  (DB.cons (DS.asgS (i := 10) rfl DE.int)
  (DB.cons (DS.for (DI.range (isBuilt H.b_range bb_range) (DEs.cons (DE.callB (isBuilt H.b_len bb_len) b_len (DEs.cons (DE.name (i := 0) rfl rfl) DEs.nil (fun _ => rfl)) (fun _ => rfl) (fun _ _ => rfl)) DEs.nil (fun _ => rfl)) (fun _ => rfl) (fun _ _ => rfl)) (TgS.name (i := 11) rfl) (DB.cons (DS.asgS (i := 12) rfl (DE.bin op_add (DE.name (i := 9) rfl rfl) (DE.callF (isGlob H.f_substitution_cost) (fun P => (H.o_substitution_cost P).fn) (FnOk.mono (c6 (prog := prog) H) (by decide)) (DEs.cons (DE.name (i := 8) rfl rfl) (DEs.cons (DE.idx (DE.name (i := 0) rfl rfl) (DE.name (i := 11) rfl rfl) (fun _ _ => rfl)) DEs.nil (fun _ => rfl)) (fun _ => rfl)) (fun _ => rfl))))
  (DB.cons (DS.asgS (i := 9) rfl (DE.idx (DE.name (i := 5) rfl rfl) (DE.name (i := 11) rfl rfl) (fun _ _ => rfl)))
  (DB.cons (DS.asgS (i := 13) rfl (DE.bin op_add (DE.callB (isBuilt H.b_min bb_min) b_min (DEs.cons (DE.name (i := 6) rfl rfl) (DEs.cons (DE.name (i := 9) rfl rfl) DEs.nil (fun _ => rfl)) (fun _ => rfl)) (fun _ => rfl) (fun _ _ => rfl)) (DE.globI H.g_MOVE_COST)))
  (DB.cons (DS.asgS (i := 6) rfl (DE.callB (isBuilt H.b_min bb_min) b_min (DEs.cons (DE.name (i := 13) rfl rfl) (DEs.cons (DE.name (i := 12) rfl rfl) DEs.nil (fun _ => rfl)) (fun _ => rfl)) (fun _ => rfl) (fun _ _ => rfl)))
  (DB.cons (DS.setS (i := 5) rfl (DE.name (i := 11) rfl rfl) (DE.name (i := 6) rfl rfl))
  (DB.cons (DS.ite (DT.cmp op_lt (DE.name (i := 6) rfl rfl) (DE.name (i := 10) rfl rfl) rfl) (DB.cons (DS.asgS (i := 10) rfl (DE.name (i := 6) rfl rfl))
  DB.nil) DB.nil)
  DB.nil)))))))
  (DB.cons (DS.ite (DT.cmp op_gt (DE.name (i := 10) rfl rfl) (DE.name (i := 2) rfl rfl) rfl) (DB.cons (DS.ret (DE.bin op_add (DE.name (i := 2) rfl rfl) DE.int))
  DB.nil) DB.nil)
  DB.nil))))))
  (DB.cons (DS.ret (DE.name (i := 6) rfl rfl))
  DB.nil)))))))))))))))))⟩
noncomputable def F7 (ds : List D) : Option D := if ds.length = 3 then retF p7.1 (entry 14 ds) else none
theorem c7 {prog : Program} {K : Params → Frag} (H : KB K) : FnOk prog K 3 52 F7 := FnOk.ofP (K := K) (sc := scopeAt 7) (body := bodyAt 7) (ps := ["a", "b", "max_cost"]) (vars := ["a", "b", "max_cost", "pre", "post", "row", "result", "bindex", "bchar", "distance", "minimum", "index", "substitute", "insert_delete"]) p7 H H.o_levenshtein_distance (FnStat.of (by decide +kernel))
noncomputable abbrev T9 : TE := ⟨scopeAt 9, ["num", "val", "AP", "mod"]⟩
noncomputable def p9 : {g : Sto → Option PF // ∀ (prog : Program) (K : Params → Frag),KB K → DB prog K 1 T9 (bodyAt 9) g} := ⟨_,fun prog K H => (DB.cons (DS.asgS (i := 1) rfl DE.bytes)
  (DB.cons (DS.asgS (i := 2) rfl DE.bytes)
  (DB.cons (DS.asgS (i := 0) rfl (DE.callT (isBuilt H.b_int bb_int) b_int (DEs.cons (DE.callB (isBuilt H.b_abs bb_abs) b_abs (DEs.cons (DE.name (i := 0) rfl rfl) DEs.nil (fun _ => rfl)) (fun _ => rfl) (fun _ _ => rfl)) DEs.nil (fun _ => rfl)) (fun _ => rfl) (fun _ _ => rfl)))
  (DB.cons (DS.while (fun _ => 2000) (DT.plain (DE.name (i := 0) rfl rfl) (fun _ => rfl)) (DB.cons (DS.asgTup (DE.callB (isBuilt H.b_divmod bb_divmod) b_divmod (DEs.cons (DE.name (i := 0) rfl rfl) (DEs.cons DE.int DEs.nil (fun _ => rfl)) (fun _ => rfl)) (fun _ => rfl) (fun _ _ => rfl)) (TgS.tup (i := 0) (j := 3) rfl rfl))
  (DB.cons (DS.asgS (i := 1) rfl (DE.bin op_add (DE.slice (DE.name (i := 2) rfl rfl) (DP.yes (DE.name (i := 3) rfl rfl)) (DP.yes (DE.bin op_add (DE.name (i := 3) rfl rfl) DE.int))) (DE.name (i := 1) rfl rfl)))
  DB.nil)))
  (DB.cons (DS.ret (DE.name (i := 1) rfl rfl))
  DB.nil)))))⟩
noncomputable def F9 (ds : List D) : Option D := if ds.length = 1 then retF p9.1 (entry 4 ds) else none
theorem c9 {prog : Program} {K : Params → Frag} (H : KB K) : FnOk prog K 2 59 F9 := FnOk.ofP (K := K) (sc := scopeAt 9) (body := bodyAt 9) (ps := ["num"]) (vars := ["num", "val", "AP", "mod"]) p9 H H.oInt2AP (FnStat.of (by decide +kernel))
noncomputable abbrev T68 : TE := ⟨scopeAt 68, ["draws", "sizes", "names", "first", "place", "draw", "number"]⟩
noncomputable def p68 : {g : Sto → Option PF // ∀ (prog : Program) (K : Params → Frag),KB K → DB prog K 2 T68 (bodyAt 68) g} := ⟨_,fun prog K H => (@DB.cons _ _ _ _ _ _ _ _ (DS.tupSwap (is := [2,3]) (names := ["names", "first"]) (DKs.consO (DF.lst (DEs.cons (@DE.join _ _ _ _ _ _ _ _ _ _ DE.str (DF.toDE (DF.comp (CpOk.of (own := ["octet"]) (oc := []) (js := []) (cs := []) (by decide +kernel)) (DI.seq (DE.callF (isGlob H.fInt2AP) (fun P => (H.oInt2AP P).fn) (FnOk.mono (c9 (prog := prog) H) (by decide)) (DEs.cons DE.int DEs.nil (fun _ => rfl)) (fun _ => rfl))) (TgOk.name (i := 0) (by decide) rfl) (.inl ⟨rfl,rfl⟩) (DE.callB (isBuilt H.b_chr bb_chr) b_chr (DEs.cons (DE.name (i := 0) rfl rfl) DEs.nil (fun _ => rfl)) (fun _ => rfl) (fun _ _ => rfl)))) (fun _ => rfl) (fun _ => rfl) rfl) DEs.nil (fun _ => rfl))) (DKs.consS DE.int DKs.nil)) (fun _ _ _ => ⟨⟨_,rfl,fun _ _ _ _ h => wpAny_bindName h⟩,⟨⟨_,rfl,fun _ _ _ _ h => wpAny_bindName h⟩,trivial⟩⟩) rfl (by decide) (fun env he => swap_of he rfl))
  (DB.cons (DS.for (DI.enum (isBuilt H.b_enumerate bb_enumerate) (DEs.cons (DE.name (i := 0) rfl rfl) (DEs.cons DE.int DEs.nil (fun _ => rfl)) (fun _ => rfl)) (fun _ => rfl) (fun _ _ => rfl)) (TgS.tup (i := 4) (j := 5) rfl rfl) (DB.cons (DS.asgS (i := 6) rfl (DE.ife (DT.cmp op_eq (DE.idx (DE.name (i := 1) rfl rfl) (DE.name (i := 4) rfl rfl) (fun _ _ => rfl)) DE.int rfl) (DE.name (i := 3) rfl rfl) (DE.bin op_add (DE.bin op_mul DE.int (DE.name (i := 3) rfl rfl)) DE.int)))
  (DB.cons (DS.ite (DT.plain (DE.bin op_mod (DE.bin op_div (DE.name (i := 5) rfl rfl) (DE.bin op_mul DE.int (DE.name (i := 4) rfl rfl))) DE.int) (fun _ => rfl)) (DB.cons (DS.asgS (i := 6) rfl (DE.neg (DE.name (i := 6) rfl rfl)))
  DB.nil) DB.nil)
  (DB.cons (DS.appS (i := 2) rfl (@DE.join _ _ _ _ _ _ _ _ _ _ DE.str (DF.toDE (DF.comp (CpOk.of (own := ["octet"]) (oc := []) (js := []) (cs := []) (by decide +kernel)) (DI.seq (DE.callF (isGlob H.fInt2AP) (fun P => (H.oInt2AP P).fn) (FnOk.mono (c9 (prog := prog) H) (by decide)) (DEs.cons (DE.name (i := 6) rfl rfl) DEs.nil (fun _ => rfl)) (fun _ => rfl))) (TgOk.name (i := 0) (by decide) rfl) (.inl ⟨rfl,rfl⟩) (DE.callB (isBuilt H.b_chr bb_chr) b_chr (DEs.cons (DE.name (i := 0) rfl rfl) DEs.nil (fun _ => rfl)) (fun _ => rfl) (fun _ _ => rfl)))) (fun _ => rfl) (fun _ => rfl) rfl))
  (DB.cons (DS.aug (i := 3) rfl iop_add (DE.idx (DE.name (i := 1) rfl rfl) (DE.name (i := 4) rfl rfl) (fun _ _ => rfl)))
  DB.nil)))))
  (DB.cons (DS.ret (DE.name (i := 2) rfl rfl))
  DB.nil)))⟩
noncomputable def F68 (ds : List D) : Option D := if ds.length = 2 then retF p68.1 (entry 7 ds) else none
theorem c68 {prog : Program} {K : Params → Frag} (H : KB K) : FnOk prog K 3 197 F68 := FnOk.ofP (K := K) (sc := scopeAt 68) (body := bodyAt 68) (ps := ["draws", "sizes"]) (vars := ["draws", "sizes", "names", "first", "place", "draw", "number"]) p68 H H.o_law_names (FnStat.of (by decide +kernel))
noncomputable abbrev T71 : TE := ⟨scopeAt 71, ["page", "symbols", "size"]⟩
noncomputable def p71 : {g : Sto → Option PF // ∀ (prog : Program) (K : Params → Frag),KB K → DB prog K 1 T71 (bodyAt 71) g} := ⟨_,fun prog K H => (DB.cons (DS.asgO (i := 1) rfl (DF.lst DEs.nil))
  (DB.cons (DS.while (fun _ => 2000) (DT.plain (DE.name (i := 0) rfl rfl) (fun _ => rfl)) (DB.cons (DS.asgS (i := 2) rfl DE.int)
  (DB.cons (DS.while (fun _ => 2000) (DT.bool (DTs.and (DT.cmp op_gt (DE.name (i := 2) rfl rfl) DE.int rfl) (DTs.and (DT.notInTab (DE.slice (DE.name (i := 0) rfl rfl) DP.no (DP.yes (DE.name (i := 2) rfl rfl))) (isGlob H.f_EXACT) H.tab rfl) DTs.andNil))) (DB.cons (DS.aug (i := 2) rfl iop_sub DE.int)
  DB.nil))
  (DB.cons (DS.appS (i := 1) rfl (DE.getTab (isGlob H.f_EXACT) H.tab (DE.slice (DE.name (i := 0) rfl rfl) DP.no (DP.yes (DE.name (i := 2) rfl rfl))) (DE.slice (DE.name (i := 0) rfl rfl) DP.no (DP.yes (DE.name (i := 2) rfl rfl))) (fun _ => rfl) rfl))
  (DB.cons (DS.asgS (i := 0) rfl (DE.slice (DE.name (i := 0) rfl rfl) (DP.yes (DE.name (i := 2) rfl rfl)) DP.no))
  DB.nil)))))
  (DB.cons (DS.ret (DE.name (i := 1) rfl rfl))
  DB.nil)))⟩
noncomputable def F71 (ds : List D) : Option D := if ds.length = 1 then retF p71.1 (entry 3 ds) else none
theorem c71 {prog : Program} {K : Params → Frag} (H : KB K) : FnOk prog K 2 216 F71 := FnOk.ofP (K := K) (sc := scopeAt 71) (body := bodyAt 71) (ps := ["page"]) (vars := ["page", "symbols", "size"]) p71 H H.o_law_symbols (FnStat.of (by decide +kernel))
noncomputable abbrev T72 : TE := ⟨scopeAt 72, ["page", "roads", "opened", "name", "ending", "symbol"]⟩
noncomputable def p72 : {g : Sto → Option PF // ∀ (prog : Program) (K : Params → Frag),KB K → DB prog K 2 T72 (bodyAt 72) g} := ⟨_,fun prog K H => (DB.cons (DS.tup (is := [1,2,3,4]) (DKs.consO (DF.lst DEs.nil) (DKs.consO (DF.lst DEs.nil) (DKs.consS DE.str (DKs.consS DE.bool DKs.nil)))) (fun _ _ _ => ⟨⟨_,rfl,fun _ _ _ _ h => wpAny_assign_Name h⟩,⟨⟨_,rfl,fun _ _ _ _ h => wpAny_assign_Name h⟩,⟨⟨_,rfl,fun _ _ _ _ h => wpAny_assign_Name h⟩,⟨⟨_,rfl,fun _ _ _ _ h => wpAny_assign_Name h⟩,trivial⟩⟩⟩⟩) (fun _ => rfl) (fun _ => rfl) (by decide) (fun env he => swap_of he rfl))
  (DB.cons (DS.for (DI.seq (DE.callF (isGlob H.f_law_symbols) (fun P => (H.o_law_symbols P).fn) (FnOk.mono (c71 (prog := prog) H) (by decide)) (DEs.cons (DE.name (i := 0) rfl rfl) DEs.nil (fun _ => rfl)) (fun _ => rfl))) (TgS.name (i := 5) rfl) (DB.cons (DS.ite (DT.cmp op_eq (DE.name (i := 5) rfl rfl) DE.int rfl) (DB.cons (DS.tup (is := [3,4]) (DKs.consS DE.str (DKs.consS DE.bool DKs.nil)) (fun _ _ _ => ⟨⟨_,rfl,fun _ _ _ _ h => wpAny_assign_Name h⟩,⟨⟨_,rfl,fun _ _ _ _ h => wpAny_assign_Name h⟩,trivial⟩⟩) (fun _ => rfl) (fun _ => rfl) (by decide) (fun env he => swap_of he rfl))
  DB.nil) (DB.cons (DS.ite (DT.cmp op_eq (DE.name (i := 5) rfl rfl) DE.int rfl) (DB.cons (DS.asgS (i := 4) rfl DE.bool)
  DB.nil) (DB.cons (DS.ite (DT.cmp op_ne (DE.name (i := 5) rfl rfl) DE.int rfl) (DB.cons (DS.aug (i := 3) rfl iop_add (DE.name (i := 5) rfl rfl))
  DB.nil) (DB.cons (DS.ite (DT.plain (DE.name (i := 4) rfl rfl) (fun _ => rfl)) (DB.cons (DS.popEnd (i := 2) rfl)
  DB.nil) (DB.cons (DS.appS (i := 2) rfl (DE.name (i := 3) rfl rfl))
  (DB.cons (DS.appS (i := 1) rfl (@DE.join _ _ _ _ _ _ _ _ _ _ DE.str (DE.name (i := 2) rfl rfl) (fun _ => rfl) (fun _ => rfl) rfl))
  DB.nil)))
  DB.nil))
  DB.nil))
  DB.nil))
  DB.nil))
  (DB.cons (DS.ret (DE.name (i := 1) rfl rfl))
  DB.nil)))⟩
noncomputable def F72 (ds : List D) : Option D := if ds.length = 1 then retF p72.1 (entry 6 ds) else none
theorem c72 {prog : Program} {K : Params → Frag} (H : KB K) : FnOk prog K 3 223 F72 := FnOk.ofP (K := K) (sc := scopeAt 72) (body := bodyAt 72) (ps := ["page"]) (vars := ["page", "roads", "opened", "name", "ending", "symbol"]) p72 H H.o_law_roads (FnStat.of (by decide +kernel))
noncomputable abbrev T73 : TE := ⟨scopeAt 73, ["roads", "letters", "road"]⟩
noncomputable def p73 : {g : Sto → Option PF // ∀ (prog : Program) (K : Params → Frag),KB K → DB prog K 1 T73 (bodyAt 73) g} := ⟨_,fun prog K H => (DB.cons (DS.asgS (i := 1) rfl DE.str)
  (DB.cons (DS.for (DI.seq (DE.name (i := 0) rfl rfl)) (TgS.name (i := 2) rfl) (DB.cons (DS.aug (i := 1) rfl iop_add (@DE.join _ _ _ _ _ _ _ _ _ _ DE.str (DF.toDE (DF.comp (CpOk.of (own := ["letter"]) (oc := []) (js := [1]) (cs := ["letters"]) (by decide +kernel)) (DI.seq (DE.name (i := 2) rfl rfl)) (TgOk.name (i := 0) (by decide) rfl) (.inr ⟨_,rfl,(DT.cmp op_notIn (DE.name (i := 0) rfl rfl) (DE.name (i := 1) rfl rfl) rfl)⟩) (DE.name (i := 0) rfl rfl))) (fun _ => rfl) (fun _ => rfl) rfl))
  DB.nil))
  (DB.cons (DS.ret (DF.toDE (DF.comp (CpOk.of (own := ["road"]) (oc := ["road"]) (js := [1]) (cs := ["letters"]) (by decide +kernel)) (DI.seq (DE.name (i := 0) rfl rfl)) (TgOk.name (i := 0) (by decide) rfl) (.inl ⟨rfl,rfl⟩) (@DE.join _ _ _ _ _ _ _ _ _ _ DE.str (DF.toDE (DF.comp (CpOk.of (own := ["letter"]) (oc := []) (js := [0]) (cs := ["road"]) (by decide +kernel)) (DI.seq (DE.name (i := 1) rfl rfl)) (TgOk.name (i := 0) (by decide) rfl) (.inl ⟨rfl,rfl⟩) (DE.ife (DT.cmp op_in (DE.name (i := 0) rfl rfl) (DE.name (i := 1) rfl rfl) rfl) (DE.lower (DE.name (i := 0) rfl rfl) (fun _ => rfl) rfl) (DE.name (i := 0) rfl rfl)))) (fun _ => rfl) (fun _ => rfl) rfl))))
  DB.nil)))⟩
noncomputable def F73 (ds : List D) : Option D := if ds.length = 1 then retF p73.1 (entry 3 ds) else none
theorem c73 {prog : Program} {K : Params → Frag} (H : KB K) : FnOk prog K 2 228 F73 := FnOk.ofP (K := K) (sc := scopeAt 73) (body := bodyAt 73) (ps := ["roads"]) (vars := ["roads", "letters", "road"]) p73 H H.o_law_words (FnStat.of (by decide +kernel))
noncomputable abbrev T74 : TE := ⟨scopeAt 74, ["roads", "up", "down", "words", "rows", "apart", "place", "road", "row", "other", "goal", "distance", "lead"]⟩
noncomputable def p74 : {g : Sto → Option PF // ∀ (prog : Program) (K : Params → Frag),KB K → DB prog K 4 T74 (bodyAt 74) g} := ⟨_,fun prog K H => (DB.cons (DS.tup (is := [3,4]) (DKs.consV (DE.callF (isGlob H.f_law_words) (fun P => (H.o_law_words P).fn) (FnOk.mono (c73 (prog := prog) H) (by decide)) (DEs.cons (DE.name (i := 0) rfl rfl) DEs.nil (fun _ => rfl)) (fun _ => rfl)) (DKs.consO (DF.lst DEs.nil) DKs.nil)) (fun _ _ _ => ⟨⟨_,rfl,fun _ _ _ _ h => wpAny_assign_Name h⟩,⟨⟨_,rfl,fun _ _ _ _ h => wpAny_assign_Name h⟩,trivial⟩⟩) (fun _ => rfl) (fun _ => rfl) (by decide) (fun env he => swap_of he rfl))
  (DB.cons (DS.asgCompO (i := 5) rfl (CpOk.of (own := ["late", "word"]) (oc := ["word"]) (js := [3]) (cs := ["words"]) (by decide +kernel)) (DI.enum (isBuilt H.b_enumerate bb_enumerate) (DEs.cons (DE.name (i := 3) rfl rfl) DEs.nil (fun _ => rfl)) (fun _ => rfl) (fun _ _ => rfl)) (TgOk.tup (i := 0) (j := 1) (by decide) rfl (by decide) rfl) (.inl ⟨rfl,rfl⟩) (DF.toDE (DF.comp (CpOk.of (own := ["mate"]) (oc := []) (js := [1]) (cs := ["word"]) (by decide +kernel)) (DI.seq (DE.slice (DE.name (i := 2) rfl rfl) DP.no (DP.yes (DE.name (i := 0) rfl rfl)))) (TgOk.name (i := 0) (by decide) rfl) (.inl ⟨rfl,rfl⟩) (DE.callF (isGlob H.f_levenshtein_distance) (fun P => (H.o_levenshtein_distance P).fn) (FnOk.mono (c7 (prog := prog) H) (by decide)) (DEs.cons (DE.name (i := 1) rfl rfl) (DEs.cons (DE.name (i := 0) rfl rfl) (DEs.cons (DE.callB (isBuilt H.b_len bb_len) b_len (DEs.cons (DE.name (i := 1) rfl rfl) DEs.nil (fun _ => rfl)) (fun _ => rfl) (fun _ _ => rfl)) DEs.nil (fun _ => rfl)) (fun _ => rfl)) (fun _ => rfl)) (fun _ => rfl)))) (fun env he => swaps_of he rfl))
  (DB.cons (DS.for (DI.enum (isBuilt H.b_enumerate bb_enumerate) (DEs.cons (DE.name (i := 0) rfl rfl) DEs.nil (fun _ => rfl)) (fun _ => rfl) (fun _ _ => rfl)) (TgS.tup (i := 6) (j := 7) rfl rfl) (DB.cons (DS.asgO (i := 8) rfl (DF.lst DEs.nil))
  (DB.cons (DS.for (DI.enum (isBuilt H.b_enumerate bb_enumerate) (DEs.cons (DE.name (i := 0) rfl rfl) DEs.nil (fun _ => rfl)) (fun _ => rfl) (fun _ _ => rfl)) (TgS.tup (i := 9) (j := 10) rfl rfl) (DB.cons (DS.asgS (i := 11) rfl (DE.ife (DT.cmp op_eq (DE.name (i := 6) rfl rfl) (DE.name (i := 9) rfl rfl) rfl) DE.int (DE.idx (DE.idx (DE.name (i := 5) rfl rfl) (DE.callB (isBuilt H.b_max bb_max) b_max (DEs.cons (DE.name (i := 6) rfl rfl) (DEs.cons (DE.name (i := 9) rfl rfl) DEs.nil (fun _ => rfl)) (fun _ => rfl)) (fun _ => rfl) (fun _ _ => rfl)) (fun _ _ => rfl)) (DE.callB (isBuilt H.b_min bb_min) b_min (DEs.cons (DE.name (i := 6) rfl rfl) (DEs.cons (DE.name (i := 9) rfl rfl) DEs.nil (fun _ => rfl)) (fun _ => rfl)) (fun _ => rfl) (fun _ _ => rfl)) (fun _ _ => rfl))))
  (DB.cons (DS.asgS (i := 12) rfl (DE.bin op_sub (DE.bin op_add (DE.name (i := 11) rfl rfl) (DE.callB (isBuilt H.b_len bb_len) b_len (DEs.cons (DE.name (i := 7) rfl rfl) DEs.nil (fun _ => rfl)) (fun _ => rfl) (fun _ _ => rfl))) (DE.callB (isBuilt H.b_len bb_len) b_len (DEs.cons (DE.name (i := 10) rfl rfl) DEs.nil (fun _ => rfl)) (fun _ => rfl) (fun _ _ => rfl))))
  (DB.cons (DS.ite (DT.bool (DTs.or (DT.plain (DE.bin op_mod (DE.name (i := 12) rfl rfl) DE.int) (fun _ => rfl)) (DTs.or (DT.cmp op_lt (DE.name (i := 12) rfl rfl) DE.int rfl) (DTs.or (DT.cmp op_gt (DE.name (i := 12) rfl rfl) (DE.bin op_mul DE.int (DE.name (i := 11) rfl rfl)) rfl) DTs.orNil)))) (DB.cons (DS.ret (DE.lst DEs.nil))
  DB.nil) DB.nil)
  (DB.cons (DS.appS (i := 8) rfl (DE.bin op_mul (DE.bin op_pow (DE.name (i := 1) rfl rfl) (DE.bin op_div (DE.name (i := 12) rfl rfl) DE.int)) (DE.bin op_pow (DE.name (i := 2) rfl rfl) (DE.bin op_sub (DE.name (i := 11) rfl rfl) (DE.bin op_div (DE.name (i := 12) rfl rfl) DE.int)))))
  DB.nil)))))
  (DB.cons (DX.freeze 8 (DS.appF (i := 4) rfl (DE.name (i := 8) rfl rfl)))
  DB.nil))))
  (DB.cons (DS.ret (DE.name (i := 4) rfl rfl))
  DB.nil))))⟩
noncomputable def F74 (ds : List D) : Option D := if ds.length = 3 then retF p74.1 (entry 13 ds) else none
theorem c74 {prog : Program} {K : Params → Frag} (H : KB K) : FnOk prog K 5 233 F74 := FnOk.ofP (K := K) (sc := scopeAt 74) (body := bodyAt 74) (ps := ["roads", "up", "down"]) (vars := ["roads", "up", "down", "words", "rows", "apart", "place", "road", "row", "other", "goal", "distance", "lead"]) p74 H H.o_law_products (FnStat.of (by decide +kernel))
noncomputable abbrev T75 : TE := ⟨scopeAt 75, ["table", "less", "rows", "last", "sign", "tops", "head"]⟩
noncomputable def p75 : {g : Sto → Option PF // ∀ (prog : Program) (K : Params → Frag),KB K → DB prog K 1 T75 (bodyAt 75) g} := ⟨_,fun prog K H => (DB.cons (DS.tup (is := [2,3,4]) (DKs.consO (DF.comp (CpOk.of (own := ["row"]) (oc := []) (js := [1]) (cs := ["less"]) (by decide +kernel)) (DI.seq (DE.name (i := 0) rfl rfl)) (TgOk.name (i := 0) (by decide) rfl) (.inl ⟨rfl,rfl⟩) (DF.toDE (DF.comp (CpOk.of (own := ["entry"]) (oc := []) (js := [1]) (cs := ["less"]) (by decide +kernel)) (DI.seq (DE.name (i := 0) rfl rfl)) (TgOk.name (i := 0) (by decide) rfl) (.inl ⟨rfl,rfl⟩) (DE.bin op_sub (DE.name (i := 0) rfl rfl) (DE.name (i := 1) rfl rfl))))) (DKs.consS DE.int (DKs.consS DE.int DKs.nil))) (fun _ _ _ => ⟨⟨_,rfl,fun _ _ _ _ h => wpAny_assign_Name h⟩,⟨⟨_,rfl,fun _ _ _ _ h => wpAny_assign_Name h⟩,⟨⟨_,rfl,fun _ _ _ _ h => wpAny_assign_Name h⟩,trivial⟩⟩⟩) (fun _ => rfl) (fun _ => rfl) (by decide) (fun env he => swap_of he rfl))
  (DB.cons (DS.while (fun _ => 2000) (DT.cmp op_gt (DE.callB (isBuilt H.b_len bb_len) b_len (DEs.cons (DE.name (i := 2) rfl rfl) DEs.nil (fun _ => rfl)) (fun _ => rfl) (fun _ _ => rfl)) DE.int rfl) (DB.cons (DS.asgCompS (i := 5) rfl (CpOk.of (own := ["place", "row"]) (oc := []) (js := []) (cs := []) (by decide +kernel)) (DI.enum (isBuilt H.b_enumerate bb_enumerate) (DEs.cons (DE.name (i := 2) rfl rfl) DEs.nil (fun _ => rfl)) (fun _ => rfl) (fun _ _ => rfl)) (TgOk.tup (i := 0) (j := 1) (by decide) rfl (by decide) rfl) (.inr ⟨_,rfl,(DT.plain (DE.idx (DE.name (i := 1) rfl rfl) DE.int (fun _ _ => rfl)) (fun _ => rfl))⟩) (DE.name (i := 0) rfl rfl) (fun env he => swaps_of he rfl))
  (DB.cons (DS.ite (DT.not (DT.plain (DE.name (i := 5) rfl rfl) (fun _ => rfl))) (DB.cons (DS.ret DE.int)
  DB.nil) DB.nil)
  (DB.cons (DS.popAt (i := 2) (j := 6) rfl rfl (DE.idx (DE.name (i := 5) rfl rfl) DE.int (fun _ _ => rfl)))
  (DB.cons (DS.aug (i := 4) rfl iop_mul (DE.bin op_pow (DE.neg DE.int) (DE.idx (DE.name (i := 5) rfl rfl) DE.int (fun _ _ => rfl))))
  (DB.cons (DX.freeze 2 (DS.asgCompO (i := 2) rfl (CpOk.of (own := ["row"]) (oc := ["row"]) (js := [3,6]) (cs := ["last", "head"]) (by decide +kernel)) (DI.seq (DE.name (i := 2) rfl rfl)) (TgOk.name (i := 0) (by decide) rfl) (.inl ⟨rfl,rfl⟩) (DF.toDE (DF.comp (CpOk.of (own := ["k"]) (oc := []) (js := [0,1,2]) (cs := ["row", "last", "head"]) (by decide +kernel)) (DI.range (isBuilt H.b_range bb_range) (DEs.cons DE.int (DEs.cons (DE.callB (isBuilt H.b_len bb_len) b_len (DEs.cons (DE.name (i := 2) rfl rfl) DEs.nil (fun _ => rfl)) (fun _ => rfl) (fun _ _ => rfl)) DEs.nil (fun _ => rfl)) (fun _ => rfl)) (fun _ => rfl) (fun _ _ => rfl)) (TgOk.name (i := 0) (by decide) rfl) (.inl ⟨rfl,rfl⟩) (DE.bin op_div (DE.bin op_sub (DE.bin op_mul (DE.idx (DE.name (i := 3) rfl rfl) DE.int (fun _ _ => rfl)) (DE.idx (DE.name (i := 1) rfl rfl) (DE.name (i := 0) rfl rfl) (fun _ _ => rfl))) (DE.bin op_mul (DE.idx (DE.name (i := 1) rfl rfl) DE.int (fun _ _ => rfl)) (DE.idx (DE.name (i := 3) rfl rfl) (DE.name (i := 0) rfl rfl) (fun _ _ => rfl)))) (DE.name (i := 2) rfl rfl)))) (fun env he => swaps_of he rfl)))
  (DB.cons (DS.asgS (i := 3) rfl (DE.idx (DE.name (i := 6) rfl rfl) DE.int (fun _ _ => rfl)))
  DB.nil)))))))
  (DB.cons (DS.ret (DE.bin op_mul (DE.name (i := 4) rfl rfl) (DE.idx (DE.idx (DE.name (i := 2) rfl rfl) DE.int (fun _ _ => rfl)) DE.int (fun _ _ => rfl))))
  DB.nil)))⟩
noncomputable def F75 (ds : List D) : Option D := if ds.length = 2 then retF p75.1 (entry 7 ds) else none
theorem c75 {prog : Program} {K : Params → Frag} (H : KB K) : FnOk prog K 2 238 F75 := FnOk.ofP (K := K) (sc := scopeAt 75) (body := bodyAt 75) (ps := ["table", "less"]) (vars := ["table", "less", "rows", "last", "sign", "tops", "head"]) p75 H H.o_law_determinant (FnStat.of (by decide +kernel))
noncomputable abbrev T76 : TE := ⟨scopeAt 76, ["page", "sizes", "up", "down", "less", "table", "whole", "beside", "size", "there", "back"]⟩
noncomputable def p76 : {g : Sto → Option PF // ∀ (prog : Program) (K : Params → Frag),KB K → DB prog K 5 T76 (bodyAt 76) g} := ⟨_,fun prog K H => (DB.cons (DS.asgF (i := 5) rfl (DE.callF (isGlob H.f_law_products) (fun P => (H.o_law_products P).fn) (FnOk.mono (c74 (prog := prog) H) (by decide)) (DEs.cons (DE.callF (isGlob H.f_law_roads) (fun P => (H.o_law_roads P).fn) (FnOk.mono (c72 (prog := prog) H) (by decide)) (DEs.cons (DE.name (i := 0) rfl rfl) DEs.nil (fun _ => rfl)) (fun _ => rfl)) (DEs.cons (DE.name (i := 2) rfl rfl) (DEs.cons (DE.name (i := 3) rfl rfl) DEs.nil (fun _ => rfl)) (fun _ => rfl)) (fun _ => rfl)) (fun _ => rfl)))
  (DB.cons (DS.tup (is := [6,7]) (DKs.consS DE.int (DKs.consS DE.int DKs.nil)) (fun _ _ _ => ⟨⟨_,rfl,fun _ _ _ _ h => wpAny_assign_Name h⟩,⟨⟨_,rfl,fun _ _ _ _ h => wpAny_assign_Name h⟩,trivial⟩⟩) (fun _ => rfl) (fun _ => rfl) (by decide) (fun env he => swap_of he rfl))
  (DB.cons (DS.for (DI.seq (DE.slice (DE.name (i := 1) rfl rfl) (DP.yes DE.int) DP.no)) (TgS.name (i := 8) rfl) (DB.cons (DS.tupSwap (is := [9,10]) (names := ["there", "back"]) (DKs.consS (DE.bin op_pow (DE.name (i := 2) rfl rfl) (DE.name (i := 8) rfl rfl)) (DKs.consS (DE.bin op_pow (DE.name (i := 3) rfl rfl) (DE.name (i := 8) rfl rfl)) DKs.nil)) (fun _ _ _ => ⟨⟨_,rfl,fun _ _ _ _ h => wpAny_bindName h⟩,⟨⟨_,rfl,fun _ _ _ _ h => wpAny_bindName h⟩,trivial⟩⟩) rfl (by decide) (fun env he => swap_of he rfl))
  (DB.cons (DS.asgS (i := 7) rfl (DE.bin op_add (DE.bin op_mul (DE.name (i := 7) rfl rfl) (DE.bin op_sub DE.int (DE.bin op_mul (DE.name (i := 9) rfl rfl) (DE.name (i := 10) rfl rfl)))) (DE.bin op_mul (DE.bin op_mul (DE.name (i := 6) rfl rfl) (DE.bin op_sub DE.int (DE.name (i := 9) rfl rfl))) (DE.bin op_sub DE.int (DE.name (i := 10) rfl rfl)))))
  (DB.cons (DS.aug (i := 6) rfl iop_mul (DE.bin op_sub DE.int (DE.bin op_mul (DE.name (i := 9) rfl rfl) (DE.name (i := 10) rfl rfl))))
  DB.nil))))
  (DB.cons (DS.ite (DT.bool (DTs.or (DT.not (DT.plain (DE.name (i := 5) rfl rfl) (fun _ => rfl))) (DTs.or (DT.cmp op_ne (DE.callF (isGlob H.f_law_determinant) (fun P => (H.o_law_determinant P).fn) (FnOk.mono (c75 (prog := prog) H) (by decide)) (DEs.cons (DE.name (i := 5) rfl rfl) (DEs.cons DE.int DEs.nil (fun _ => rfl)) (fun _ => rfl)) (fun _ => rfl)) (DE.name (i := 6) rfl rfl) rfl) DTs.orNil))) (DB.cons (DS.ret DE.bool)
  DB.nil) DB.nil)
  (DB.cons (DS.ret (DE.cmp op_eq (DE.callF (isGlob H.f_law_determinant) (fun P => (H.o_law_determinant P).fn) (FnOk.mono (c75 (prog := prog) H) (by decide)) (DEs.cons (DE.name (i := 5) rfl rfl) (DEs.cons (DE.name (i := 4) rfl rfl) DEs.nil (fun _ => rfl)) (fun _ => rfl)) (fun _ => rfl)) (DE.bin op_sub (DE.name (i := 6) rfl rfl) (DE.bin op_mul (DE.name (i := 4) rfl rfl) (DE.bin op_add (DE.name (i := 6) rfl rfl) (DE.name (i := 7) rfl rfl)))) rfl))
  DB.nil)))))⟩
noncomputable def F76 (ds : List D) : Option D := if ds.length = 5 then retF p76.1 (entry 11 ds) else none
theorem c76 {prog : Program} {K : Params → Frag} (H : KB K) : FnOk prog K 6 245 F76 := FnOk.ofP (K := K) (sc := scopeAt 76) (body := bodyAt 76) (ps := ["page", "sizes", "up", "down", "less"]) (vars := ["page", "sizes", "up", "down", "less", "table", "whole", "beside", "size", "there", "back"]) p76 H H.o_law_agree (FnStat.of (by decide +kernel))
noncomputable abbrev T70 : TE := ⟨scopeAt 70, ["hosts", "sizes", "node", "first", "name", "held"]⟩
noncomputable def p70 : {g : (List D → Option D) → Sto → Option PF // ∀ (prog : Program) (K : Params → Frag) (F : List D → Option D),KB K → ∀ (n : Nat) (h1 : 1 ≤ n) (R : FnOk prog K n 209 F),DB prog K n T70 (bodyAt 70) (g F)} := ⟨fun F => _,fun prog K F H n h1 R => (DB.cons (DS.asgS (i := 3) rfl (DE.bin op_add DE.int (DE.callB (isBuilt H.b_sum bb_sum) b_sum (DEs.cons (DE.slice (DE.name (i := 1) rfl rfl) DP.no (DP.yes (DE.name (i := 2) rfl rfl))) DEs.nil (fun _ => rfl)) (fun _ => rfl) (fun _ _ => rfl) h1) h1))
  (DB.cons (DS.asgS (i := 4) rfl (DE.slice DE.str (DP.yes (DE.name (i := 3) rfl rfl)) (DP.yes (DE.bin op_add (DE.name (i := 3) rfl rfl) (DE.idx (DE.name (i := 1) rfl rfl) (DE.name (i := 2) rfl rfl) (fun _ _ => rfl)) h1))))
  (DB.cons (DS.asgCompO (i := 5) rfl (CpOk.of (own := ["other"]) (oc := []) (js := [0,1,2]) (cs := ["hosts", "sizes", "node"]) (by decide +kernel)) (DI.range (isBuilt H.b_range bb_range) (DEs.cons (DE.bin op_add (DE.name (i := 2) rfl rfl) DE.int h1) (DEs.cons DE.int DEs.nil (fun _ => rfl)) (fun _ => rfl)) (fun _ => rfl) (fun _ _ => rfl)) (TgOk.name (i := 0) (by decide) rfl) (.inr ⟨_,rfl,(DT.cmp op_eq (DE.idx (DE.name (i := 1) rfl rfl) (DE.name (i := 0) rfl rfl) (fun _ _ => rfl)) (DE.name (i := 3) rfl rfl) rfl h1)⟩) (DE.callF (isGlob H.f_law_due) (fun P => (H.o_law_due P).fn) R (DEs.cons (DE.name (i := 1) rfl rfl) (DEs.cons (DE.name (i := 2) rfl rfl) (DEs.cons (DE.name (i := 0) rfl rfl) DEs.nil (fun _ => rfl)) (fun _ => rfl)) (fun _ => rfl)) (fun _ => rfl)) (fun env he => swaps_of he rfl))
  (DB.cons (DS.ret (DE.bin op_add (DE.bin op_add (DE.bin op_add (DE.bin op_add (DE.bin op_add (DE.bin op_add DE.str (DE.name (i := 4) rfl rfl) h1) DE.str h1) (@DE.join _ _ _ _ _ _ _ _ _ _ DE.str (DE.name (i := 5) rfl rfl) (fun _ => rfl) (fun _ => rfl) rfl) h1) DE.str h1) (DE.name (i := 4) rfl rfl) h1) DE.str h1))
  DB.nil))))⟩
noncomputable abbrev T77 : TE := ⟨scopeAt 77, ["script", "draws", "hosts", "sizes", "pieces", "page", "total"]⟩
noncomputable def p77b : {g : (List D → Option D) → Sto → Option PF // ∀ (prog : Program) (K : Params → Frag) (F : List D → Option D),KB K → ∀ (R : FnOk prog K 8 209 F),DB prog K 8 T77 ((bodyAt 77).drop 5) (g F)} := ⟨fun F => _,fun prog K F H R => (DB.cons (DS.asgS (i := 5) rfl (@DE.join _ _ _ _ _ _ _ _ _ _ DE.str (DE.name (i := 4) rfl rfl) (fun _ => rfl) (fun _ => rfl) rfl))
  (DB.cons (DS.ite (DT.cmp op_ne (DE.name (i := 5) rfl rfl) (DE.callF (isGlob H.f_law_due) (fun P => (H.o_law_due P).fn) R (DEs.cons (DE.name (i := 2) rfl rfl) (DEs.cons (DE.name (i := 3) rfl rfl) (DEs.cons DE.int DEs.nil (fun _ => rfl)) (fun _ => rfl)) (fun _ => rfl)) (fun _ => rfl)) rfl) (DB.cons (DS.ret DE.bool)
  DB.nil) DB.nil)
  (DB.cons (DS.asgS (i := 6) rfl (DE.callB (isBuilt H.b_sum bb_sum) b_sum (DEs.cons (DE.name (i := 1) rfl rfl) DEs.nil (fun _ => rfl)) (fun _ => rfl) (fun _ _ => rfl)))
  (DB.cons (DS.ret (DE.callF (isGlob H.f_law_agree) (fun P => (H.o_law_agree P).fn) (FnOk.mono (c76 (prog := prog) H) (by decide)) (DEs.cons (DE.name (i := 5) rfl rfl) (DEs.cons (DE.name (i := 3) rfl rfl) (DEs.cons (DE.bin op_add (DE.bin op_mod (DE.name (i := 6) rfl rfl) DE.int) DE.int) (DEs.cons (DE.bin op_sub DE.int (DE.bin op_mod (DE.bin op_div (DE.name (i := 6) rfl rfl) DE.int) DE.int)) (DEs.cons (DE.bin op_add (DE.bin op_div (DE.name (i := 6) rfl rfl) DE.int) DE.int) DEs.nil (fun _ => rfl)) (fun _ => rfl)) (fun _ => rfl)) (fun _ => rfl)) (fun _ => rfl)) (fun _ => rfl)))
  DB.nil))))⟩
end
section
set_option maxHeartbeats 0
noncomputable def F70 : Nat → List D → Option D
  | 0 => fun _ => none
  | k + 1 => fun ds => if ds.length = 3 then retF (p70.1 (F70 k)) (entry 6 ds) else none
theorem c70 {prog : Program} {K : Params → Frag} (H : KB K) : ∀ k,FnOk prog K (k + 2) 209 (F70 k)
  | 0 => FnOk.none
  | k + 1 => FnOk.of (K := K) (n := k + 2) (sc := scopeAt 70) (body := bodyAt 70) (ps := ["hosts", "sizes", "node"]) (vars := ["hosts", "sizes", "node", "first", "name", "held"]) (g := p70.1 (F70 k)) H.o_law_due (FnStat.of (by decide +kernel)) (p70.2 prog K (F70 k) H (k + 2) (by exact Nat.succ_pos _) (c70 H k))
end
end Internal
namespace Mine
open Internal
structure Lk {α : Type} (s : α) : Type where
noncomputable def told {α : Type} {c s : α} (_ : c = s) : Lk s := ⟨⟩
noncomputable abbrev kzs (x : String) (t : Nat) : Value := .str (Str.ofString x) t
noncomputable abbrev kzd (P : Params) (x : String) (t : Nat) (v : Value) : DictEntry := ⟨PyData.keyHash P (Str.ofString x),.str (Str.ofString x) t,v⟩
noncomputable def kzc (n q : String) (t : Nat) (l : List Value) (a b : Nat) : Obj := ⟨.type "code",none,.fields ([kzs n t,kzs q (t + 1),kzs "/claim/cut.py" (t + 2)] ++ l ++ [.int a 0,.int b 0,kzs "/claim/cut.py" (a + 1)]).toArray, #[]⟩
noncomputable def mthAt (i : Nat) : Stmt := match defAt 64 with
  | .ClassDef _ _ _ b _ _ _ _ _ _ _ => (b[i]?).getD (.Pass ⟨0,0,0,0⟩)
  | _ => .Pass ⟨0,0,0,0⟩
noncomputable def kzf (d : Stmt) (q : String) (dv kv md : Value) (c : Nat) : Obj := match d with
  | .FunctionDef n a b _ _ _ s _ _ _ => ⟨.type "function",none,.func ⟨n,Str.ofString q,a,.stmts b,s,3, [],dv,kv,.none,md,none,.ref c,.none,0⟩, #[]⟩
  | _ => ⟨.none,none,.plain, #[]⟩
noncomputable def kz91 : Obj := by
  refine (?f : (x : Obj) → Lk x → Obj) _ (told (c := kzf (mthAt 0) "C14NWriterTarget.__init__" .none (.ref 84) (kzs "cpy313.xml.etree.ElementTree" 530) 90) (by conv => lhs; whnf))
  case f => exact fun x _ => x
noncomputable def kz99 : Obj := by
  refine (?f : (x : Obj) → Lk x → Obj) _ (told (c := kzf (mthAt 1) "C14NWriterTarget._iter_namespaces" (.ref 92) .none (kzs "cpy313.xml.etree.ElementTree" 530) 98) (by conv => lhs; whnf))
  case f => exact fun x _ => x
noncomputable def kz114 : Obj := by
  refine (?f : (x : Obj) → Lk x → Obj) _ (told (c := kzf (mthAt 3) "C14NWriterTarget._qname" (.ref 107) .none (kzs "cpy313.xml.etree.ElementTree" 530) 113) (by conv => lhs; whnf))
  case f => exact fun x _ => x
noncomputable def kz144 : Obj := by
  refine (?f : (x : Obj) → Lk x → Obj) _ (told (c := kzf (mthAt 7) "C14NWriterTarget.start" .none .none (kzs "cpy313.xml.etree.ElementTree" 530) 143) (by conv => lhs; whnf))
  case f => exact fun x _ => x
noncomputable def kz150 : Obj := by
  refine (?f : (x : Obj) → Lk x → Obj) _ (told (c := kzf (mthAt 8) "C14NWriterTarget._start" (.ref 145) .none (kzs "cpy313.xml.etree.ElementTree" 530) 149) (by conv => lhs; whnf))
  case f => exact fun x _ => x
noncomputable def kz157 : Obj := by
  refine (?f : (x : Obj) → Lk x → Obj) _ (told (c := kzf (mthAt 9) "C14NWriterTarget.end" .none .none (kzs "cpy313.xml.etree.ElementTree" 530) 156) (by conv => lhs; whnf))
  case f => exact fun x _ => x
noncomputable def kz204 : Obj := by
  refine (?f : (x : Obj) → Lk x → Obj) _ (told (c := kzf (defAt 69) "_law_told" .none .none (kzs "law_tp0061_01" 780) 203) (by conv => lhs; whnf))
  case f => exact fun x _ => x
noncomputable def K0 : Params → Frag := fun P => ((nat_lit 3),⟨(.type "dict"),none,(.dict #[kzd P "__name__" 165 (kzs "law_tp0061_01" 780),kzd P "__doc__" 166 .none,kzd P "__package__" 167 .none,kzd P "__loader__" 168 (.builtin "__main__.__loader__#opaque"),kzd P "__spec__" 169 .none,kzd P "__annotations__" 170 (.ref 6),kzd P "__builtins__" 171 (.ref 4),kzd P "__file__" 173 (kzs "/claim/cut.py" 172),kzd P "__cached__" 174 .none,kzd P "_sre" 275 (.ref 12),kzd P "_wall" 288 (.ref 38),kzd P "_MAX_STRING_SIZE" 292 (.int 40 291),kzd P "_MOVE_COST" 294 (.int 2 293),kzd P "_CASE_COST" 296 (.int 1 295),kzd P "_substitution_cost" 304 (.ref 45),kzd P "_levenshtein_distance" 324 (.ref 52),kzd P "Int2AP" 336 (.ref 59),kzd P "LPAR" 338 (.int 7 337),kzd P "RPAR" 340 (.int 8 339),kzd P "LSQB" 342 (.int 9 341),kzd P "RSQB" 344 (.int 10 343),kzd P "COLON" 346 (.int 11 345),kzd P "COMMA" 348 (.int 12 347),kzd P "SEMI" 350 (.int 13 349),kzd P "PLUS" 352 (.int 14 351),kzd P "MINUS" 354 (.int 15 353),kzd P "STAR" 356 (.int 16 355),kzd P "SLASH" 358 (.int 17 357),kzd P "VBAR" 360 (.int 18 359),kzd P "AMPER" 362 (.int 19 361),kzd P "LESS" 364 (.int 20 363),kzd P "GREATER" 366 (.int 21 365),kzd P "EQUAL" 368 (.int 22 367),kzd P "DOT" 370 (.int 23 369),kzd P "PERCENT" 372 (.int 24 371),kzd P "LBRACE" 374 (.int 25 373),kzd P "RBRACE" 376 (.int 26 375),kzd P "EQEQUAL" 378 (.int 27 377),kzd P "NOTEQUAL" 380 (.int 28 379),kzd P "LESSEQUAL" 382 (.int 29 381),kzd P "GREATEREQUAL" 384 (.int 30 383),kzd P "TILDE" 386 (.int 31 385),kzd P "CIRCUMFLEX" 388 (.int 32 387),kzd P "LEFTSHIFT" 390 (.int 33 389),kzd P "RIGHTSHIFT" 392 (.int 34 391),kzd P "DOUBLESTAR" 394 (.int 35 393),kzd P "PLUSEQUAL" 396 (.int 36 395),kzd P "MINEQUAL" 398 (.int 37 397),kzd P "STAREQUAL" 400 (.int 38 399),kzd P "SLASHEQUAL" 402 (.int 39 401),kzd P "PERCENTEQUAL" 404 (.int 40 403),kzd P "AMPEREQUAL" 406 (.int 41 405),kzd P "VBAREQUAL" 408 (.int 42 407),kzd P "CIRCUMFLEXEQUAL" 410 (.int 43 409),kzd P "LEFTSHIFTEQUAL" 412 (.int 44 411),kzd P "RIGHTSHIFTEQUAL" 414 (.int 45 413),kzd P "DOUBLESTAREQUAL" 416 (.int 46 415),kzd P "DOUBLESLASH" 418 (.int 47 417),kzd P "DOUBLESLASHEQUAL" 420 (.int 48 419),kzd P "AT" 422 (.int 49 421),kzd P "ATEQUAL" 424 (.int 50 423),kzd P "RARROW" 426 (.int 51 425),kzd P "ELLIPSIS" 428 (.int 52 427),kzd P "COLONEQUAL" 430 (.int 53 429),kzd P "EXCLAMATION" 432 (.int 54 431),kzd P "EXACT_TOKEN_TYPES" 529 (.ref 60),kzd P "_twin_re_1" 569 (.ref 67),kzd P "_namespace_map" 591 (.ref 68),kzd P "_raise_serialization_error" 598 (.ref 75),kzd P "_looks_like_prefix_name" 600 (.ref 76),kzd P "C14NWriterTarget" 765 (.ref 174),kzd P "_escape_cdata_c14n" 772 (.ref 185),kzd P "_escape_attrib_c14n" 779 (.ref 192),kzd P "_law_names" 787 (.ref 197),kzd P "_law_told" 798 (.ref 204),kzd P "_law_due" 804 (.ref 209),kzd P "_law_symbols" 813 (.ref 216),kzd P "_law_roads" 825 (.ref 223),kzd P "_law_words" 831 (.ref 228),kzd P "_law_products" 837 (.ref 233),kzd P "_law_determinant" 843 (.ref 238),kzd P "_law_agree" 860 (.ref 245),kzd P "law" 866 (.ref 250)] 83), #[]⟩) ::
  ((nat_lit 44),kzc "_substitution_cost" "_substitution_cost" 297 [.int 9 0,.int 2 0,.int 0 0,.int 0 0,.int 3 0,.ref 39,.bool true,.int 276 0,.ref 40,.none,.ref 41,.ref 42,.ref 43] 302 9) ::
  ((nat_lit 45),kzf (defAt 6) "_substitution_cost" .none .none (kzs "cpy313.traceback" 289) 44) ::
  ((nat_lit 51),kzc "_levenshtein_distance" "_levenshtein_distance" 305 [.int 15 0,.int 3 0,.int 0 0,.int 0 0,.int 3 0,.ref 46,.bool true,.int 276 0,.ref 47,.none,.ref 48,.ref 49,.ref 50] 322 15) ::
  ((nat_lit 52),kzf (defAt 7) "_levenshtein_distance" .none .none (kzs "cpy313.traceback" 289) 51) ::
  ((nat_lit 58),kzc "Int2AP" "Int2AP" 327 [.int 54 0,.int 1 0,.int 0 0,.int 0 0,.int 3 0,.ref 53,.bool true,.int 276 0,.ref 54,.none,.ref 55,.ref 56,.ref 57] 334 54) ::
  ((nat_lit 59),kzf (defAt 9) "Int2AP" .none .none (kzs "cpy313.imaplib" 325) 58) ::
  ((nat_lit 60),⟨(.type "dict"),none,(.dict #[kzd P "!" 433 (.int 54 431),kzd P "!=" 435 (.int 28 379),kzd P "%" 437 (.int 24 371),kzd P "%=" 439 (.int 40 403),kzd P "&" 441 (.int 19 361),kzd P "&=" 443 (.int 41 405),kzd P "(" 445 (.int 7 337),kzd P ")" 447 (.int 8 339),kzd P "*" 449 (.int 16 355),kzd P "**" 451 (.int 35 393),kzd P "**=" 453 (.int 46 415),kzd P "*=" 455 (.int 38 399),kzd P "+" 457 (.int 14 351),kzd P "+=" 459 (.int 36 395),kzd P "," 461 (.int 12 347),kzd P "-" 463 (.int 15 353),kzd P "-=" 465 (.int 37 397),kzd P "->" 467 (.int 51 425),kzd P "." 469 (.int 23 369),kzd P "..." 471 (.int 52 427),kzd P "/" 473 (.int 17 357),kzd P "//" 475 (.int 47 417),kzd P "//=" 477 (.int 48 419),kzd P "/=" 479 (.int 39 401),kzd P ":" 481 (.int 11 345),kzd P ":=" 483 (.int 53 429),kzd P ";" 485 (.int 13 349),kzd P "<" 487 (.int 20 363),kzd P "<<" 489 (.int 33 389),kzd P "<<=" 491 (.int 44 411),kzd P "<=" 493 (.int 29 381),kzd P "=" 495 (.int 22 367),kzd P "==" 497 (.int 27 377),kzd P ">" 499 (.int 21 365),kzd P ">=" 501 (.int 30 383),kzd P ">>" 502 (.int 34 391),kzd P ">>=" 503 (.int 45 413),kzd P "@" 504 (.int 49 421),kzd P "@=" 505 (.int 50 423),kzd P "[" 506 (.int 9 341),kzd P "]" 507 (.int 10 343),kzd P "^" 508 (.int 32 387),kzd P "^=" 509 (.int 43 409),kzd P "{" 510 (.int 25 373),kzd P "|" 511 (.int 18 359),kzd P "|=" 512 (.int 42 407),kzd P "}" 513 (.int 26 375),kzd P "~" 514 (.int 31 385)] 48), #[]⟩) ::
  ((nat_lit 68),⟨(.type "dict"),none,(.dict #[kzd P "http://www.w3.org/XML/1998/namespace" 570 (kzs "xml" 571),kzd P "http://www.w3.org/1999/xhtml" 572 (kzs "html" 573),kzd P "http://www.w3.org/1999/02/22-rdf-syntax-ns#" 574 (kzs "rdf" 575),kzd P "http://schemas.xmlsoap.org/wsdl/" 576 (kzs "wsdl" 577),kzd P "http://www.w3.org/2001/XMLSchema" 578 (kzs "xs" 579),kzd P "http://www.w3.org/2001/XMLSchema-instance" 580 (kzs "xsi" 581),kzd P "http://purl.org/dc/elements/1.1/" 582 (kzs "dc" 583)] 7), #[]⟩) ::
  ((nat_lit 84),⟨(.type "dict"),none,(.dict #[kzd P "with_comments" 613 (.bool false),kzd P "strip_text" 614 (.bool false),kzd P "rewrite_prefixes" 615 (.bool false),kzd P "qname_aware_tags" 616 .none,kzd P "qname_aware_attrs" 617 .none,kzd P "exclude_attrs" 618 .none,kzd P "exclude_tags" 619 .none] 7), #[]⟩) ::
  ((nat_lit 90),kzc "__init__" "C14NWriterTarget.__init__" 620 [.int 119 0,.int 2 0,.int 0 0,.int 7 0,.int 3 0,.ref 85,.bool true,.int 276 0,.ref 86,.none,.ref 87,.ref 88,.ref 89] 632 119) ::
  ((nat_lit 91),kz91) ::
  ((nat_lit 92),⟨(.type "tuple"),none,(.seq #[.type "reversed"]), #[]⟩) ::
  ((nat_lit 98),kzc "_iter_namespaces" "C14NWriterTarget._iter_namespaces" 635 [.int 147 0,.int 3 0,.int 0 0,.int 0 0,.int 35 0,.ref 93,.bool true,.int 276 0,.ref 94,.none,.ref 95,.ref 96,.ref 97] 642 147) ::
  ((nat_lit 99),kz99) ::
  ((nat_lit 107),⟨(.type "tuple"),none,(.seq #[.none]), #[]⟩) ::
  ((nat_lit 113),kzc "_qname" "C14NWriterTarget._qname" 657 [.int 159 0,.int 3 0,.int 0 0,.int 0 0,.int 3 0,.ref 108,.bool true,.int 276 0,.ref 109,.none,.ref 110,.ref 111,.ref 112] 667 159) ::
  ((nat_lit 114),kz114) ::
  ((nat_lit 143),kzc "start" "C14NWriterTarget.start" 700 [.int 207 0,.int 3 0,.int 0 0,.int 0 0,.int 3 0,.ref 138,.bool true,.int 276 0,.ref 139,.none,.ref 140,.ref 141,.ref 142] 707 207) ::
  ((nat_lit 144),kz144) ::
  ((nat_lit 145),⟨(.type "tuple"),none,(.seq #[.none]), #[]⟩) ::
  ((nat_lit 149),kzc "_start" "C14NWriterTarget._start" 710 [.int 220 0,.int 5 0,.int 0 0,.int 0 0,.int 3 0,.ref 146,.bool true,.int 276 0,.ref 147,.none,.none,.none,.ref 148] 713 220) ::
  ((nat_lit 150),kz150) ::
  ((nat_lit 156),kzc "end" "C14NWriterTarget.end" 716 [.int 265 0,.int 2 0,.int 0 0,.int 0 0,.int 3 0,.ref 151,.bool true,.int 276 0,.ref 152,.none,.ref 153,.ref 154,.ref 155] 721 265) ::
  ((nat_lit 157),kz157) ::
  ((nat_lit 173),⟨(.type "dict"),none,(.dict #[kzd P "__module__" 608 (kzs "cpy313.xml.etree.ElementTree" 530),kzd P "__firstlineno__" 612 (.int 117 611),kzd P "__init__" 634 (.ref 91),kzd P "_iter_namespaces" 644 (.ref 99),kzd P "_resolve_prefix_name" 656 (.ref 106),kzd P "_qname" 669 (.ref 114),kzd P "data" 677 (.ref 121),kzd P "_flush" 690 (.ref 130),kzd P "start_ns" 699 (.ref 137),kzd P "start" 709 (.ref 144),kzd P "_start" 715 (.ref 150),kzd P "end" 723 (.ref 157),kzd P "comment" 731 (.ref 164),kzd P "pi" 740 (.ref 171),kzd P "__static_attributes__" 758 (.ref 172),kzd P "__dict__" 760 (.ref 175),kzd P "__weakref__" 762 (.ref 176),kzd P "__doc__" 763 .none] 4), #[]⟩) ::
  ((nat_lit 174),⟨(.type "type"),none,(.cls (ClassData.mk (Str.ofString "C14NWriterTarget") [.type "object"] [.ref 174,.type "object"] 173 (Str.ofString "C14NWriterTarget") true [] [] false none false)), #[none,none,some (kzs "C14NWriterTarget" 601),some (kzs "C14NWriterTarget" 609),some (.builtin "object.__new__"),some (.bool true)]⟩) ::
  ((nat_lit 196),kzc "_law_names" "_law_names" 782 [.int 313 0,.int 2 0,.int 0 0,.int 0 0,.int 3 0,.ref 193,.bool true,.int 276 0,.ref 194,.none,.none,.none,.ref 195] 785 313) ::
  ((nat_lit 197),kzf (defAt 68) "_law_names" .none .none (kzs "law_tp0061_01" 780) 196) ::
  ((nat_lit 203),kzc "_law_told" "_law_told" 788 [.int 322 0,.int 4 0,.int 0 0,.int 0 0,.int 3 0,.ref 198,.bool true,.int 276 0,.ref 199,.none,.ref 200,.ref 201,.ref 202] 796 322) ::
  ((nat_lit 204),kz204) ::
  ((nat_lit 208),kzc "_law_due" "_law_due" 799 [.int 328 0,.int 3 0,.int 0 0,.int 0 0,.int 3 0,.ref 205,.bool true,.int 276 0,.ref 206,.none,.none,.none,.ref 207] 802 328) ::
  ((nat_lit 209),kzf (defAt 70) "_law_due" .none .none (kzs "law_tp0061_01" 780) 208) ::
  ((nat_lit 215),kzc "_law_symbols" "_law_symbols" 805 [.int 333 0,.int 1 0,.int 0 0,.int 0 0,.int 3 0,.ref 210,.bool true,.int 276 0,.ref 211,.none,.ref 212,.ref 213,.ref 214] 811 333) ::
  ((nat_lit 216),kzf (defAt 71) "_law_symbols" .none .none (kzs "law_tp0061_01" 780) 215) ::
  ((nat_lit 222),kzc "_law_roads" "_law_roads" 814 [.int 342 0,.int 1 0,.int 0 0,.int 0 0,.int 3 0,.ref 217,.bool true,.int 276 0,.ref 218,.none,.ref 219,.ref 220,.ref 221] 823 342) ::
  ((nat_lit 223),kzf (defAt 72) "_law_roads" .none .none (kzs "law_tp0061_01" 780) 222) ::
  ((nat_lit 227),kzc "_law_words" "_law_words" 826 [.int 357 0,.int 1 0,.int 0 0,.int 0 0,.int 3 0,.ref 224,.bool true,.int 276 0,.ref 225,.none,.none,.none,.ref 226] 829 357) ::
  ((nat_lit 228),kzf (defAt 73) "_law_words" .none .none (kzs "law_tp0061_01" 780) 227) ::
  ((nat_lit 232),kzc "_law_products" "_law_products" 832 [.int 362 0,.int 3 0,.int 0 0,.int 0 0,.int 3 0,.ref 229,.bool true,.int 276 0,.ref 230,.none,.none,.none,.ref 231] 835 362) ::
  ((nat_lit 233),kzf (defAt 74) "_law_products" .none .none (kzs "law_tp0061_01" 780) 232) ::
  ((nat_lit 237),kzc "_law_determinant" "_law_determinant" 838 [.int 375 0,.int 2 0,.int 0 0,.int 0 0,.int 3 0,.ref 234,.bool true,.int 276 0,.ref 235,.none,.none,.none,.ref 236] 841 375) ::
  ((nat_lit 238),kzf (defAt 75) "_law_determinant" .none .none (kzs "law_tp0061_01" 780) 237) ::
  ((nat_lit 244),kzc "_law_agree" "_law_agree" 844 [.int 386 0,.int 5 0,.int 0 0,.int 0 0,.int 3 0,.ref 239,.bool true,.int 276 0,.ref 240,.none,.ref 241,.ref 242,.ref 243] 858 386) ::
  ((nat_lit 245),kzf (defAt 76) "_law_agree" .none .none (kzs "law_tp0061_01" 780) 244) ::
  ((nat_lit 249),kzc "law" "law" 861 [.int 396 0,.int 1 0,.int 0 0,.int 0 0,.int 3 0,.ref 246,.bool true,.int 276 0,.ref 247,.none,.none,.none,.ref 248] 864 396) ::
  ((nat_lit 250),kzf (defAt 77) "law" .none .none (kzs "law_tp0061_01" 780) 249) :: []
theorem regK : PySem.Challenge.rw_tp0061_01 = PySem.Challenge.rw_tp0061_01 ∧ K0 = K0 := by
  w_on
  k_fill
  exact ⟨rfl,rfl⟩
end Mine
open Mine
namespace Internal
section
set_option profiler.threshold 500
noncomputable def oOf (K : Frag) (fa : Addr) : Obj := (K.lookup fa).getD { cls := .none,data := .dict #[] }
noncomputable def fdOf (o : Obj) : FuncData := match o.data with
  | .func fd => fd
  | _ => fnOf "" "" ⟨[], [],none, [], [],none, []⟩ [] ⟨.module, [],false,false, []⟩ .none .none .none .none none .none .none
noncomputable def rawOf (o : Obj) : List (Str × Tok × Value) × Nat := match o.data with
  | .dict es n => (es.toList.map fun e => (match e.key with | .str x t => (x,t,e.val) | _ => ("",0,e.val)),n)
  | _ => ([],0)
noncomputable def entOf (P : Params) (p : Str × Tok × Value) : DictEntry := { hash := PyData.keyHash P p.1,key := .str p.1 p.2.1,val := p.2.2 }
theorem lit_map (P : Params) : ∀ l : List (Str × Tok × Value),KeysLit P (l.map (entOf P))
  | [] => trivial
  | p :: l => ⟨⟨_,_,rfl,rfl⟩,lit_map P l⟩
theorem ev1 {P : List Value → Prop} (h : ∀ a,P [a]) (l : List Value) (e : l.length = 1) : P l := by
  obtain ⟨a,rfl⟩ := List.length_eq_one_iff.mp e
  exact h a
theorem evS {n : Nat} {P : List Value → Prop} (h : ∀ a l,l.length = n → P (a :: l)) (l : List Value) (e : l.length = n + 1) : P l := by
  cases l with
  | nil => cases e
  | cons a l => exact h a l (Nat.succ.inj e)
theorem ev2 {P : List Value → Prop} (h : ∀ a b,P [a,b]) : ∀ l : List Value,l.length = 2 → P l := evS fun a => ev1 fun b => h a b
theorem ev3 {P : List Value → Prop} (h : ∀ a b c,P [a,b,c]) : ∀ l : List Value,l.length = 3 → P l := evS fun a => ev2 fun b c => h a b c
theorem ev5 {P : List Value → Prop} (h : ∀ a b c d e,P [a,b,c,d,e]) : ∀ l : List Value,l.length = 5 → P l := evS fun a => evS fun b => ev3 fun c d e => h a b c d e
theorem kb : KB K0 where
  g_MOVE_COST := ⟨293,fun P => by kernel_rfl⟩
  g_CASE_COST := ⟨295,fun P => by kernel_rfl⟩
  g_MAX_STRING_SIZE := ⟨291,fun P => by kernel_rfl⟩
  b_int := fun P => by kernel_rfl
  b_enumerate := fun P => by kernel_rfl
  b_range := fun P => by kernel_rfl
  b_list := fun P => by kernel_rfl
  b_len := fun P => by kernel_rfl
  b_abs := fun P => by kernel_rfl
  b_chr := fun P => by kernel_rfl
  b_max := fun P => by kernel_rfl
  b_min := fun P => by kernel_rfl
  b_divmod := fun P => by kernel_rfl
  b_sum := fun P => by kernel_rfl
  f_EXACT := fun P => by kernel_rfl
  tab := ⟨by decide,fun P => ⟨(rawOf (oOf (K0 P) 60)).1.map (entOf P),(rawOf (oOf (K0 P) 60)).2,by kernel_rfl,lit_map _ _,by kernel_rfl⟩⟩
  f_substitution_cost := fun P => by kernel_rfl
  o_substitution_cost := fun P => ⟨oOf (K0 P) 45,fdOf (oOf (K0 P) 45),by kernel_rfl,by kernel_rfl,by kernel_rfl,by kernel_rfl,by kernel_rfl,by kernel_rfl,by kernel_rfl,by kernel_rfl,ev2 fun v0 v1 => by kernel_rfl⟩
  f_levenshtein_distance := fun P => by kernel_rfl
  o_levenshtein_distance := fun P => ⟨oOf (K0 P) 52,fdOf (oOf (K0 P) 52),by kernel_rfl,by kernel_rfl,by kernel_rfl,by kernel_rfl,by kernel_rfl,by kernel_rfl,by kernel_rfl,by kernel_rfl,ev3 fun v0 v1 v2 => by kernel_rfl⟩
  fInt2AP := fun P => by kernel_rfl
  oInt2AP := fun P => ⟨oOf (K0 P) 59,fdOf (oOf (K0 P) 59),by kernel_rfl,by kernel_rfl,by kernel_rfl,by kernel_rfl,by kernel_rfl,by kernel_rfl,by kernel_rfl,by kernel_rfl,ev1 fun v0 => by kernel_rfl⟩
  o_law_names := fun P => ⟨oOf (K0 P) 197,fdOf (oOf (K0 P) 197),by kernel_rfl,by kernel_rfl,by kernel_rfl,by kernel_rfl,by kernel_rfl,by kernel_rfl,by kernel_rfl,by kernel_rfl,ev2 fun v0 v1 => by kernel_rfl⟩
  f_law_due := fun P => by kernel_rfl
  o_law_due := fun P => ⟨oOf (K0 P) 209,fdOf (oOf (K0 P) 209),by kernel_rfl,by kernel_rfl,by kernel_rfl,by kernel_rfl,by kernel_rfl,by kernel_rfl,by kernel_rfl,by kernel_rfl,ev3 fun v0 v1 v2 => by kernel_rfl⟩
  f_law_symbols := fun P => by kernel_rfl
  o_law_symbols := fun P => ⟨oOf (K0 P) 216,fdOf (oOf (K0 P) 216),by kernel_rfl,by kernel_rfl,by kernel_rfl,by kernel_rfl,by kernel_rfl,by kernel_rfl,by kernel_rfl,by kernel_rfl,ev1 fun v0 => by kernel_rfl⟩
  f_law_roads := fun P => by kernel_rfl
  o_law_roads := fun P => ⟨oOf (K0 P) 223,fdOf (oOf (K0 P) 223),by kernel_rfl,by kernel_rfl,by kernel_rfl,by kernel_rfl,by kernel_rfl,by kernel_rfl,by kernel_rfl,by kernel_rfl,ev1 fun v0 => by kernel_rfl⟩
  f_law_words := fun P => by kernel_rfl
  o_law_words := fun P => ⟨oOf (K0 P) 228,fdOf (oOf (K0 P) 228),by kernel_rfl,by kernel_rfl,by kernel_rfl,by kernel_rfl,by kernel_rfl,by kernel_rfl,by kernel_rfl,by kernel_rfl,ev1 fun v0 => by kernel_rfl⟩
  f_law_products := fun P => by kernel_rfl
  o_law_products := fun P => ⟨oOf (K0 P) 233,fdOf (oOf (K0 P) 233),by kernel_rfl,by kernel_rfl,by kernel_rfl,by kernel_rfl,by kernel_rfl,by kernel_rfl,by kernel_rfl,by kernel_rfl,ev3 fun v0 v1 v2 => by kernel_rfl⟩
  f_law_determinant := fun P => by kernel_rfl
  o_law_determinant := fun P => ⟨oOf (K0 P) 238,fdOf (oOf (K0 P) 238),by kernel_rfl,by kernel_rfl,by kernel_rfl,by kernel_rfl,by kernel_rfl,by kernel_rfl,by kernel_rfl,by kernel_rfl,ev2 fun v0 v1 => by kernel_rfl⟩
  f_law_agree := fun P => by kernel_rfl
  o_law_agree := fun P => ⟨oOf (K0 P) 245,fdOf (oOf (K0 P) 245),by kernel_rfl,by kernel_rfl,by kernel_rfl,by kernel_rfl,by kernel_rfl,by kernel_rfl,by kernel_rfl,by kernel_rfl,ev5 fun v0 v1 v2 v3 v4 => by kernel_rfl⟩
end
section
variable {M : Model} {A : Around} {R : GenEnd} {Y : Protocol} {n : Nat} {s₀ : Shared} {c : Code} {fs : List Frame} {s : Shared} {env : Env}
  {K : Flow → Sem Fin} {H : Value → Sem Fin} {gd : Bool → Bool} {lv : List Value → List Value}
noncomputable abbrev NoE : Value → Shared → Prop := fun _ _ => False
noncomputable def ownBack (env : Env) (r : Result) : Sem Flow := (match r with | .ok f => (.pure f : Sem Flow) | .error e => .raise e).onRaise fun (x : Value) => do
        if (← field x 1) == Value.none then unsupported "frame.own-activation:exception-without-traceback"
        setFlight x env.frame
theorem seg_runOwn {c' : Code} (h : ∀ p,Seg M A R Y n s₀ c' (M.den c') (.ret (fun r => (ownBack env r).wrap K H gd lv) none (gd false) (lv []) c p [] :: fs) s) :
    Seg M A R Y n s₀ c ((runOwn c' env).wrap K H gd lv) fs s := seg_call h
noncomputable def valBack (r : Result) : Sem Value := (match r with | .ok f => (.pure f : Sem Flow) | .error e => .raise e) >>= fun x => match x with | .ret v => pure v | _ => unsupported "internal:call-without-return-value"
theorem seg_runValue {c' : Code} {K : Value → Sem Fin} (h : ∀ p,Seg M A R Y n s₀ c' (M.den c') (.ret (fun r => (valBack r).wrap K H gd lv) none (gd false) (lv []) c p [] :: fs) s) :
    Seg M A R Y n s₀ c ((runValue c').wrap K H gd lv) fs s := seg_call h
theorem seg_For {target iter : Expr} {body orelse : List Stmt} {pos : Pos} (hs : ∀ x,foldedSetIterable iter env x = pure x)
    (h : wpAny M (A.over c fs) (eval iter env) (fun x s₁ => wpAny M (A.over c fs) (pyIter x) (fun it s₂ =>
      ∀ p,Seg M A R Y n s₀ (.forLoop target it body orelse env) (M.den (.forLoop target it body orelse env)) (.ret (fun r => (ownBack env r).wrap K H gd lv) none (gd false) (lv []) c p [] :: fs) s₂) NoE s₁) NoE s) :
    Seg M A R Y n s₀ c ((exec (.For target iter body orelse pos) env).wrap K H gd lv) fs s := by
  rw [exec_For]
  refine seg_bind_wrap (wpAny_standAt ?_)
  refine seg_bind_wrap (wpAny_mono h (fun x s₁ h₁ => ?_) fun _ _ e => e.elim)
  refine seg_bind_wrap (wpAny_of_eq (hs x) ?_)
  refine seg_bind_wrap (wpAny_standAt ?_)
  refine seg_bind_wrap (wpAny_holding (wpAny_mono h₁ (fun it s₂ h₂ => ?_) fun _ _ e => e.elim))
  exact seg_runOwn h₂
theorem seg_If {test : Expr} {body orelse : List Stmt} {pos : Pos} (h : wpAny M (A.over c fs) (isTrue test env (eval test env)) (fun b s' => if b = true then Seg M A R Y n s₀ c ((execs body env).wrap K H gd lv) fs s' else Seg M A R Y n s₀ c ((execs orelse env).wrap K H gd lv) fs s') NoE s) :
    Seg M A R Y n s₀ c ((exec (.If test body orelse pos) env).wrap K H gd lv) fs s := by
  rw [exec_If]
  refine seg_bind_wrap (wpAny_standAt ?_)
  refine seg_bind_wrap (wpAny_mono h (fun b s' h' => ?_) fun _ _ e => e.elim)
  cases b with
  | true => rw [if_pos rfl] at h' ⊢; exact h'
  | false => rw [if_neg Bool.false_ne_true] at h' ⊢; exact h'
theorem seg_Expr {e : Expr} {pos : Pos} (hi : interactive env = false) (hs : swapsWith e none pos.line env = pure false)
    (h : Seg M A R Y n s₀ c ((eval e env).wrap (fun v => (dropValue e pos v).wrap K H gd lv) H gd lv) fs s) :
    Seg M A R Y n s₀ c ((exec (.Expr e pos) env).wrap K H gd lv) fs s := by
  rw [exec_Expr env e pos hi hs]
  refine seg_bind_wrap (wpAny_standAt ?_)
  rw [Sem.bind_eq_wrap',Sem.wrap_wrap]
  exact h
end
section
variable {prog : Program} {w : World} {A : Around} {R : GenEnd} {Y : Protocol} {n : Nat} {s₀ : Shared} {fs : List Frame} {s : Shared} {env : Env}
noncomputable def loopK (code : Code) : Flow → Sem Fin := fun f => match f with
  | .next | .cont => .pure (.again code)
  | .brk => .pure (.done .next)
  | .ret v => .pure (.done (.ret v))
theorem seg_forLoop {target : Expr} {it : Value} {body orelse : List Stmt}
    (h : wpAny (model prog w) (A.over (.forLoop target it body orelse env) fs) (pyNext it) (fun r s' => match r with
      | none => Seg (model prog w) A R Y n s₀ (.forLoop target it body orelse env) (.pure (.again (.block orelse env))) fs s'
      | some v => wpAny (model prog w) (A.over (.forLoop target it body orelse env) fs) (letOwnedTupleGo target it v) (fun _ s₁ => wpAny (model prog w) (A.over (.forLoop target it body orelse env) fs) (assign target env v) (fun _ s₂ =>
          Seg (model prog w) A R Y n s₀ (.forLoop target it body orelse env) ((execs body env).wrap (loopK (.forLoop target it body orelse env)) (fun e => (do noteFrame e env; theTreesLotGoes e : Sem Unit).wrap (fun _ => .raise e) .raise id id) id id) fs s₂) NoE s₁) NoE s') NoE s) :
    Seg (model prog w) A R Y n s₀ (.forLoop target it body orelse env) ((model prog w).den (.forLoop target it body orelse env)) fs s := by
  show Seg _ A R Y n s₀ _ ((forTurn target it body orelse env).onRaise (fun x => do noteFrame x env; theTreesLotGoes x)) fs s
  simp only [forTurn]
  rw [Sem.onRaise_eq_wrap]
  refine seg_bind_wrap (wpAny_standAt ?_)
  refine seg_bind_wrap (wpAny_onRaise (wpAny_mono h (fun r s' h' => ?_) fun _ _ e => e.elim))
  cases r with
  | none => exact h'
  | some v =>
    dsimp only at h' ⊢
    refine seg_bind_wrap (wpAny_mono h' (fun _ s₁ h₁ => ?_) fun _ _ e => e.elim)
    refine seg_bind_wrap (wpAny_mono h₁ (fun _ s₂ h₂ => ?_) fun _ _ e => e.elim)
    rw [Sem.bind_eq_wrap',Sem.wrap_wrap]
    rw [Sem.wrap_congr (execs body env) _ _ (K' := loopK (.forLoop target it body orelse env)) (H' := (fun e => (do noteFrame e env; theTreesLotGoes e : Sem Unit).wrap (fun _ => .raise e) .raise id id))
        (fun f => by cases f <;> rfl)
        (fun e => by first | exact Sem.bind_eq_wrap _ _ | (show (do noteFrame e env; theTreesLotGoes e : Sem Unit).bind (fun _ => .raise e) = _; rw [Sem.bind_eq_wrap]))]
    exact h₂
end
theorem entry_yf : entryFor table "proto.yield_from" = some Builtin.«proto.yield_from» := entryFor_of_tree (by kernel_rfl)
section
variable {prog : Program} {w : World} {A : Around} {R : GenEnd} {Y : Protocol} {n : Nat} {s₀ : Shared} {fs : List Frame} {s : Shared} {env : Env}
theorem den_builtin {id : String} {b : Builtin} {args : Args} (h : entryFor table id = some b) : (model prog w).den (.builtin id args) = b args := by
  show (match entryFor table id with | some b => b args | none => _) = _
  rw [h]
theorem li_next_item {E : Value → Shared → Prop} {it l : Addr} {i : Nat} {items : Array Value} {x : Value} {Q : Option Value → Shared → Prop} (hit : s.heap.IsListIter it l i)
    (hl : s.heap.IsList l items) (hx : items[i]? = some x) (hQ : ∀ h',h'.IsListIter it l (i + 1) → Heap.SameBut it s.heap h' → Q (some x) { s with heap := h' }) :
    wpAny (model prog w) A (callSpecial? (.ref it) "__next__") Q E s := by
  refine ob_EAA (id hit) fun o ho hc hd => ?_
  (refine ob_EAAE hl fun ol hol _ nl hdl => ?_; try clear hl)
  refine wpAny_callSpecial?_slot (name := Str.ofString "__next__") hit.typeIs slot_listiter_next
    (wpAny_call_entry slot_listiter_next hit.typeIs entry_listiter_next ?_ (args_listiter_next _))
  show wpAny _ _ (field (.ref it) 0 >>= _) _ _ s
  refine wpAny_bind (wpAny_field ho hd (x := .ref l) rfl ?_)
  show wpAny _ _ (if (Value.ref l == Value.none) = true then _ else _) _ _ s
  rw [if_neg (show ¬ ((Value.ref l == Value.none) = true) from Bool.false_ne_true)]
  show wpAny _ _ (field (.ref it) 1 >>= _) _ _ s
  refine wpAny_bind (wpAny_field ho hd (x := .int i 0) rfl ?_)
  show wpAny _ _ (seqItems? (.ref l) >>= _) _ _ s
  refine wpAny_bind (wpAny_seqItems hol hdl ?_)
  simp only [Int.toNat_natCast,hx]
  refine wpAny_bind (wpAny_setField ho hd (by simp) (wpAny_pure ⟨x,rfl,hQ _ ?_ (Heap.SameBut.update ..)⟩))
  exact ⟨_,Heap.get?_update_self _ ho (Obj.isFreed_of_fields (Obj.data_mapFields hd _)),(Obj.cls_mapFields ..).trans hc,by
    rw [Obj.data_mapFields hd]; simp [rawInt]⟩
theorem li_next_end {E : Value → Shared → Prop} {it l : Addr} {i : Nat} {items : Array Value} {Q : Option Value → Shared → Prop} (hh : A.handled = none)
    (hit : s.heap.IsListIter it l i) (hl : s.heap.IsList l items) (hx : items[i]? = none)
    (hE : ∀ h' e o,Heap.ExtBut it s.heap h' → h'.get? e = some o → o.cls = .type "StopIteration" → o.data = .fields #[.none,.none,.none,.bool false,.none,.none] ∨ (∃ vs,o.data = .fields vs ∧ vs[5]? = some .none) → E (.ref e) { s with heap := h' }) : wpAny (model prog w) A (callSpecial? (.ref it) "__next__") Q E s := by
  refine ob_EAA (id hit) fun o ho hc hd => ?_
  (refine ob_EAAE hl fun ol hol _ nl hdl => ?_; try clear hl)
  refine wpAny_callSpecial?_slot (name := Str.ofString "__next__") hit.typeIs slot_listiter_next
    (wpAny_call_entry slot_listiter_next hit.typeIs entry_listiter_next ?_ (args_listiter_next _))
  show wpAny _ _ (field (.ref it) 0 >>= _) _ _ s
  refine wpAny_bind (wpAny_field ho hd (x := .ref l) rfl ?_)
  show wpAny _ _ (if (Value.ref l == Value.none) = true then _ else _) _ _ s
  rw [if_neg (show ¬ ((Value.ref l == Value.none) = true) from Bool.false_ne_true)]
  show wpAny _ _ (field (.ref it) 1 >>= _) _ _ s
  refine wpAny_bind (wpAny_field ho hd (x := .int i 0) rfl ?_)
  show wpAny _ _ (seqItems? (.ref l) >>= _) _ _ s
  refine wpAny_bind (wpAny_seqItems hol hdl ?_)
  simp only [Int.toNat_natCast,hx]
  refine wpAny_bind (wpAny_rule (wpAny_bind (wpAny_setField ho hd (by simp) ?_)))
  show wpAny _ _ (newExc (.type "StopIteration") [] >>= _) _ _ _
  refine wpAny_bind ?_
  simp only [newExc,newTuple]
  refine wpAny_bind (wpAny_newObj_type ?_ (by size_fits))
  refine wpAny_bind (m := firstArgMember _ _) (wpAny_of_eq (a := Value.none) (by first | rfl | (simp only [firstArgMember]; rfl)) ?_)
  refine wpAny_newObj_type ?_ (by size_fits)
  simp only [raiseNew]
  refine wpAny_bind (wpAny_handled ?_)
  rw [show A.in1.handled = none from hh]
  refine wpAny_bind (wpAny_pure (wpAny_throw ?_))
  refine hE _ _ _ (((Heap.SameBut.update ..).extBut.push _).push _) (Heap.get?_push_size _ rfl) rfl (.inr ⟨_,rfl,?_⟩)
  rfl
theorem close_li : typeLookup (.type "list_iterator") "close" = pure none := by rw [typeLookup_type,builtinLookup_eq_fast]; kernel_rfl
theorem slept_li {J l : Addr} {i : Nat} {b : Bool} {E : Value → Shared → Prop} {Q : Unit → Shared → Prop} (hit : s.heap.IsListIter J l i) (h : Q () s) : wpAny (model prog w) A (Builtin.Generator.sleptOver (.ref J) b) Q E s := by
  (refine ob_EAA hit fun o ho hc hd => ?_; try clear hit)
  unfold Builtin.Generator.sleptOver
  refine wpAny_bind (wpAny_load ho ?_)
  rw [hc,if_pos (by decide)]
  exact wpAny_pure h
theorem quiet_yf {as : Args} : (Code.builtin "proto.yield_from" as).quiet = true := Code.quiet_builtin _ (by decide +kernel)
noncomputable abbrev cYF (J : Addr) : Code := .builtin "proto.yield_from" ⟨[.ref J,.bool false,.none], []⟩
theorem yf_first {J l : Addr} {items : Array Value} {x : Value} {i : Nat} (hit : s.heap.IsListIter J l i) (hl : s.heap.IsList l items) (hx : items[i]? = some x) (hfs : splitAtGen fs = none) (hfg : fs.any Frame.guarded = false)
    (h : ∀ h' (kap : Resume → Shared → Prop),h'.IsListIter J l (i + 1) → Heap.SameBut J s.heap h' → (∀ s'' : Shared,(∃ i',s''.heap.IsListIter J l i') → Seg (model prog w) A R Y n s'' (cYF J) ((model prog w).den (cYF J)) fs s'' → kap (.send .none) s'') → Y n s₀ x { s with heap := h' } kap) :
    Seg (model prog w) A R Y (n + 1) s₀ (cYF J) ((model prog w).den (cYF J)) fs s := by
  rw [den_builtin entry_yf]
  unfold Builtin.«proto.yield_from»
  dsimp only
  refine seg_bind (wpAny_pure ?_)
  refine seg_bind (wpAny_attempt (wpAny_holding ?_))
  rw [if_neg Bool.false_ne_true,if_pos (by decide)]
  refine wpAny_bind (wpAny_rule (wpAny_bind (li_next_item hit hl hx fun h' hit' hs' => wpAny_pure ?_)))
  dsimp only
  refine seg_bind (wpAny_typeOf (T := "list_iterator") (Heap.IsListIter.typeIs hit') ?_)
  dsimp only
  refine seg_bind (wpAny_of_eq close_li ?_)
  refine seg_bind (wpAny_pure ?_)
  refine seg_bind (slept_li (s := { s with heap := h' }) hit' ?_)
  refine seg_yield hfs rfl hfg (h h' _ hit' hs' fun s'' hJ hk => ?_)
  refine ob_E hJ fun i' hJ => ?_
  refine seg_bind (wpAny_pure ?_)
  refine seg_bind (slept_li hJ ?_)
  exact seg_again quiet_yf hk
theorem ends_stop {e : Addr} {o : Obj} {E : Value → Shared → Prop} {Q : Bool → Shared → Prop} (ho : s.heap.get? e = some o) (hc : o.cls = .type "StopIteration") (h : Q true s) : wpAny (model prog w) A (Builtin.Generator.endsTheTurnAsAValue false (.ref e)) Q E s := by
  have hT : s.TypeIs (.ref e) "StopIteration" := ⟨o,ho,hc⟩
  unfold Builtin.Generator.endsTheTurnAsAValue Builtin.Generator.isStopAndMetaclass
  refine wpAny_bind (wpAny_bind (wpAny_typeOf hT ?_))
  dsimp only
  refine wpAny_bind (wpAny_of_eq isSubtype_stop ?_)
  refine wpAny_bind (wpAny_pure (M := model prog w) ?_)
  refine wpAny_pure ?_
  rw [if_neg Bool.false_ne_true]
  exact wpAny_pure h
theorem yf_second {J l : Addr} {items : Array Value} {i : Nat} (hh : A.handled = none) (hh' : (A.over (cYF J) fs).handled = none) (hit : s.heap.IsListIter J l i) (hl : s.heap.IsList l items) (hx : items[i]? = none)
    (h : ∀ h',Heap.ExtBut J s.heap h' → Seg (model prog w) A R Y n s₀ (cYF J) (leafOf (.ok (.ret .none))) fs { s with heap := h' }) :
    Seg (model prog w) A R Y n s₀ (cYF J) ((model prog w).den (cYF J)) fs s := by
  rw [den_builtin entry_yf]
  unfold Builtin.«proto.yield_from»
  dsimp only
  refine seg_bind (wpAny_pure ?_)
  refine seg_bind (wpAny_attempt (wpAny_holding ?_))
  rw [if_neg Bool.false_ne_true,if_pos (by decide)]
  refine wpAny_bind (wpAny_rule (wpAny_bind (li_next_end hh' hit hl hx fun h' e o hs' ho hc hd => ?_)))
  dsimp only
  refine seg_bind (ends_stop (s := { s with heap := h' }) ho hc ?_)
  rw [if_pos rfl,if_neg Bool.false_ne_true]
  refine seg_bind (wpAny_rule ?_)
  obtain ⟨vs,hd,hv⟩ : ∃ vs,o.data = .fields vs ∧ vs[5]? = some .none := by
    rcases hd with hd | hd
    · exact ⟨_,hd,rfl⟩
    · exact hd
  refine seg_bind (wpAny_field (s := { s with heap := h' }) ho hd hv ?_)
  exact h h' hs'
end
section
variable {prog : Program} {w : World} {A : Around} {R : GenEnd} {Y : Protocol} {n : Nat} {s₀ : Shared} {fs : List Frame} {s : Shared} {env : Env} {c : Code}
  {H : Value → Sem Fin} {gd : Bool → Bool} {lv : List Value → List Value}
theorem seg_YieldFrom {K : Value → Sem Fin} {e : Expr} {pos : Pos} {l : Addr} {items : Array Value} (h : wpAny (model prog w) (A.over c fs) (eval e env) (fun v s₁ => v = .ref l ∧ s₁.heap.IsList l items ∧
      ∀ h',h' = s₁.heap.push { cls := .type "list_iterator",data := .fields #[.ref l,.int 0 0] } → ∀ p,Seg (model prog w) A R Y n s₀ (cYF s₁.heap.objs.size) ((model prog w).den (cYF s₁.heap.objs.size)) (.ret (fun r => (valBack r).wrap K H gd lv) none (gd false) (lv []) c p [] :: fs) { s₁ with heap := h' }) NoE s) :
    Seg (model prog w) A R Y n s₀ c ((eval (.YieldFrom e pos) env).wrap K H gd lv) fs s := by
  have e0 : eval (.YieldFrom e pos) env = (do let v ← eval e env; standAt pos; yieldFrom env v) := by first | rfl | exact arm_eval_YieldFrom _ _ _
  rw [e0]
  refine seg_bind_wrap (wpAny_mono h (fun v s₁ h₁ => ?_) fun _ _ e => e.elim)
  obtain ⟨rfl,hl,h₁⟩ := h₁
  refine seg_bind_wrap (wpAny_standAt ?_)
  unfold yieldFrom
  refine seg_bind_wrap (wpAny_typeOf hl.typeIs ?_)
  rw [if_neg (by decide)]
  refine seg_bind_wrap (wpAny_holding (wpAny_pyIter_list hl ?_))
  exact seg_runValue (h₁ _ rfl)
end
noncomputable def Since (C : Addr) (N : Nat) (s₀ s : Shared) : Prop := ∃ h' tk,s = { s₀ with heap := h',toks := tk } ∧ ∀ (b : Nat) o,b ≠ C → b < N → s₀.heap.get? b = some o → h'.get? b = some o
theorem Since.refl (C : Addr) (N : Nat) (s : Shared) : Since C N s s := ⟨s.heap,s.toks,rfl,fun _ _ _ _ e => e⟩
theorem Since.step {C : Addr} {N : Nat} {s₀ s : Shared} (x : Since C N s₀ s) {h' : Heap} {tk : Nat} (hk : ∀ (b : Nat) o,b ≠ C → b < N → s.heap.get? b = some o → h'.get? b = some o) : Since C N s₀ { s with heap := h',toks := tk } := by
  (refine ob_EEA x fun h₁ tk₁ z1q hk₁ => ?_; try clear x; obtain rfl := z1q)
  exact ⟨h',tk,rfl,fun b o h1 h2 e => hk b o h1 h2 (hk₁ b o h1 h2 e)⟩
theorem Since.but {C : Addr} {N : Nat} {s₀ s : Shared} (x : Since C N s₀ s) {h' : Heap} {a : Nat} (ha : N ≤ a) (hk : Heap.ExtBut a s.heap h') : Since C N s₀ { s with heap := h' } :=
  x.step (tk := s.toks) fun b o _ hl e => hk b o (Nat.ne_of_lt (Nat.lt_of_lt_of_le hl ha)) e
noncomputable def YP (C : Addr) (N : Nat) (ls : Addr) (ns : Array Value) (l0 tx : Addr) : Protocol := fun _ s₀ v s kap => v = .ref tx ∧ Since C N s₀ s ∧ ∃ I J oC oI oJ,@LE.le Nat _ N I ∧ @LE.le Nat _ N J ∧ s.heap.get? C = some oC ∧ s.heap.get? I = some oI ∧ s.heap.get? J = some oJ ∧ s.heap.IsList l0 #[.ref tx] ∧ s.heap.IsList ls ns ∧
  ∀ s'' : Shared,s''.heap.get? C = some oC → s''.heap.get? I = some oI → s''.heap.get? J = some oJ → s''.heap.IsList l0 #[.ref tx] → s''.heap.IsList ls ns → kap (.send .none) s''
noncomputable def RP (C : Addr) (N : Nat) : GenEnd := fun n s₀ r s₁ => r = .ok (.ret .none) ∧ (n = 0 ∧ Since C N s₀ s₁)
section
variable {prog : Program} {w : World} {A : Around} {n : Nat} {s₀ : Shared} {s : Shared} {env : Env} {hb : Heap} {C ls l0 tx : Addr} {I N : Nat} {ns : Array Value} {Y : Protocol}
  {KF : Flow → Sem Fin} {HF : Value → Sem Fin} {cF : Code} {p : Pos} {x : Str} {q1 q2 q3 q4 q5 q6 : Pos} {lvF : List Value}
theorem seg_tail {tg : Expr} {body : List Stmt} (hh : (A.over (.forLoop tg (.ref I) body [] env) [.ret (fun r => (ownBack env r).wrap KF HF id id) none false [] cF p []]).handled = none) (hKF : KF .next = .pure (.done (.ret .none))) (hI : s.heap.IsRevIter I ls (-1)) (hIN : N ≤ I) (hS : Since C N s₀ s) :
    Seg (model prog w) A (RP C N) Y 0 s₀ (.forLoop tg (.ref I) body [] env) ((model prog w).den (.forLoop tg (.ref I) body [] env)) [.ret (fun r => (ownBack env r).wrap KF HF id id) none false [] cF p []] s := by
  refine seg_forLoop (wpAny_pyNext_rev_end hh hI fun h' he => ?_)
  refine seg_again rfl ?_
  show Seg _ A _ _ _ s₀ _ (leafOf (.ok .next)) _ _
  refine seg_leaf (.ok .next) ?_
  show Seg _ A _ _ _ s₀ _ (KF .next) [] _
  rw [hKF]
  exact seg_end (.ok (.ret .none)) ⟨rfl,rfl,hS.but hIN he⟩
noncomputable abbrev gTg (x : Str) (q1 : Pos) : Expr := .Name x q1
noncomputable abbrev gBody (x : Str) (q2 q3 q4 q5 q6 : Pos) : List Stmt := [.If (.Name x q2) [.Expr (.YieldFrom (.Name x q3) q4) q5] [] q6]
noncomputable abbrev gCode (x : Str) (q1 q2 q3 q4 q5 q6 : Pos) (I : Addr) (env : Env) : Code := .forLoop (gTg x q1) (.ref I) (gBody x q2 q3 q4 q5 q6) [] env
noncomputable abbrev gFs (env : Env) (KF : Flow → Sem Fin) (HF : Value → Sem Fin) (cF : Code) (p : Pos) : List Frame := [.ret (fun r => (ownBack env r).wrap KF HF id id) none false [] cF p []]
theorem lstAt {h h' : Heap} {l I : Addr} {ns : Array Value} (hl : h.IsList l ns) (hs : Heap.SameBut I h h') (n : l ≠ I) : h'.IsList l ns := let ⟨o,ho,r⟩ := hl; ⟨o,(hs.2 l n).trans ho,r⟩
theorem seg_gloop (hh : A.handled = none) (hKF : KF .next = .pure (.done (.ret .none))) (hx : env.kindOf x = some .local) (hks : env.scope.kind = .function) (hd : (x == ("__debug__" : Str)) = false) (hin : interactive env = false)
    (hp : (env.scope.kind == .class || (env.scope.kind == .module && env.locals != env.globals)) = false) (hIN : N ≤ I) (hIb : hb.get? I = none) (hCb : hb.get? env.locals = none) (hIC : I ≠ env.locals) (hlI : ls ≠ I) (hlC : ls ≠ env.locals) (hbl : (hb.get? ls).isSome = true)
    (h0 : ns[0]? = some (.ref l0)) (hb0 : hb.IsList l0 #[.ref tx]) (hes : ∀ i,0 < i → ∀ v,ns[i]? = some v → ∃ e,v = .ref e ∧ hb.IsList e #[]) :
    ∀ (i : Nat) (s : Shared),i < ns.size → s.heap.IsRevIter I ls (i : Int) → s.heap.IsList ls ns → (∀ b o,hb.get? b = some o → s.heap.get? b = some o) → (∃ m,s.heap.Ns env.locals m) → Since env.locals N s₀ s →
    Seg (model prog w) A (RP env.locals N) (YP env.locals N ls ns l0 tx) 1 s₀ (gCode x q1 q2 q3 q4 q5 q6 I env) ((model prog w).den (gCode x q1 q2 q3 q4 q5 q6 I env)) (gFs env KF HF cF p) s := by
  intro i
  induction i with
  | zero =>
    intro s hi hI hl hup hns hS
    (refine ob_E hns fun m hn => ?_; try clear hns)
    refine seg_forLoop (wpAny_pyNext_rev_item hI hl h0 fun h₁ hI₁ hs₁ => ?_)
    refine wpAny_of_eq (rfl : letOwnedTupleGo (.Name x q1) (.ref I) (.ref l0) = pure ()) ?_
    refine wpAny_assign_Name (wpAny_storeName_local hx (hn.sameBut hs₁ hIC.symm) (fun h₂ hn₂ hs₂ => ?_) hp)
    have up₂ : ∀ b o,hb.get? b = some o → h₂.get? b = some o := fun b o ho => (hs₂.2 b (fun q => by rw [q,hCb] at ho; cases ho)).trans ((hs₁.2 b (fun q => by rw [q,hIb] at ho; cases ho)).trans (hup b o ho))
    refine seg_execs_cons (seg_If ?_)
    refine isTrue_plain (wpAny_Name (wpAny_loadName_local hks hx hn₂ (by rw [if_pos rfl]) ?_) hd) rfl
    have hl0₂ : h₂.IsList l0 #[.ref tx] := lstKept hb0 up₂
    refine wpAny_truthy_list hl0₂ (show ((1 : Nat) : Int) < 2 ^ 63 by decide) ?_
    rw [if_pos (show (!(#[Value.ref tx] : Array Value).isEmpty) = true from rfl)]
    refine seg_execs_cons (seg_Expr hin rfl (seg_YieldFrom (items := #[.ref tx]) (wpAny_Name (wpAny_loadName_local hks hx hn₂ (by rw [if_pos rfl]) ⟨rfl,hl0₂,fun h₃ e₃ p => ?_⟩) hd)))
    subst e₃
    generalize hJ : h₂.objs.size = J
    have hI₂ : h₂.IsRevIter I ls (-1) := by
      have e1 : ((0 : Nat) : Int) - 1 = -1 := by rfl
      rw [e1] at hI₁
      exact hI₁.at fun o ho => (hs₂.2 I hIC).trans ho
    have hl₂ : h₂.IsList ls ns := lstAt (lstAt hl hs₁ hlI) hs₂ hlC
    have hIlt : I ≠ J := by
      (refine ob_EA hI₂ fun o ho _ => ?_; try clear hI₂)
      exact Nat.ne_of_lt (hJ ▸ Heap.lt_size ho)
    have hClt : env.locals ≠ J := by
      (refine ob_EEEA hn₂ fun o _ _ ho _ => ?_; try clear hn₂)
      exact Nat.ne_of_lt (hJ ▸ Heap.lt_size ho)
    have hJN : N ≤ J := Nat.le_of_lt (Nat.lt_of_le_of_lt hIN (let ⟨o,ho,_⟩ := hI₂; hJ ▸ Heap.lt_size ho))
    have hJb : hb.get? J = none := by
      cases e : hb.get? J with
      | none => rfl
      | some o => exact absurd (Heap.lt_size (up₂ J o e)) (by rw [hJ]; exact Nat.lt_irrefl _)
    have hl0J : l0 ≠ J := by
      (refine ob_EA hl0₂ fun o ho _ => ?_; try clear hl0₂)
      exact Nat.ne_of_lt (hJ ▸ Heap.lt_size ho)
    have hS₂ : ∀ tk,Since env.locals N s₀ { s with heap := h₂,toks := tk } := fun tk => (hS.but hIN hs₁.extBut).step fun b o hc _ e => hs₂.extBut b o hc e
    have hgJ : (h₂.push { cls := .type "list_iterator",data := .fields #[.ref l0,.int 0 0] }).get? J = some { cls := .type "list_iterator",data := .fields #[.ref l0,.int 0 0] } := hJ ▸ Heap.get?_push_size _ rfl
    refine yf_first (i := 0) (items := #[.ref tx]) ⟨_,hgJ,rfl,rfl⟩ (lstKept hl0₂ fun b o e => Heap.get?_push_of_some _ e) rfl rfl rfl fun h' kap hit' hs' hk => ?_
    refine ob_EA (id hit') fun oJ hoJ hJd => ?_
    refine ob_EA (id hI₂) fun oI hoI hId => ?_
    refine ob_EEEA (id hn₂) fun oC es ep hoC hCd => ?_
    have up₃ : ∀ b o,b ≠ J → h₂.get? b = some o → h'.get? b = some o := fun b o hb e => (hs'.2 b hb).trans (Heap.get?_push_of_some _ e)
    refine ⟨rfl,(hS₂ 0).step fun b o _ hl e => up₃ b o (Nat.ne_of_lt (Nat.lt_of_lt_of_le hl hJN)) e,I,J,oC,oI,oJ,hIN,hJN,up₃ _ _ hClt hoC,up₃ _ _ hIlt hoI,hoJ,(let ⟨o,ho,r⟩ := hl0₂; ⟨o,up₃ _ _ hl0J ho,r⟩),(let ⟨o,ho,r⟩ := hl₂; ⟨o,up₃ _ _ (Nat.ne_of_lt (hJ ▸ Heap.lt_size ho)) ho,r⟩),fun s'' gC gI gJ gl0 gls => ?_⟩
    refine hk s'' ⟨_,oJ,gJ,hJd⟩ (yf_second hh hh ⟨oJ,gJ,hJd⟩ gl0 rfl fun h₄ hx₄ => ?_)
    refine seg_leaf (.ok (.ret .none)) ?_
    show Seg _ A _ _ _ s'' _ (.pure (.again (gCode x q1 q2 q3 q4 q5 q6 I env))) _ _
    refine seg_again rfl (seg_tail hh hKF (⟨oI,hx₄ I oI hIlt gI,hId⟩) hIN ((Since.refl _ _ s'').but hJN hx₄))
  | succ i ih =>
    intro s hi hI hl hup hns hS
    (refine ob_E hns fun m hn => ?_; try clear hns)
    have hxi : ns[i + 1]? = some (ns[i + 1]'hi) := Array.getElem?_eq_getElem hi
    refine ob_EA (hes (i + 1) (Nat.succ_pos _) _ hxi) fun e he hle => ?_
    rw [he] at hxi
    refine seg_forLoop (wpAny_pyNext_rev_item hI hl hxi fun h₁ hI₁ hs₁ => ?_)
    refine wpAny_of_eq (rfl : letOwnedTupleGo (.Name x q1) (.ref I) (.ref e) = pure ()) ?_
    refine wpAny_assign_Name (wpAny_storeName_local hx (hn.sameBut hs₁ hIC.symm) (fun h₂ hn₂ hs₂ => ?_) hp)
    have up₂ : ∀ b o,hb.get? b = some o → h₂.get? b = some o := fun b o ho => (hs₂.2 b (fun q => by rw [q,hCb] at ho; cases ho)).trans ((hs₁.2 b (fun q => by rw [q,hIb] at ho; cases ho)).trans (hup b o ho))
    refine seg_execs_cons (seg_If ?_)
    refine isTrue_plain (wpAny_Name (wpAny_loadName_local hks hx hn₂ (by rw [if_pos rfl]) ?_) hd) rfl
    have hle₂ : h₂.IsList e #[] := lstKept hle up₂
    refine wpAny_truthy_list hle₂ (by decide) ?_
    rw [if_neg (by decide)]
    refine seg_execs_nil ?_
    refine seg_execs_nil ?_
    refine seg_again rfl (ih _ (Nat.lt_of_succ_lt hi) ?_ ?_ up₂ ⟨_,hn₂⟩ ?_)
    · have e1 : ((i + 1 : Nat) : Int) - 1 = (i : Int) := by simp
      rw [e1] at hI₁
      exact hI₁.at fun o ho => (hs₂.2 I hIC).trans ho
    · exact lstAt (lstAt hl hs₁ hlI) hs₂ hlC
    · exact (hS.but hIN hs₁.extBut).step fun b o hc _ e => hs₂.extBut b o hc e
end
section
variable {prog : Program} {w : World} {A : Around} {E : Value → Shared → Prop} {s₀ s : Shared} {env : Env} {hb : Heap} {ls l0 tx : Addr} {N : Nat} {ns : Array Value} {x rv nsn : Str} {p1 p2 p3 p4 q1 q2 q3 q4 q5 q6 : Pos}
noncomputable abbrev gFor (x rv nsn : Str) (p1 p2 p3 p4 q1 q2 q3 q4 q5 q6 : Pos) : List Stmt := [.For (gTg x q1) (.Call (.Name rv p1) [.Name nsn p2] [] p3) (gBody x q2 q3 q4 q5 q6) [] p4]
theorem seg_gfunc (hh : A.handled = none) (hx : env.kindOf x = some .local) (hrv : env.kindOf rv = some .local) (hnsn : env.kindOf nsn = some .local) (hks : env.scope.kind = .function) (hd : (x == ("__debug__" : Str)) = false) (hd1 : (rv == ("__debug__" : Str)) = false) (hd2 : (nsn == ("__debug__" : Str)) = false) (hin : interactive env = false)
    (hp : (env.scope.kind == .class || (env.scope.kind == .module && env.locals != env.globals)) = false) (hCb : hb.get? env.locals = none) (hbl : hb.IsList ls ns)
    (h0 : ns[0]? = some (.ref l0)) (hb0 : hb.IsList l0 #[.ref tx]) (hes : ∀ i,0 < i → ∀ v,ns[i]? = some v → ∃ e,v = .ref e ∧ hb.IsList e #[])
    (hup : ∀ b o,hb.get? b = some o → s.heap.get? b = some o) {m : Str → Option Value} (hn : s.heap.Ns env.locals m) (hm1 : m rv = some (.type "reversed")) (hm2 : m nsn = some (.ref ls)) (hN : N ≤ s.heap.objs.size) :
    Seg (model prog w) A (RP env.locals N) (YP env.locals N ls ns l0 tx) 1 s (.func (gFor x rv nsn p1 p2 p3 p4 q1 q2 q3 q4 q5 q6) env) ((model prog w).den (.func (gFor x rv nsn p1 p2 p3 p4 q1 q2 q3 q4 q5 q6) env)) [] s := by
  refine seg_func (seg_execs_cons (seg_For (fun _ => rfl) ?_))
  refine call_glob (w := w) (σ := []) (Ex := fun _ => False) ?_
  refine wpAny_Name (wpAny_loadName_local hks hrv hn hm1 ?_) hd1
  refine PyProof.Rows.callWith_type rfl (any_spliced rfl ?_)
  refine Calls.spliced_cons (wpAny_Name (wpAny_loadName_local hks hnsn hn hm2 ?_) hd2)
  refine Calls.spliced_nil ?_
  have hls : s.heap.IsList ls ns := lstKept hbl hup
  refine call_reversed_list hls ?_
  generalize hI : s.heap.objs.size = I
  have hgI : (s.heap.push (revObj ls ((ns.size : Int) - 1))).get? I = some (revObj ls ((ns.size : Int) - 1)) := hI ▸ Heap.get?_push_size _ rfl
  have up : ∀ b o,s.heap.get? b = some o → (s.heap.push (revObj ls ((ns.size : Int) - 1))).get? b = some o := fun b o e => Heap.get?_push_of_some _ e
  have lt : ∀ b o,s.heap.get? b = some o → b ≠ I := fun b o e => Nat.ne_of_lt (hI ▸ Heap.lt_size e)
  have hsz : 0 < ns.size := (Array.getElem?_eq_some_iff.mp h0).1
  have e1 : (ns.size : Int) - 1 = ((ns.size - 1 : Nat) : Int) := (Int.ofNat_sub hsz).symm
  have hrev : (s.heap.push (revObj ls ((ns.size : Int) - 1))).IsRevIter I ls ((ns.size - 1 : Nat) : Int) := ⟨_,hgI,rfl,by rw [e1]; rfl⟩
  refine wpAny_pyIter_revIter hrev fun p => ?_
  have hIb : hb.get? I = none := by
    cases e : hb.get? I with
    | none => rfl
    | some o => exact absurd rfl (lt I o (hup I o e))
  refine ob_EEEA (id hn) fun oC es ep hoC hCd => ?_
  refine ob_EA (id hls) fun ol hol hld => ?_
  refine ob_EA (id hbl) fun ol' hol' hld' => ?_
  refine seg_gloop hh rfl hx hks hd hin hp (hI ▸ hN) hIb hCb (lt _ _ hoC).symm (lt _ _ hol) (fun q => by rw [q,hCb] at hol'; cases hol') (by rw [hol']; rfl) h0 hb0 hes (ns.size - 1) _ (by exact Nat.sub_lt (by assumption) (by decide)) hrev (lstKept hls up) (fun b o e => up b o (hup b o e)) ⟨m,hn.push _⟩ ?_
  exact (Since.refl _ _ s).step fun b o _ _ e => up b o e
theorem set_push {G : Array GenState} {x y : GenState} : (G.push x).setIfInBounds G.size y = G.push y := by
  apply Array.ext'
  simp
theorem gen_next1 {ga : Addr} {G : Array GenState} {Q : Option Value → Shared → Prop} (hh : A.handled = none) (hlim : s.heap.NoLimit) (hroom : A.depth < recursionLimit) (hg : s.heap.IsGen ga G.size) (hG : s.gens = G.push (.fresh (.func (gFor x rv nsn p1 p2 p3 p4 q1 q2 q3 q4 q5 q6) env)))
    (hx : env.kindOf x = some .local) (hrv : env.kindOf rv = some .local) (hnsn : env.kindOf nsn = some .local) (hks : env.scope.kind = .function) (hd : (x == ("__debug__" : Str)) = false) (hd1 : (rv == ("__debug__" : Str)) = false) (hd2 : (nsn == ("__debug__" : Str)) = false) (hin : interactive env = false)
    (hp : (env.scope.kind == .class || (env.scope.kind == .module && env.locals != env.globals)) = false) (hCb : hb.get? env.locals = none) (hbl : hb.IsList ls ns)
    (h0 : ns[0]? = some (.ref l0)) (hb0 : hb.IsList l0 #[.ref tx]) (hes : ∀ i,0 < i → ∀ v,ns[i]? = some v → ∃ e,v = .ref e ∧ hb.IsList e #[])
    (hup : ∀ b o,hb.get? b = some o → s.heap.get? b = some o) {m : Str → Option Value} (hn : s.heap.Ns env.locals m) (hm1 : m rv = some (.type "reversed")) (hm2 : m nsn = some (.ref ls)) (hN : N ≤ s.heap.objs.size)
    (hQ : ∀ h' tk gs' I J oC oI oJ,(∀ (b : Nat) o,b ≠ env.locals → b < N → s.heap.get? b = some o → h'.get? b = some o) → @LE.le Nat _ N I → @LE.le Nat _ N J → h'.get? env.locals = some oC → h'.get? I = some oI → h'.get? J = some oJ →
      (∀ s'' : Shared,s''.heap.get? env.locals = some oC → s''.heap.get? I = some oI → s''.heap.get? J = some oJ → s''.heap.IsList l0 #[.ref tx] → s''.heap.IsList ls ns → GenState.Goes (model prog w) A.in1 (RP env.locals N) (YP env.locals N ls ns l0 tx) 0 gs' (.send .none) s'') →
      Q (some (.ref tx)) { s with heap := h',toks := tk,gens := G.push gs' }) : wpAny (model prog w) A (pyNext (.ref ga)) Q E s := by
  have hgs : s.gens[G.size]? = some (.fresh (.func (gFor x rv nsn p1 p2 p3 p4 q1 q2 q3 q4 q5 q6) env)) := by rw [hG]; simp
  refine wpAny_pyNext_gen (P := fun n s₀ s₁ => n = 0 ∧ Since env.locals N s₀ s₁) (Y := YP env.locals N ls ns l0 tx) (n := 1) hh hlim hroom hg hgs ⟨rfl,seg_gfunc (A := A.in1) hh hx hrv hnsn hks hd hd1 hd2 hin hp hCb hbl h0 hb0 hes hup hn hm1 hm2 hN⟩ (fun v s₁ gs' hY => ?_) (fun s₁ hP => ?_)
  · (refine ob_AAEEEEEAAAAAAA hY fun z1q z2q I J oC oI oJ hI hJ gC gI gJ _ _ hkap => ?_; try clear hY; obtain rfl := z1q; obtain ⟨h',tk,rfl,hk⟩ := z2q)
    have := hQ h' tk gs' I J oC oI oJ hk hI hJ gC gI gJ hkap
    have e : (({ s.setGen G.size .running with heap := h',toks := tk } : Shared).setGen G.size gs') = { s with heap := h',toks := tk,gens := G.push gs' } := by
      unfold Shared.setGen
      simp only [hG,set_push]
    rw [e]
    exact this
  · exact absurd hP.1 (by decide)
theorem gen_next2 {ga : Addr} {G : Array GenState} {gs : GenState} {C : Addr} {Q : Option Value → Shared → Prop} (hh : A.handled = none) (hlim : s.heap.NoLimit) (hroom : A.depth < recursionLimit) (hg : s.heap.IsGen ga G.size) (hG : s.gens = G.push gs)
    (hgo : GenState.Goes (model prog w) A.in1 (RP C N) (YP C N ls ns l0 tx) 0 gs (.send .none) (s.setGen G.size .running))
    (hQ : ∀ h' tk,(∀ (b : Nat) o,b ≠ C → b < N → s.heap.get? b = some o → h'.get? b = some o) → Q none { s with heap := h',toks := tk,gens := G.push .finished }) : wpAny (model prog w) A (pyNext (.ref ga)) Q E s := by
  have hgs : s.gens[G.size]? = some gs := by rw [hG]; simp
  refine wpAny_pyNext_gen (P := fun n s₀ s₁ => n = 0 ∧ Since C N s₀ s₁) (Y := YP C N ls ns l0 tx) (n := 0) hh hlim hroom hg hgs hgo (fun v s₁ gs' hY => ?_) (fun s₁ hP h' hk' => ?_)
  · (refine ob_AAEEEEEAAAAAAA hY fun _ _ I J oC oI oJ _ _ gC gI gJ gl0 gls hkap => ?_; try clear hY)
    exact (hkap s₁ gC gI gJ gl0 gls).elim
  · (refine ob_AEEA hP fun _ h₁ tk z3q hk => ?_; try clear hP; obtain rfl := z3q)
    have := hQ h' tk fun b o h1 h2 e => hk' b o (hk b o h1 h2 e)
    have e : ({ ({ s.setGen G.size .running with heap := h₁,toks := tk } : Shared).setGen G.size .finished with heap := h' }) = ({ s with heap := h',toks := tk,gens := G.push .finished } : Shared) := by
      unfold Shared.setGen
      simp only [hG,set_push]
    rw [e]
    exact this
end
section
variable {prog : Program} {w : World} {A : Around} {s : Shared} {env : Env}
noncomputable def genO (g : Nat) (a b : Str) (t1 t2 : Tok) : Obj := { cls := .type "generator",data := .fields #[.int g 0,.str a t1,.str b t2] }
theorem call_gen {K : Frag} {h₀ : Heap} {L : Addr} {m : Str → Option Value} {news : List (Addr × Obj)} {f : Addr} {oc : Value} {od : Option Addr} {osl : Array (Option Value)} {name qual : Str} {params : Arguments} {body : List Stmt} {scope : Scope} {dV kV doc pm cdv ct : Value} {an : Option Addr} {args : Args} {binds : List (Str × Value)} {R : Result → Shared → Prop}
    (F : Fr h₀ L s.heap m) (X₀ : K.In h₀) (N : News h₀ L s.heap news) (hlim : h₀.NoLimit) (ho : K.lookup f = some ⟨oc,od,.func (fnOf name qual params body scope dV kV doc pm an cdv ct),osl⟩) (hcd : codeIn K cdv qual = true) (hroom : A.depth < recursionLimit)
    (hbind : BindsTo s (fnOf name qual params body scope dV kV doc pm an cdv ct) args binds) (hloc : ∀ y ∈ binds,scope.names.lookup y.1 = some .local) (hcell : ∀ x ∈ scope.names,x.2 ≠ .cell) (hco : scope.isCoroutine = false) (hgen : scope.isGenerator = true) (hk : scope.kind = .function)
    (h : ∀ C ga h' tk t1 t2 oC,Fr h₀ L s.heap m → News h₀ L s.heap news → Fr h₀ L h' m → News h₀ L h' ((ga,genO s.gens.size name qual t1 t2) :: (C,oC) :: news) → (∀ p ∈ news,@LT.lt Nat _ p.1 C) → @LT.lt Nat _ C ga → @LT.lt Nat _ L C → s.heap.get? C = none → h'.Ns C (fun y => binds.reverse.lookup y) → (∀ b o,s.heap.get? b = some o → h'.get? b = some o) →
      R (.ok (.ret (.ref ga))) { s with heap := h',toks := tk,gens := s.gens.push (.fresh (.func body (envOf qual scope C f cdv))) }) : codeAny (model prog w) A (.call (.ref f) args) R s := by
  have X := X₀.keeps F.keep
  refine codeAny_call_generator (fd := fnOf name qual params body scope dV kV doc pm an cdv ct) hroom (X _ _ ho) rfl hco hgen rfl (codeRec_of X hcd) ?_
  refine hbind _ _ _ _ ?_
  refine wpAny_newFunctionEnv hcell hloc (fun h₁ hn hs => ?_) hk
  have up : ∀ b o,s.heap.get? b = some o → h₁.get? b = some o := fun b o e => hs.extBut b o (Nat.ne_of_lt (Heap.lt_size e)) (Heap.get?_push_of_some _ e)
  have hsz : h₁.objs.size = s.heap.objs.size + 1 := by rw [hs.1,Heap.size_push]
  refine ⟨(hlim.keeps F.keep).keeps up,?_⟩
  have up' : ∀ b o,s.heap.get? b = some o → (h₁.push (genO s.gens.size name qual (s.toks + binds.length) (s.toks + binds.length + 1))).get? b = some o := fun b o e => Heap.get?_push_of_some _ (up b o e)
  have hC : s.heap.get? s.heap.objs.size = none := by
    cases e : s.heap.get? s.heap.objs.size with
    | none => rfl
    | some o => exact absurd (Heap.lt_size e) (Nat.lt_irrefl _)
  refine ob_EEEA (id hn) fun oC es ep hoC hCd => ?_
  have Lx : L < s.heap.objs.size := by refine ob_EEEA F.ns fun o _ _ e _ => ?_; exact Heap.lt_size e
  have F' : Fr h₀ L (h₁.push (genO s.gens.size name qual (s.toks + binds.length) (s.toks + binds.length + 1))) m := ⟨F.ns.keeps up',fun b o e => up' b o (F.keep b o e),F.above⟩
  have none₀ : ∀ a,s.heap.objs.size ≤ a → h₀.get? a = none := fun a ha => by
    cases e : h₀.get? a with
    | none => rfl
    | some o => exact absurd (Heap.lt_size (F.keep a o e)) (Nat.not_lt.mpr ha)
  refine h s.heap.objs.size h₁.objs.size _ (s.toks + binds.length + 1 + 1) (s.toks + binds.length) (s.toks + binds.length + 1) oC F N F' (?_ : News h₀ L _ _) (fun p hp => Heap.lt_size (N p hp).1) (by rw [hsz]; exact Nat.lt_succ_self _) Lx hC (hn.push _) up'
  intro p hp
  rcases List.mem_cons.mp hp with rfl | hp
  · exact ⟨Heap.get?_push_size _ rfl,Nat.ne_of_gt (by rw [hsz]; exact Nat.lt_succ_of_lt Lx),none₀ _ (by rw [hsz]; exact Nat.le_succ _)⟩
  rcases List.mem_cons.mp hp with rfl | hp
  · exact ⟨Heap.get?_push_of_some _ hoC,Nat.ne_of_gt Lx,none₀ _ (Nat.le_refl _)⟩
  · have z := N p hp
    exact ⟨up' _ _ z.1,z.2⟩
theorem news_after {g h h1 : Heap} {L C ga I J : Nat} {oC oC' oI oJ o0 : Obj} {news : List (Addr × Obj)} {m : Str → Option Value} (F : Fr g L h m) (NG : News g L h ((ga,o0) :: (C,oC) :: news)) (l1 : ∀ p ∈ news,@LT.lt Nat _ p.1 C) (l2 : C < ga)
    (keep1 : ∀ (b : Nat) o,b ≠ C → b < h.objs.size → h.get? b = some o → h1.get? b = some o) (hI : h.objs.size ≤ I) (hJ : h.objs.size ≤ J) (gC : h1.get? C = some oC') (gI : h1.get? I = some oI) (gJ : h1.get? J = some oJ) :
    Fr g L h1 m ∧ News g L h1 ((J,oJ) :: (I,oI) :: (ga,o0) :: (C,oC') :: news) ∧ ga < I ∧ ga < J ∧ (∀ (b : Nat) o,g.get? b = some o → b ≠ C ∧ b < h.objs.size) ∧ (L ≠ C ∧ L < h.objs.size) ∧ C < h.objs.size ∧ (∀ a ∈ news.map (·.1),@LT.lt Nat _ a C) := by
  have keep : ∀ (b : Nat) o,b ≠ C → h.get? b = some o → h1.get? b = some o := fun b o hb e => keep1 b o hb (Heap.lt_size e) e
  have memC := NG (C,oC) (List.mem_cons_of_mem _ List.mem_cons_self)
  have memG := NG (ga,o0) List.mem_cons_self
  have ltL : L < h.objs.size := by refine ob_EEEA F.ns fun o _ _ e _ => ?_; exact Heap.lt_size e
  have newI : ∀ b : Nat,h.objs.size ≤ b → b ≠ L ∧ g.get? b = none := fun b hb => ⟨fun q => absurd ltL (Nat.not_lt.mpr (q ▸ hb)),by
    cases e : g.get? b with
    | none => rfl
    | some o => exact absurd (Heap.lt_size (F.keep b o e)) (Nat.not_lt.mpr hb)⟩
  refine ⟨⟨F.ns.at' fun o e => keep L o memC.2.1.symm e,fun b o e => keep b o (fun q => by rw [q,memC.2.2] at e; cases e) (F.keep b o e),F.above⟩,fun p hp => ?_,Nat.lt_of_lt_of_le (Heap.lt_size memG.1) hI,Nat.lt_of_lt_of_le (Heap.lt_size memG.1) hJ,fun b o e => ⟨fun q => (by rw [q,memC.2.2] at e; cases e),Heap.lt_size (F.keep b o e)⟩,⟨memC.2.1.symm,ltL⟩,Heap.lt_size memC.1,fun a ha => (let ⟨p,hp,e⟩ := List.mem_map.mp ha; e ▸ l1 p hp)⟩
  rcases List.mem_cons.mp hp with rfl | hp
  · exact ⟨gJ,newI J hJ⟩
  rcases List.mem_cons.mp hp with rfl | hp
  · exact ⟨gI,newI I hI⟩
  rcases List.mem_cons.mp hp with rfl | hp
  · exact ⟨keep _ _ (Nat.ne_of_gt l2) memG.1,memG.2⟩
  rcases List.mem_cons.mp hp with rfl | hp
  · exact ⟨gC,memC.2⟩
  · have z := NG p (List.mem_cons_of_mem _ (List.mem_cons_of_mem _ hp))
    exact ⟨keep _ _ (Nat.ne_of_lt (l1 p hp)) z.1,z.2⟩
theorem news_after2 {g h h1 : Heap} {L C M : Nat} {news : List (Addr × Obj)} {m : Str → Option Value} (F : Fr g L h m) (hk : ∀ (b : Nat) o,b ≠ C → b < M → h.get? b = some o → h1.get? b = some o) (hL : L ≠ C ∧ L < M) (hg : ∀ (b : Nat) o,g.get? b = some o → b ≠ C ∧ b < M)
    (N : News g L h news) (hn : ∀ p ∈ news,@LT.lt Nat _ p.1 C) (hC : C < M) : Fr g L h1 m ∧ News g L h1 news :=
  ⟨⟨F.ns.at' fun o e => hk L o hL.1 hL.2 e,fun b o e => hk b o (hg b o e).1 (hg b o e).2 (F.keep b o e),F.above⟩,fun p hp => ⟨hk _ _ (Nat.ne_of_lt (hn p hp)) (Nat.lt_trans (hn p hp) hC) (N p hp).1,(N p hp).2⟩⟩
theorem newsGet {g h : Heap} {L a : Addr} {o : Obj} {news : List (Addr × Obj)} (N : News g L h news) (hm : (a,o) ∈ news) : h.get? a = some o := (N _ hm).1
theorem after2_use {P : Prop} {g h h1 : Heap} {L C M : Nat} {x1 x2 x3 x4 : Addr × Obj} {news : List (Addr × Obj)} {m : Str → Option Value} (F : Fr g L h m) (N : News g L h (x1 :: x2 :: x3 :: x4 :: news)) (hk : ∀ (b : Nat) o,b ≠ C → b < M → h.get? b = some o → h1.get? b = some o) (hL : L ≠ C ∧ L < M) (hg : ∀ (b : Nat) o,g.get? b = some o → b ≠ C ∧ b < M)
    (hn : ∀ a ∈ news.map (·.1),@LT.lt Nat _ a C) (hC : C < M) (k : Fr g L h1 m → News g L h1 news → P) : P := by
  refine ob_A (news_after2 (news := news) F hk hL hg (fun p hp => N p (List.mem_cons_of_mem _ (List.mem_cons_of_mem _ (List.mem_cons_of_mem _ (List.mem_cons_of_mem _ hp))))) (fun p hp => hn p.1 (List.mem_map_of_mem hp)) hC) fun F1 N1 => ?_
  exact k F1 N1
theorem keepAll {g h h0 : Heap} {L : Addr} {m : Str → Option Value} {news news' : List (Addr × Obj)} (F : Fr g L h m) (N : News g L h news') (PN : ∀ q ∈ news,h0.get? q.1 = some q.2) (hg2 : ∀ a o,h0.get? a = some o → a ∉ news.map (·.1) → g.get? a = some o) (hsub : ∀ q ∈ news,q ∈ news') : ∀ b o,h0.get? b = some o → h.get? b = some o := fun b o e => by
  by_cases hm : b ∈ news.map (·.1)
  · (refine ob_EA (List.mem_map.mp hm) fun q hq z1q => ?_; obtain rfl := z1q)
    rw [PN q hq] at e
    cases e
    exact (N q (hsub q hq)).1
  · exact F.keep b o (hg2 b o e hm)
theorem newNone {g h0 h : Heap} {L T : Addr} {o : Obj} {news news' : List (Addr × Obj)} (N : News g L h news') (hm : (T,o) ∈ news') (hg2 : ∀ a o,h0.get? a = some o → a ∉ news.map (·.1) → g.get? a = some o) (hne : ∀ q ∈ news,q.1 ≠ T) : h0.get? T = none := by
  cases e : h0.get? T with
  | none => rfl
  | some o' =>
    have := hg2 T o' e fun q => by
      refine ob_EA (List.mem_map.mp q) fun p hp h => ?_
      exact hne p hp h
    have z := (N _ hm).2.2
    rw [this] at z; cases z
theorem for2 {target : Expr} {it : Value} {body : List Stmt} {R : Result → Shared → Prop}
    (h : wpAny (model prog w) A (pyNext it) (fun r s₁ => ∃ v,r = some v ∧ wpAny (model prog w) A (letOwnedTupleGo target it v) (fun _ s₁' => wpAny (model prog w) A (assign target env v) (fun _ s₂ => wpAny (model prog w) A (execs body env) (fun f s₃ => f = .next ∧
      wpAny (model prog w) A (pyNext it) (fun r s₄ => r = none ∧ R (.ok .next) s₄) NoE s₃) NoE s₂) NoE s₁') NoE s₁) NoE s) : codeAny (model prog w) A (.forLoop target it body [] env) R s := by
  refine codeAny_forLoop_any (fun n s' => (n = 1 ∧ s' = s) ∨ (n = 0 ∧ wpAny (model prog w) A (pyNext it) (fun r s₄ => r = none ∧ R (.ok .next) s₄) NoE s')) ?_ 1 (.inl ⟨rfl,rfl⟩)
  rintro n s' (⟨rfl,rfl⟩ | ⟨rfl,h'⟩)
  · refine wpAny_mono h (fun r s₁ h₁ => ?_) fun _ _ e => e.elim
    obtain ⟨v,rfl,h₁⟩ := h₁
    refine wpAny_mono h₁ (fun _ s₁' h₁' => wpAny_mono h₁' (fun _ s₂ h₂ => wpAny_mono h₂ (fun f s₃ h₃ => ?_) fun _ _ e => e.elim) fun _ _ e => e.elim) fun _ _ e => e.elim
    obtain ⟨rfl,h₃⟩ := h₃
    exact ⟨0,Nat.zero_lt_one,.inr ⟨rfl,h₃⟩⟩
  · refine wpAny_mono h' (fun r s₁ h₁ => ?_) fun _ _ e => e.elim
    obtain ⟨rfl,h₁⟩ := h₁
    exact wpAny_pure h₁
theorem letOwned_gen {E : Value → Shared → Prop} {ga : Addr} {g : Nat} {a b : Str} {t1 t2 : Tok} {tx : Addr} {elts : List Expr} {k : Nat} {pos : Pos} {Q : Unit → Shared → Prop} (ho : s.heap.get? ga = some (genO g a b t1 t2)) (h : Q () s) : wpAny (model prog w) A (letOwnedTupleGo (.Tuple elts k pos) (.ref ga) (.ref tx)) Q E s := by
  show wpAny _ A (load ga >>= fun o => match o.cls,o.data with
    | .type n,.fields vs =>
      if ["enumerate", "zip", "dict_itemiterator", "dict_reverseitemiterator", "odict_iterator", "itertools.zip_longest", "itertools.pairwise"].contains n && vs[0]? == some (rawInt tx) then do
        rule "for.unpacks-the-owned-tuple"
        updateField ga 0 .none
      else pure ()
    | _,_ => pure ()) Q E s
  refine wpAny_bind (wpAny_load ho ?_)
  show wpAny _ A (if (["enumerate", "zip", "dict_itemiterator", "dict_reverseitemiterator", "odict_iterator", "itertools.zip_longest", "itertools.pairwise"].contains "generator" && _) = true then _ else _) Q E s
  rw [show ["enumerate", "zip", "dict_itemiterator", "dict_reverseitemiterator", "odict_iterator", "itertools.zip_longest", "itertools.pairwise"].contains "generator" = false by decide +kernel]
  exact wpAny_pure h
end
noncomputable def ent (P : Params) (x : Str) (t : Tok) (v : Value) : DictEntry := ⟨PyData.keyHash P x,.str x t,v⟩
noncomputable def wEnts (P : Params) (tk : Nat → Tok) (bw : Addr) (ld ls ln dp lp : Addr) (seen done : Bool) (ti : Tok) : List DictEntry :=
  [ent P "_write" (tk 0) (.ref bw),ent P "_data" (tk 1) (.ref ld),ent P "_with_comments" (tk 2) (.bool false),ent P "_strip_text" (tk 3) (.bool false),ent P "_exclude_attrs" (tk 4) .none,ent P "_exclude_tags" (tk 5) .none,
   ent P "_rewrite_prefixes" (tk 6) (.bool false),ent P "_qname_aware_tags" (tk 7) .none,ent P "_find_qname_aware_attrs" (tk 8) .none,ent P "_declared_ns_stack" (tk 9) (.ref ls),ent P "_ns_stack" (tk 10) (.ref ln),
   ent P "_prefix_map" (tk 11) (.ref dp),ent P "_preserve_space" (tk 12) (.ref lp),ent P "_pending_start" (tk 13) .none,ent P "_root_seen" (tk 14) (.bool seen),ent P "_root_done" (tk 15) (.bool done),ent P "_ignored_depth" (tk 16) (.int 0 ti)]
noncomputable def tupOf (vs : Array Value) : Obj := { cls := .type "tuple",data := .seq vs }
theorem dict0 {prog : Program} {w : World} {h : Heap} {a : Addr} (e : h.get? a = some (dictOf [] 0)) : h.DictOf (strKind prog w) a [] := ⟨_, #[],0,e,⟨rfl,rfl,rfl⟩,rfl,fun _ he => by simp at he,Pairs.nil,List.nodup_nil⟩
theorem no_sys {a : Nat} (h : 1 < a) : (a == sysModules) = false := beq_eq_false_iff_ne.mpr (fun e => by rw [e] at h; exact absurd h (by decide))
theorem truthy_d0 {prog : Program} {w : World} {A : Around} {E : Value → Shared → Prop} {s : Shared} {h₀ : Heap} {L : Addr} {news : List (Addr × Obj)} {a : Nat} {Q : Bool → Shared → Prop} (N : News h₀ L s.heap news) (ha : (a,dictOf [] 0) ∈ news) (hl : 1 < a)
    (h : Q false { s with toks := s.toks + 1 + 1 }) : wpAny (model prog w) A (truthy (.ref a)) Q E s := wpAny_truthy_dict (no_sys hl) (dict0 (N _ ha).1) (by decide) h
theorem get_m {prog : Program} {w : World} {A : Around} {E : Value → Shared → Prop} {s : Shared} {h₀ : Heap} {L : Addr} {news : List (Addr × Obj)} {a : Nat} {pl : Sem Bool} {Q : Value × List Value → Shared → Prop} (N : News h₀ L s.heap news) (ha : (a,dictOf [] 0) ∈ news)
    (h : Q (.builtin "dict.get", [.ref a]) s) : wpAny (model prog w) A (getMethod (.ref a) "get" pl) Q E s := getMethod_builtin (dict0 (prog := prog) (w := w) (N _ ha).1).typeIs PySem.F.plainAttrs_dict PySem.F.slot_dict_get PySem.F.type_dict_get (dict0 (prog := prog) (w := w) (N _ ha).1).mapOf.noDict h
theorem get_c {prog : Program} {w : World} {A : Around} {E : Value → Shared → Prop} {s : Shared} {h₀ : Heap} {L : Addr} {news : List (Addr × Obj)} {a : Nat} {x : Str} {t : Tok} {Q : Value → Shared → Prop} (N : News h₀ L s.heap news) (ha : (a,dictOf [] 0) ∈ news) (hl : 1 < a)
    (h : Q .none { s with toks := s.toks + 1 }) : wpAny (model prog w) A (call (.builtin "dict.get") [.ref a,.str x t]) Q E s :=
  call_meetsIn PySem.F.slot_dict_get (dict0 (prog := prog) (w := w) (N _ ha).1).typeIs PySem.F.entry_dict_get (PySem.F.args_dict_get_2 _ _) (meets_dict_get (strKind prog w) a (strKind_is _ _ _ _) (no_sys hl)) ⟨_,(dict0 (N _ ha).1).mapOf,h⟩
theorem last_item {prog : Program} {w : World} {A : Around} {E : Value → Shared → Prop} {s : Shared} {h₀ : Heap} {L : Addr} {news : List (Addr × Obj)} {value slice : Expr} {l : Nat} {np : Array Value} {n : Nat} {u : Tok} {v : Value} {Q : Value → Shared → Prop} (N : News h₀ L s.heap news) (hl : (l,W.listOf np n) ∈ news)
    (hv : np[np.size - 1]? = some v) (h : Q v s) (hs : subscripted slice false (.ref l) (.int (-1) u) = operate [.ref l,.int (-1) u] (getItem (.ref l) (.int (-1) u)) := by with_unfolding_all rfl) :
    wpAny (model prog w) A (subscriptTail value slice (.ref l) (.int (-1) u)) Q E s := by
  have hlt := (Array.getElem?_eq_some_iff.mp hv).1
  have hL : s.heap.IsList l np := ⟨_,(N _ hl).1,rfl,_,rfl⟩
  refine tail_any hL.typeIs slot_list_getitem.lookup (wpAny_getItem_list_neg hL (by decide) (by lia) (by decide) ?_ h) hs
  rw [← hv]
  congr 1
  rw [Int.add_comm, ← Int.sub_eq_add_neg]; exact Int.toNat_sub np.size 1
noncomputable def boundO (l : Addr) : Obj := { cls := .type "builtin_function_or_method",data := .fields #[.builtin "list.append",.ref l] }
theorem if_so' {α : Type} {M : Model} {A : Around} {c : Prop} [Decidable c] {a b : Sem α} {Q : α → Shared → Prop} {E : Value → Shared → Prop} {s : Shared} (hc : c) (h : wpAny M A a Q E s) : wpAny M A (if c then a else b) Q E s := by rw [if_pos hc]; exact h
noncomputable def BwAt (u l : Addr) (h : Heap) : Prop := h.get? u = some (boundO l)
theorem callWith_fieldsB {M : Model} {A : Around} {E : Value → Shared → Prop} {s : Shared} {pos : Pos} {u l : Addr} {first : List Value} {args : List (Bool × Sem Value)} {Q : Value → Shared → Prop} (hplain : args.any (·.1) = false)
    (h : wpAny M A (evalArgs (.ref u) true args []) (fun x s₁ => BwAt u l s₁.heap ∧ wpAny M A (call (.ref u) (first ++ x.pos) x.kw) Q E s₁) E s) : wpAny M A (callWith pos (.ref u) first args []) Q E s := by
  unfold callWith
  refine wpAny_bind (wpAny_holding (wpAny_mono h (fun x s₁ h₁ => wpAny_bind (wpAny_standAt ?_)) fun _ _ x => x))
  (refine ob_A h₁ fun ho hcall => ?_; try clear h₁)
  simp only [hplain,List.any_nil,Bool.or_false]
  refine wpAny_bind (m := keeperOf (.ref u)) ?_
  unfold keeperOf
  refine wpAny_bind (wpAny_load ho ?_)
  simp only [boundO,show (Value.type "builtin_function_or_method" != Value.type "method") = true by decide,show (Value.type "builtin_function_or_method" == Value.type "builtin_function_or_method" || Value.type "builtin_function_or_method" == Value.type "method-wrapper") = true by decide,if_true]
  refine wpAny_pure ?_
  exact wpAny_bind (wpAny_mono hcall (fun r s₂ hr => wpAny_bind (wpAny_holding (wpAny_point (wpAny_pure hr)))) fun _ _ x => x)
theorem callWith_bw {M : Model} {A : Around} {E : Value → Shared → Prop} {s : Shared} {h₀ : Heap} {L : Addr} {news : List (Addr × Obj)} {pos : Pos} {u l : Addr} {first : List Value} {env : Env} {e : Expr} {rest : List Expr} {Q : Value → Shared → Prop} (_N : News h₀ L s.heap news) (_hm : (u,boundO l) ∈ news)
    (h : wpAny M A (spliced (backTo pos (starEach (e :: rest) env))) (fun vs s₁ => BwAt u l s₁.heap ∧ wpAny M A (call (.ref u) (first ++ vs)) Q E s₁) E s)
    (he : starEach (e :: rest) env = (false,eval e env) :: starEach rest env := by rfl) (hplain : (backTo pos (starEach rest env)).any (·.1) = false := by rfl) :
    wpAny M A (callWith pos (.ref u) first (backTo pos (starEach (e :: rest) env)) []) Q E s := by
  rw [he] at h ⊢
  refine callWith_fieldsB (l := l) (by show (false || (backTo pos (starEach rest env)).any (·.1)) = false; rw [hplain]; rfl) ?_
  exact evalArgs_plain h
theorem bwP {h₀ : Heap} {L : Addr} {h : Heap} {news : List (Addr × Obj)} {u l : Addr} (N : News h₀ L h news) (hm : (u,boundO l) ∈ news) : BwAt u l h := (N _ hm).1
theorem quiet_la {as : Args} : (Code.builtin "list.append" as).quiet = true := Code.quiet_builtin _ (by decide +kernel)
theorem if_no' {α : Type} {M : Model} {A : Around} {c : Prop} [Decidable c] {a b : Sem α} {Q : α → Shared → Prop} {E : Value → Shared → Prop} {s : Shared} (hc : ¬ c) (h : wpAny M A b Q E s) : wpAny M A (if c then a else b) Q E s := by rw [if_neg hc]; exact h
theorem sig_la : ∃ sig,Manifest.signature? "list.append" = some sig := ⟨_,show Manifest.signature? "list.append" = some ((Manifest.signature? "list.append").get (by decide +kernel)) from (Option.some_get _).symm⟩
theorem args_la {l : Addr} {v : Value} : (match Manifest.signature? "list.append" with | some sig => Bind.checkArgs "list.append" { sig with full := s!"{Bind.lastOf "list"}.{Bind.lastOf "list.append"}" } ⟨[.ref l,v], []⟩ | none => pure ()) = pure () := by kernel_rfl
theorem sub_lm : isSubtype (.type "list") (.type "module") = pure false := by rw [isSubtype_type]; kernel_rfl
theorem chk_la {M : Model} {A : Around} {E : Value → Shared → Prop} {s : Shared} {l : Addr} {v : Value} {its : Array Value} {n : Nat} {Q : Unit → Shared → Prop} (ho : s.heap.get? l = some (W.listOf its n)) (h : Q () s) : wpAny M A (checkBoundCall "list.append" ⟨[.ref l,v], []⟩) Q E s := by
  (refine ob_E sig_la fun sig hs => ?_; try clear sig_la)
  have hk : builtinKind "list.append" = some .method := by decide +kernel
  have ha := args_la (l := l) (v := v)
  have hv : Manifest.varargsMethods.contains "list.append" = false := by decide +kernel
  have hT : s.TypeIs (.ref l) "list" := ⟨_,ho,rfl⟩
  rw [hs] at ha
  unfold checkBoundCall
  simp only [hs,hk,hv,Bool.false_or]
  refine if_no' (by decide) ?_
  refine wpAny_bind (wpAny_isInstance hT sub_lm ?_)
  refine if_no' (by decide) ?_
  simp only [isType]
  refine wpAny_bind (wpAny_bind (wpAny_loadPart ho ?_))
  refine wpAny_pure ?_
  refine if_no' Bool.false_ne_true ?_
  refine wpAny_bind (wpAny_typeOf hT ?_)
  exact wpAny_of_eq ha h
theorem call_bw {prog : Program} {w : World} {A : Around} {E : Value → Shared → Prop} {s : Shared} {h₀ : Heap} {L : Addr} {m : Str → Option Value} {news news' : List (Addr × Obj)} {u l : Addr} {its : Array Value} {n : Nat} {x : Value} {Q : Value → Shared → Prop}
    (F : Fr h₀ L s.heap m) (N : News h₀ L s.heap news) (hm : (u,boundO l) ∈ news) (U : Upd l (W.listOf its n) (W.listOf (its.push x) (n + 1)) news news')
    (h : ∀ h',Fr h₀ L h' m → News h₀ L h' news' → Q .none { s with heap := h' }) (hsz : its.size ≤ sizeLine) : wpAny (model prog w) A (call (.ref u) [x]) Q E s := by
  refine wpAny_call (codeAny_of_tree ?_)
  show wpAny _ A.in1 (callAny (.ref u) ⟨[x], []⟩) _ _ s
  simp only [callAny]
  refine wpAny_bind (wpAny_load (N _ hm).1 ?_)
  simp only [boundO,show (Value.type "builtin_function_or_method" == Value.type "method" || Value.type "builtin_function_or_method" == Value.type "builtin_function_or_method" || Value.type "builtin_function_or_method" == Value.type "method-wrapper") = true by decide,if_true]
  refine if_so' (by decide) ?_
  refine wpAny_bind (chk_la (N (l,W.listOf its n) (by (refine ob_EEAAA U.split fun pre post z1q z2q a b => ?_; obtain rfl := z1q; obtain rfl := z2q); exact List.mem_append.mpr (.inr (.head _)))).1 ?_)
  refine wpAny_bind (wpAny_pure (wpAny_pure ?_))
  (refine ob_EEAAA U.split fun pre post z3q z4q a b => ?_; obtain rfl := z3q; obtain rfl := z4q)
  have z := N (l,W.listOf its n) (List.mem_append.mpr (.inr (.head _)))
  refine ⟨quiet_la,codeAny_builtin entry_list_append ?_⟩
  show wpAny _ _ (updateSeq l (·.push x) >>= fun _ => ret .none) _ _ s
  refine wpAny_bind (wpAny_updateSeq z.1 rfl (wpAny_pure ?_))
  have hs : Heap.SameBut l s.heap (s.heap.update l (Obj.mapSeq (·.push x))) := Heap.SameBut.update ..
  have ho' : (s.heap.update l (Obj.mapSeq (·.push x))).get? l = some (W.listOf (its.push x) (n + 1)) := by rw [Heap.get?_update_self _ z.1 (by rw [mapSeq_push]; rfl),mapSeq_push]
  exact h _ (F.change hs z.2.1 z.2.2) (news_set N a b hs ho')
theorem item_D {prog : Program} {w : World} {A : Around} {E : Value → Shared → Prop} {s : Shared} {h₀ : Heap} {L : Addr} {news : List (Addr × Obj)} {value slice : Expr} {D : Nat} {oD : Obj} {tag : Str} {tt : Tok} {v : Value} {Q : Value → Shared → Prop} (N : News h₀ L s.heap news) (hm : (D,oD) ∈ news)
    (hD : oD.IsDictOf (strKind prog w) [(tag,v)]) (h : Q v { s with toks := s.toks + 1 }) (hs : subscripted slice false (.ref D) (.str tag tt) = operate [.ref D,.str tag tt] (getItem (.ref D) (.str tag tt)) := by with_unfolding_all rfl) :
    wpAny (model prog w) A (subscriptTail value slice (.ref D) (.str tag tt)) Q E s := by
  have hd : s.heap.DictOf (strKind prog w) D [(tag,v)] := Heap.dictOf_iff.mpr ⟨oD,(N _ hm).1,hD⟩
  exact tail_any hd.typeIs slot_dict_getitem.lookup (wpAny_getItem_of (strKind_is _ _ _ _) hd.mapOf (by simp [valueAt]) h) hs
theorem item_T {prog : Program} {w : World} {A : Around} {E : Value → Shared → Prop} {s : Shared} {h₀ : Heap} {L : Addr} {news : List (Addr × Obj)} {value slice : Expr} {T : Addr} {v : Value} {vs : List Value} {u : Tok} {Q : Value → Shared → Prop} (N : News h₀ L s.heap news) (hm : (T,tupOf (v :: vs).toArray) ∈ news)
    (h : Q v s) (hs : subscripted slice false (.ref T) (.int 0 u) = operate [.ref T,.int 0 u] (getItem (.ref T) (.int 0 u)) := by with_unfolding_all rfl) :
    wpAny (model prog w) A (subscriptTail value slice (.ref T) (.int 0 u)) Q E s :=
  item_tupleT (l := v :: vs) (j := 0) (News.isTup N hm) (by decide) (by decide) (by simp [seqIndex?]) rfl h hs
theorem fit0 : 0 ≤ sizeLine := Nat.zero_le _
theorem fit {n m : Nat} (h : n ≤ m) (k : m ≤ 16777216) : n ≤ sizeLine := by rw [sizeLine_eq]; exact Nat.le_trans h k
structure Pre (K : Frag) (hb : Heap) (A : Around) (s : Shared) (news : List (Addr × Obj)) (base : Heap) (outer : List Env) : Prop where
  X : K.In hb
  T : ∃ p loose mean mg mb,Top p loose mean mg mb hb
  up : ∀ b o,hb.get? b = some o → s.heap.get? b = some o
  N : ∀ q ∈ news,s.heap.get? q.1 = some q.2 ∧ hb.get? q.1 = none
  B : Below A base outer s.heap
  bs : base.StaysIn hb
  fr : ∀ env ∈ outer,∀ q ∈ news,env.frame ≠ some q.1
  hh : A.handled = none
  dp : A.depth + 20 < recursionLimit
  un : A.units + 300 < cLine
theorem rl1 {a n L c : Nat} (h : a + n < L) (e : Nat.ble c n = true) : a + c < L := Nat.lt_of_le_of_lt (Nat.add_le_add_left (Nat.le_of_ble_eq_true e) a) h
theorem rl2 {a n L b c : Nat} (h : a + n < L) (e : Nat.ble (b + c) n = true) : a + b + c < L := Nat.add_assoc a b c ▸ rl1 h e
theorem rl3 {a n L b c d : Nat} (h : a + n < L) (e : Nat.ble (b + (c + d)) n = true) : a + b + c + d < L := Nat.add_assoc (a + b) c d ▸ rl2 h e
section
variable {prog : Program} {w : World} {A : Around} {s : Shared}
theorem enterW {K : Frag} {hb base : Heap} {outer : List Env} {news : List (Addr × Obj)} {f : Addr} {oc : Value} {od : Option Addr} {osl : Array (Option Value)} {name qual : Str} {params : Arguments} {body : List Stmt} {scope : Scope} {dV kV doc pm cdv ct : Value} {an : Option Addr} {args : Args} {binds : List (Str × Value)} {R : Result → Shared → Prop}
    (P : Pre K hb A s news base outer) (ho : K.lookup f = some ⟨oc,od,.func (fnOf name qual params body scope dV kV doc pm an cdv ct),osl⟩) (hcd : codeIn K cdv qual = true)
    (hbind : BindsTo s (fnOf name qual params body scope dV kV doc pm an cdv ct) args binds) (hloc : ∀ y ∈ binds,scope.names.lookup y.1 = some .local)
    (h : ∀ g L' h₁ p loose mean mg mb,Fr g L' h₁ (fun y => binds.reverse.lookup y) → News g L' h₁ news → Below A base outer g → K.In g → Top p loose mean mg mb g → s.heap.get? L' = none → L' = s.heap.objs.size → g.StaysIn s.heap →
      (∀ a o,s.heap.get? a = some o → a ∉ news.map (·.1) → g.get? a = some o) →
      wpAny (model prog w) (A.deeper (envOf qual scope L' f cdv)) (execs body (envOf qual scope L' f cdv))
        (fun fl s' => R (.ok (.ret (match fl with | .ret v => v | _ => .none))) s')
        (fun e s' => wpAny (model prog w) (A.deeper (envOf qual scope L' f cdv)) (leaving (envOf qual scope L' f cdv) e) (fun _ s'' => R (.error e) s'') (fun e' s'' => R (.error e') s'') s')
        { s with heap := h₁,toks := s.toks + binds.length })
    (hco : scope.isCoroutine = false := by rfl) (hgen : scope.isGenerator = false := by rfl) (hk : scope.kind = .function := by rfl)
    (hcell : ∀ x ∈ scope.names,x.2 ≠ .cell := by decide) : codeAny (model prog w) A (.call (.ref f) args) R s := by
  refine ob_EEEEE P.T fun p loose mean mg mb T => ?_
  have X : K.In s.heap := fun a o e => P.up a o (P.X a o e)
  have nm : ∀ b o,hb.get? b = some o → b ∉ news.map (·.1) := fun b o e q => by
    (refine ob_EA (List.mem_map.mp q) fun p hp z1q => ?_; obtain rfl := z1q)
    rw [(P.N p hp).2] at e; cases e
  have st : hb.StaysIn (hideAll s.heap (news.map (·.1))) := fun b o e => hideAll_get _ (P.up b o e) (nm b o e)
  refine codeAny_call_def (fd := fnOf name qual params body scope dV kV doc pm an cdv ct) (body := body) (binds := binds) (by have := P.dp; exact Nat.lt_of_le_of_lt (Nat.le_add_right _ _) (by assumption)) (X _ _ ho) rfl (T.nolimit.keeps P.up) (codeRec_of X hcd) rfl hbind hcell hloc (fun h₁ hns hk₁ => ?_) hco hgen hk
  refine h (hideAll s.heap (news.map (·.1))) s.heap.objs.size h₁ p loose mean mg mb ⟨hns,fun b o e => hk₁ b o (of_hideAll _ e),Nat.le_of_eq (hideAll_size _ _)⟩
    (fun p hp => ⟨hk₁ _ _ (P.N p hp).1,Nat.ne_of_lt (Heap.lt_size (P.N p hp).1),hideAll_none _ (List.mem_map_of_mem hp)⟩) ⟨P.B.stack,fun b o e => st b o (P.bs b o e),funFrames_hideAll P.B.frames fun env he a ha hf => ?_⟩
    (fun a o e => st a o (P.X a o e)) (T.keeps fun b o e => st b o e) ?_ rfl (fun b o e => of_hideAll _ e) fun a o e hn => hideAll_get _ e hn
  · (refine ob_EA (List.mem_map.mp ha) fun q hq z2q => ?_; obtain rfl := z2q)
    exact P.fr env he q hq hf
  · cases e : s.heap.get? s.heap.objs.size with
    | none => rfl
    | some o => exact absurd (Heap.lt_size e) (Nat.lt_irrefl _)
end
section
local macro_rules | `(tactic| size_fits) => `(tactic| first | exact fit0 | exact fit (by assumption) (by decide) | exact fit (Nat.succ_le_succ (by assumption)) (by decide) | (rw [sizeLine_eq]; omega))
local macro_rules | `(tactic| k_room) => `(tactic| first | assumption | ((try simp only [depth_under_make,depth_under_kw,depth_in1,depth_deeper,depth_caller]); omega))
noncomputable def NsOk (h : Heap) (ns : Array Value) (l0 tx : Addr) : Prop := ns[0]? = some (.ref l0) ∧ h.IsList l0 #[.ref tx] ∧ (∀ i,0 < i → ∀ v,ns[i]? = some v → ∃ e,v = .ref e ∧ h.IsList e #[]) ∧ ∃ t1 t2,IsTup h tx #[.str "http://www.w3.org/XML/1998/namespace" t1,.str "xml" t2]
theorem NsOk.keep {h h' : Heap} {ns : Array Value} {l0 tx : Addr} (x : NsOk h ns l0 tx) (hk : ∀ b o,h.get? b = some o → h'.get? b = some o) : NsOk h' ns l0 tx :=
  let ⟨a,b,c,t1,t2,d⟩ := x; ⟨a,lstKept b hk,fun i hi v hv => let ⟨e,he,hl⟩ := c i hi v hv; ⟨e,he,lstKept hl hk⟩,t1,t2,IsTup.keeps d hk⟩
theorem ty_dl : Value.type "dict" ≠ .type "list" := by decide
theorem ty_dt : Value.type "dict" ≠ .type "tuple" := by decide
theorem ty_lt : Value.type "list" ≠ .type "tuple" := by decide
theorem outT {h : Heap} {news : List (Addr × Obj)} {a : Addr} {o : Obj} {c : Value} (N : ∀ q ∈ news,h.get? q.1 = some q.2) (ho : h.get? a = some o) (hc : o.cls = c) (hq : ∀ q ∈ news,q.2.cls ≠ c) : a ∉ news.map (·.1) := fun hm =>
  ob_EA (List.mem_map.mp hm) fun q hq' e => hq q hq' (by rw [← e,N q hq'] at ho; rw [Option.some.inj ho]; exact hc)
theorem hidL {h g : Heap} {news : List (Addr × Obj)} {a : Addr} {items : Array Value} (N : ∀ q ∈ news,h.get? q.1 = some q.2) (hg : ∀ a o,h.get? a = some o → a ∉ news.map (·.1) → g.get? a = some o) (hl : h.IsList a items) (hq : ∀ q ∈ news,q.2.cls ≠ .type "list" ∨ q.1 ≠ a) : g.IsList a items :=
  ob_EAA hl fun o ho hc hd => ⟨o,hg a o ho fun hm => ob_EA (List.mem_map.mp hm) fun q hq' e => (hq q hq').elim (fun z => z (by rw [← e,N q hq'] at ho; rw [Option.some.inj ho]; exact hc)) fun z => z e,hc,hd⟩
theorem w_qname {prog : Program} {w : World} {A : Around} {s : Shared} {hb base : Heap} {outer : List Env} {R : Result → Shared → Prop}
    {bw x dx ld ls ln dp lp : Nat} {tk : Nat → Tok} {seen done : Bool} {ti : Tok} {ns : Array Value} {n1 : Nat} {tag : Str} {tt : Tok} {l0 tx : Addr} {D : Nat} {oD : Obj}
    (P : Pre (K0 w.params) hb A s [(D,oD),(ls,listOf ns n1),(x,instObj 174 dx),(dx,dictOf (wEnts w.params tk bw ld ls ln dp lp seen done ti) 17)] base outer)
    (o1 : dx < x) (o2 : x < ls) (o3 : ls < D) (hDc : oD.cls = .type "dict") (z5 : tag.length ≤ 100) (hq : (PySem.Txt.slice tag none (some 1) == Str.ofString "{") = false) (hns : NsOk s.heap ns l0 tx) (hls : ∀ i : Nat,ns[i]? ≠ some (.ref ls))
    (hR : ∀ T h' tk t1 t2 t3,h'.get? T = some (tupOf [.str tag t1,.str tag t2,.str "" t3].toArray) → s.heap.get? T = none → @LT.lt Nat _ D T → (∀ b o,s.heap.get? b = some o → h'.get? b = some o) → R (.ok (.ret (.ref T))) { s with heap := h',toks := tk,gens := s.gens.push .finished })
    : codeAny (model prog w) A (.call (.ref 114) ⟨[.ref x,.str tag tt], []⟩) R s := by
  have hh := P.hh
  have hdp := P.dp
  have hun := P.un
  refine' enterW (binds := [(Str.ofString "self",.ref x),(Str.ofString "qname",.str tag tt),(Str.ofString "uri",.none)]) P ?k6 ?k7 ?k9 ?kB ?_ ?c3 ?c4 ?c5 ?c6
  case k6 => k_is
  case k7 => k_is
  case k9 => exact binds_K (fun b o e => P.up b o (P.X b o e)) rfl (by k_is) rfl rfl rfl
  case kB => exact locs rfl
  case c3 => exact rfl
  case c4 => exact rfl
  case c5 => exact rfl
  case c6 => decide
  have PB := P.B
  rcases A with ⟨Af,Ag,Ah,Ad,Au⟩
  dsimp only at hdp hun hh
  have hA := PB.stack
  dsimp only at hA
  subst hA hh
  have r1 : Ag + 1 < recursionLimit := Nat.lt_of_le_of_lt (Nat.add_le_add_left (by decide : 1 ≤ 20) Ag) hdp
  intro g' L' h' p' loose' mean' mg' mb' F' N' B' X' T' hL' hLs hg' hg2'
  try dsimp only
  try k_fold
  repeat' (first | (k_unfold; (try dsimp only)) | (k_end; wrow_close) | (k_here; kse_here; (dsimp only [List.cons_append,List.nil_append]); (with_reducible show wpAny _ _ (call (Value.builtin "set.add") [Value.ref _,Value.str _ _]) _ _ _); k_dflt (refine' kse_add (knd := PySem.strKind _ _) ?Fq0 ?Nq0 ?Uq0 ?dq0 ?zq0 (strKind_is _ _ _ _) rfl ?_; (case Fq0 => k_asm); (case Nq0 => k_asm); (case Uq0 => k_updF); (case dq0 => k_asm); (case zq0 => kse_small)); intro h' o' F' N' hs'; (try dsimp only at N')) | walk1 | (dsimp only; walk1) | (leave1; walk_say "STEP leave1"; try dsimp only) | fail "no step")
  refine wpAny_For ?_ (by intro _; rfl)
  repeat' (first | (k_unfold; (try dsimp only)) | (k_end; wrow_close) | (k_here; kse_here; (dsimp only [List.cons_append,List.nil_append]); (with_reducible show wpAny _ _ (call (Value.builtin "set.add") [Value.ref _,Value.str _ _]) _ _ _); k_dflt (refine' kse_add (knd := PySem.strKind _ _) ?Fq0 ?Nq0 ?Uq0 ?dq0 ?zq0 (strKind_is _ _ _ _) rfl ?_; (case Fq0 => k_asm); (case Nq0 => k_asm); (case Uq0 => k_updF); (case dq0 => k_asm); (case zq0 => kse_small)); intro h' o' F' N' hs'; (try dsimp only at N')) | walk1 | (dsimp only; walk1) | (leave1; walk_say "STEP leave1"; try dsimp only) | fail "no step")
  refine wpAny_call ?_
  refine' call_gen (binds := [(Str.ofString "self",.ref x),(Str.ofString "ns_stack",.ref ls),(Str.ofString "_reversed",.type "reversed")]) ?F ?X ?N ?lim ?ho ?hcd ?room ?bind ?loc ?cell ?co ?gen ?k ?_
  case F => k_asm
  case X => k_asm
  case N => k_asm
  case lim => exact T'.nolimit
  case ho => k_is
  case hcd => k_is
  case room => k_room
  case bind => exact binds_K (by k_in) rfl (by k_is) rfl rfl rfl
  case loc => exact locs rfl
  case cell => decide
  case co => rfl
  case gen => rfl
  case k => rfl
  intro C ga hG tkG t1 t2 oC FC NC FG NG l1 l2 hLC hC0 hnC upC
  have keepG : ∀ {a : Addr} {items : Array Value},s.heap.IsList a items → a ≠ ls → g'.IsList a items := fun {a items} hl hne =>
    hidL (fun q hq => (P.N q hq).1) hg2' hl (List.forall_mem_cons.mpr ⟨.inl (by rw [hDc]; exact ty_dl),List.forall_mem_cons.mpr ⟨.inr hne.symm,List.forall_mem_cons.mpr ⟨.inl (fun e => nomatch e),List.forall_mem_cons.mpr ⟨.inl ty_dl,List.forall_mem_nil _⟩⟩⟩⟩)
  have keepL : ∀ {a : Addr} {items : Array Value},s.heap.IsList a items → a ≠ ls → Heap.IsList _ a items := fun hl hne => lstKept (keepG hl hne) FC.keep
  have hl0 : l0 ≠ ls := fun q => hls 0 (by rw [hns.1,q])
  dsimp only
  refine wpAny_pyIter_gen (g := s.gens.size) ⟨_,_,_,(NG _ (.head _)).1,rfl,rfl,rfl⟩ ?_
  refine for2 ?_
  refine gen_next1 (G := s.gens) (N := hG.objs.size) (ls := ls) (ns := ns) (l0 := l0) (tx := tx) rfl (T'.nolimit.keeps FG.keep) (by k_room) ⟨_,_,_,(NG _ (.head _)).1,rfl,rfl,rfl⟩ rfl rfl rfl rfl rfl rfl rfl rfl rfl rfl hC0 ?hbl hns.1 ?hb0 ?hes upC hnC rfl rfl (Nat.le_refl _) ?_
  case hbl => exact ⟨_,(NC (ls,W.listOf ns n1) (by k_mem)).1,rfl,_,rfl⟩
  case hb0 => exact keepL hns.2.1 hl0
  case hes => exact fun i hi v hv => let ⟨e,he,hle⟩ := hns.2.2.1 i hi v hv; ⟨e,he,keepL hle (fun q => hls i (by rw [hv,he,q]))⟩
  intro h1 tk1 gs I J oC' oI oJ hk1 hIN hJN gC gI gJ hgo
  have hTx : ∃ t1 t2,IsTup h1 tx #[.str "http://www.w3.org/XML/1998/namespace" t1,.str "xml" t2] := by
    refine ob_EEEAAE hns.2.2.2 fun u1 u2 o ho hc n hd => ?_
    have atc := FC.keep tx o (hg2' tx o ho (outT (fun q hq => (P.N q hq).1) ho hc (List.forall_mem_cons.mpr ⟨by rw [hDc]; exact ty_dt,List.forall_mem_cons.mpr ⟨ty_lt,List.forall_mem_cons.mpr ⟨(fun e => nomatch e),List.forall_mem_cons.mpr ⟨ty_dt,List.forall_mem_nil _⟩⟩⟩⟩)))
    exact ⟨u1,u2,o,hk1 tx o (fun q => by rw [q] at atc; exact nomatch (atc.symm.trans hC0)) (Heap.lt_size (upC tx o atc)) (upC tx o atc),hc,n,hd⟩
  refine ob_AAAAAAA (news_after FG NG l1 l2 hk1 hIN hJN gC gI gJ) fun F1 N1 hgI hgJ hgM hLM hCM l1m => ?_
  refine ob_EE hTx fun u1 u2 hTx => ?_
  have g3 : ∀ {h : Heap},h.get? ga = some (genO s.gens.size "_iter_namespaces" "C14NWriterTarget._iter_namespaces" t1 t2) → h.IsGen ga s.gens.size := fun e => ⟨_,_,_,e,rfl,rfl,rfl⟩
  refine ⟨_,rfl,letOwned_gen (N1 _ (List.mem_cons_of_mem _ (List.mem_cons_of_mem _ List.mem_cons_self))).1 ?_⟩
  have l0g : g'.IsList l0 #[.ref tx] := keepG hns.2.1 hl0
  clear NC FC
  k_lt l1
  refine unpackN_ F1 N1 hTx rfl rfl rfl ?_
  intro h2 F2 N2
  clear F1 N1 FG NG
  repeat' (first | (k_unfold; (try dsimp only)) | (k_end; wrow_close) | (k_here; kse_here; (dsimp only [List.cons_append,List.nil_append]); (with_reducible show wpAny _ _ (call (Value.builtin "set.add") [Value.ref _,Value.str _ _]) _ _ _); k_dflt (refine' kse_add (knd := PySem.strKind _ _) ?Fq0 ?Nq0 ?Uq0 ?dq0 ?zq0 (strKind_is _ _ _ _) rfl ?_; (case Fq0 => k_asm); (case Nq0 => k_asm); (case Uq0 => k_updF); (case dq0 => k_asm); (case zq0 => kse_small)); intro h' o' F' N' hs'; (try dsimp only at N')) | walk1 | (dsimp only; walk1) | (leave1; walk_say "STEP leave1"; try dsimp only) | fail "no step")
  refine gen_next2 (G := s.gens) (gs := gs) (N := hG.objs.size) (C := C) (ls := ls) (ns := ns) (l0 := l0) (tx := tx) rfl (T'.nolimit.keeps (Fr.keep (by k_asm))) (by k_room) (g3 ?_) rfl ?hgo ?_
  · refine' newsGet ?N ?m
    case N => k_asm
    case m => k_mem
  · refine hgo _ ?_ ?_ ?_ ?_ ?_
    · refine' newsGet ?N ?m
      case N => k_asm
      case m => k_mem
    · refine' newsGet ?N ?m
      case N => k_asm
      case m => k_mem
    · refine' newsGet ?N ?m
      case N => k_asm
      case m => k_mem
    · exact lstKept l0g (Fr.keep (by k_asm))
    · refine ⟨W.listOf ns n1,?_,rfl,_,rfl⟩
      refine' newsGet ?N ?m
      case N => k_asm
      case m => k_mem
  · intro h3 tk3 hk3
    refine ⟨rfl,?_⟩
    refine' after2_use ?F ?N hk3 hLM hgM ?hn hCM ?_
    case F => k_asm
    case N => k_asm
    case hn => exact l1m
    intro F4 N4
    dsimp only
    repeat' (first | (k_unfold; (try dsimp only)) | (k_end; wrow_close) | (k_here; kse_here; (dsimp only [List.cons_append,List.nil_append]); (with_reducible show wpAny _ _ (call (Value.builtin "set.add") [Value.ref _,Value.str _ _]) _ _ _); k_dflt (refine' kse_add (knd := PySem.strKind _ _) ?Fq0 ?Nq0 ?Uq0 ?dq0 ?zq0 (strKind_is _ _ _ _) rfl ?_; (case Fq0 => k_asm); (case Nq0 => k_asm); (case Uq0 => k_updF); (case dq0 => k_asm); (case zq0 => kse_small)); intro h' o' F' N' hs'; (try dsimp only at N')) | walk1 | (dsimp only; walk1) | (leave1; walk_say "STEP leave1"; try dsimp only) | fail "no step")
    dsimp only
    show R _ _
    refine' hR _ _ _ ?u1 ?u2 ?u3 ?g1 ?g2 ?g4 ?g3
    case g1 =>
      refine' newsGet ?N ?m
      case N => k_asm
      case m => k_mem
    case g2 =>
      refine' newNone ?N ?m hg2' ?ne
      case N => k_asm
      case m => exact List.Mem.head _
      case ne => k_all
    case g4 =>
      omega
    case g3 =>
      refine' keepAll ?F ?N (fun q hq => (P.N q hq).1) hg2' ?sub
      case F => k_asm
      case N => k_asm
      case sub => k_sub
section
variable {prog : Program} {w : World} {A : Around} {E : Value → Shared → Prop} {s : Shared}
noncomputable def setO (hs : Int) (v : Value) (ep : Nat) (t : SetTable) : Obj := { cls := .type "set",data := .set #[(hs,v)] ep t }
noncomputable def One (b : Bool) (t : SetTable) : Prop := t.place.size = 1 ∧ t.fill = 1 ∧ t.mask = 7 ∧ t.led = b
theorem free_fresh (h : Int) (led : Bool) : ∃ j,(SetTable.fresh 0 0 led).freeSlot h = some (j,false) := ⟨_,rfl⟩
theorem lay_fresh (h : Int) (x : Value) (led : Bool) : ∃ t,layNew (.fresh 0 0 led) #[] h x = (#[(h,x)],t,false,false) ∧ One led t := by
  refine ob_E (free_fresh h led) fun j hj => ?_
  unfold layNew
  rw [hj]
  exact ⟨_,rfl,rfl,rfl,rfl,rfl⟩
theorem add_fresh {a : Addr} {ep : Nat} {led : Bool} {tag : Str} {tt : Tok} {h : Int} {Q : Bool → Shared → Prop} (ho : s.heap.get? a = some { cls := .type "set",data := .set #[] ep (.fresh 0 0 led) })
    (k : ∀ h' ep' t,Heap.SameBut a s.heap h' → h'.get? a = some (setO h (.str tag tt) ep' t) → One led t → Q true { s with heap := h' }) :
    wpAny (model prog w) A (setAddHashed a (.str tag tt) h) Q E s := by
  unfold setAddHashed setAddHashedIn
  refine wpAny_holding (wpAny_bind (wpAny_setState_of ho rfl rfl ?_))
  dsimp only
  rw [show byScan (.str tag tt) #[] = true by simp [byScan,Value.scannable,scanBound]]
  simp only [↓reduceIte]
  unfold setAddByScan
  refine wpAny_bind (wpAny_bind (wpAny_rule ?_))
  refine wpAny_bind (wpAny_of_eq (a := ScanMet.absent) (by simp [setScan,setScanStrs]) ?_)
  dsimp only
  refine ob_EAAAA (lay_fresh h (.str tag tt) led) fun t ht h1 h2 h3 h4 => ?_
  rw [ht]
  dsimp only
  refine wpAny_bind (wpAny_pure (a := ()) ?_)
  have fin : ∀ t' : SetTable,One led t' → wpAny (model prog w) A (do
      storeSet a #[(h,.str tag tt)] t'
      if (!false && t'.tooFull) = true then
          match relayAll t' #[(h,.str tag tt)] (SetTable.grown (#[(h,Value.str tag tt)] : Array (Int × Value)).size) with
          | (es,t,gave) => do
            (match gave with | true => rule "set.scan.the-table-gave-way" | false => pure ())
            storeSet a es t
            pure (some true)
        else pure (some true)) (fun a_2 s' =>
          wpAny (model prog w) A
            (match a_2 with
            | some added => pure added
            | none => setAddHashedIn a (Value.str tag tt) h 99999)
            Q E s') E s := fun t' o' => by
    refine wpAny_bind (wpAny_storeSet_of ho rfl ?_ (by show 1 ≤ sizeLine; rw [sizeLine_eq]; decide))
    rw [if_neg (by unfold SetTable.tooFull; rw [o'.2.1,o'.2.2.1]; decide)]
    refine wpAny_pure (wpAny_pure (k _ (ep + 1) t' (Heap.SameBut.update ..) ?_ o'))
    have := Heap.get?_update_self (Obj.putSet #[(h,.str tag tt)] t') ho (by rw [putSet_of _ t' rfl]; rfl)
    rw [putSet_of _ t' rfl] at this
    exact this
  split
  · refine wpAny_bind (wpAny_of_eq (a := false) (by first | rfl | exact hashByValue_scannable 8 rfl) ?_)
    exact fin _ ⟨h1,h2,h3,h4⟩
  · refine wpAny_bind (wpAny_pure ?_)
    exact fin _ ⟨h1,h2,h3,h4⟩
end
theorem sub_ds : isSubtype (.type "dict") (.type "set") = pure false := by rw [isSubtype_type]; kernel_rfl
theorem sub_df : isSubtype (.type "dict") (.type "frozenset") = pure false := by rw [isSubtype_type]; kernel_rfl
section
variable {prog : Program} {w : World} {A : Around} {E : Value → Shared → Prop} {s : Shared}
theorem dictAt0 {h : Heap} {a : Addr} (e : h.get? a = some (dictOf [] 0)) : h.DictAt (strKind prog w) a [] 0 := ⟨_, #[],e,⟨rfl,rfl,rfl⟩,rfl,fun _ he => by simp at he,Pairs.nil,List.nodup_nil⟩
theorem star_nil {D : Addr} {a : Nat} {hs : Int} {v : Value} {ep : Nat} {t : SetTable} {Q : Unit → Shared → Prop} (hh : A.handled = none) (ha : s.heap.get? a = some (dictOf [] 0)) (hl : 1 < a) (hD : s.heap.get? D = some (setO hs v ep t)) {b : Bool} (o : One b t)
    (k : ∀ h' tk,(∀ b o,s.heap.get? b = some o → h'.get? b = some o) → Q () { s with heap := h',toks := tk }) : wpAny (model prog w) A (setDisplayStar D (.ref a)) Q E s := by
  have hT : s.TypeIs (.ref a) "dict" := ⟨_,ha,rfl⟩
  have k0 := k s.heap s.toks fun _ _ e => e
  unfold setDisplayStar
  dsimp only
  refine wpAny_bind (wpAny_isInstance hT sub_ds ?_)
  rw [if_neg Bool.false_ne_true]
  refine wpAny_bind (wpAny_isInstance hT sub_df ?_)
  refine wpAny_bind (wpAny_askSetting ?_)
  have loop : wpAny (model prog w) A (do let _ ← runValue (.builtin "set.update.loop" ⟨[.ref D, ← pyIter (.ref a)], []⟩); pure ()) Q E s := by
    refine wpAny_bind (wpAny_pyIter_dict (no_sys hl) (dictAt0 (prog := prog) (w := w) ha) ?_)
    refine wpAny_bind (wpAny_runValue (codeAny_builtin F.entry_set_update_loop ?_))
    rw [Around.under_plainId F.plain_set_update_loop _]
    generalize hI : s.heap.objs.size = I
    have lt : a ≠ I := by rw [← hI]; exact Nat.ne_of_lt (Heap.lt_size ha)
    have W := Walks.dictKeys (prog := prog) (w := w) (A := A.in1) (knd := strKind prog w) hh I a lt [] 0
    show wpAny _ A.in1 (pyNext (.ref I) >>= _) _ _ _
    refine wpAny_bind (W.done _ _ _ ⟨⟨_,hI ▸ Heap.get?_push_size _ rfl,rfl,rfl⟩,(dictAt0 ha).push _⟩ fun h' tk hk => ?_)
    show wpAny _ A.in1 (ret Value.none) _ _ _
    refine wpAny_pure ?_
    refine wpAny_pure ?_
    refine k _ _ fun b o e => hk b o (fun hm => ?_) (Heap.get?_push_of_some _ e)
    rw [List.mem_singleton.mp hm, ← hI] at e
    exact absurd (Heap.lt_size e) (Nat.lt_irrefl _)
  split
  · rename_i heq
    split at heq
    · cases heq
    · cases heq
      rw [if_neg Bool.false_ne_true]
      refine wpAny_bind (wpAny_typeOf hT ?_)
      rw [if_pos (by decide)]
      refine wpAny_bind (wpAny_rule ?_)
      rw [if_neg (by rw [no_sys hl]; exact Bool.false_ne_true)]
      refine wpAny_bind (wpAny_dictEpoch ha rfl ?_)
      refine wpAny_bind (wpAny_dictEntries ha rfl ?_)
      refine wpAny_bind (m := setRoomFor D 0) ?_
      unfold setRoomFor
      refine wpAny_bind (wpAny_setState_of hD rfl (by unfold SetTable.fits; simp [o.1,o.2.1,o.2.2.1]) ?_)
      rw [show t.roomFor 0 = none by unfold SetTable.roomFor; rw [o.2.1,o.2.2.1]; rfl]
      refine wpAny_pure ?_
      refine wpAny_bind (wpAny_of_eq (a := PUnit.unit) (by first | rfl | simp) ?_)
      exact wpAny_pure k0
  · exact loop
theorem newSet_led {Q : Value → Shared → Prop} (h : Q (.ref s.heap.objs.size) { s with heap := s.heap.push { cls := .type "set",dict := none,data := .set #[] 0 (.fresh 0 0 (!(w.params.followText "set-order"))) } }) : wpAny (model prog w) A (newSet (.type "set")) Q E s := by
  unfold newSet setsByText
  refine wpAny_bind (wpAny_bind (wpAny_askSetting (wpAny_pure ?_)))
  dsimp only
  exact wpAny_newObj_type h
theorem set_star1 {h₀ : Heap} {L : Addr} {m : Str → Option Value} {news : List (Addr × Obj)} {K : Frag} {env : Env} {x y : Str} {p1 p2 p3 pos : Pos} {Q : Value → Shared → Prop} {tag : Str} {tt : Tok} {a : Nat} (hh : A.handled = none) (F : Fr h₀ L s.heap m) (N : News h₀ L s.heap news) (X : K.In h₀) (hc : kdsCode K env.code = true) (hL : env.locals = L) (hk : env.scope.kind = .function)
    (kx : env.kindOf x = some .local) (ky : env.kindOf y = some .local) (dx : (x == ("__debug__" : Str)) = false) (dy : (y == ("__debug__" : Str)) = false) (hx : m x = some (.str tag tt)) (hy : m y = some (.ref a)) (ha : (a,dictOf [] 0) ∈ news) (hl : 1 < a)
    (k : ∀ D h' tk hs ep t,Fr h₀ L h' m → News h₀ L h' ((D,setO hs (.str tag tt) ep t) :: news) → (∀ p ∈ news,@LT.lt Nat _ p.1 D) → One (!(w.params.followText "set-order")) t → Q (.ref D) { s with heap := h',toks := tk }) :
    wpAny (model prog w) A (eval (.Set [.Name x p1,.Starred (.Name y p2) p3] 0 pos) env) Q E s := by
  subst hL
  rw [arm_eval_Set]
  refine wpAny_bind (wpAny_standAt ?_)
  refine wpAny_bind (kds_main (X.keeps F.keep) hc fun b => ?_)
  show wpAny _ A (setDisplay .oneByOne b [(false,do let v ← eval (.Name x p1) env; standAt pos; pure v),(true,do let v ← eval (.Name y p2) env; standAt pos; pure v)]) Q E s
  unfold setDisplay
  dsimp only
  rw [if_neg (by decide)]
  refine wpAny_bind (newSet_led ?_)
  generalize hled : (!(w.params.followText "set-order")) = led at k
  dsimp only
  generalize hD : s.heap.objs.size = D
  have F1 := F.push { cls := .type "set",dict := none,data := .set #[] 0 (.fresh 0 0 led) }
  have N1 := News.push F N { cls := .type "set",dict := none,data := .set #[] 0 (.fresh 0 0 led) } rfl
  rw [hD] at N1
  have l1 : ∀ p ∈ news,@LT.lt Nat _ p.1 D := fun p hp => hD ▸ Heap.lt_size (N p hp).1
  generalize s.heap.push { cls := .type "set",dict := none,data := .set #[] 0 (.fresh 0 0 led) } = h1 at F1 N1
  have e1 : (if [(false,do let v ← eval (.Name x p1) env; standAt pos; pure v),(true,do let v ← eval (.Name y p2) env; standAt pos; pure v)].length > 30 then 0 else (([(false,do let v ← eval (.Name x p1) env; standAt pos; pure v),(true,do let v ← eval (.Name y p2) env; standAt pos; pure v)] : List (Bool × Sem Value)).findIdx? (·.1)).getD 2) = 1 := by rfl
  refine wpAny_bind (wpAny_holding ?_)
  refine wpAny_bind ?_
  show wpAny _ A (evalAll [do let v ← eval (.Name x p1) env; standAt pos; pure v]) _ _ _
  refine wpAny_bind (wpAny_bind (wpAny_Name (wpAny_loadName_local hk kx F1.ns hx (wpAny_bind (wpAny_standAt (wpAny_pure ?_)))) dx))
  refine wpAny_bind (wpAny_holding (wpAny_pure (wpAny_pure ?_)))
  refine wpAny_bind (wpAny_holding ?_)
  rw [List.forIn_cons]
  refine wpAny_bind (wpAny_bind (wpAny_bind ?_))
  unfold setAdd
  refine wpAny_holding (wpAny_bind ((strKind prog w).pyHash (k := tag) (strKind_is _ _ _ _) ?_))
  refine add_fresh (tag := tag) (tt := tt) (N1 _ List.mem_cons_self).1 fun h2 ep t hs2 hD2 o => ?_
  refine wpAny_pure ?_
  dsimp only
  rw [List.forIn_nil]
  refine wpAny_pure ?_
  rw [if_neg (by decide)]
  refine wpAny_pure ?_
  have zD := N1 _ List.mem_cons_self
  have F2 : Fr h₀ env.locals h2 m := F1.change hs2 zD.2.1 zD.2.2
  have N2 : News h₀ env.locals h2 ((D,setO _ (.str tag tt) ep t) :: news) := news_set (pre := []) N1 (fun _ hp => nomatch hp) (fun p hp => Nat.ne_of_lt (l1 p hp)) hs2 hD2
  refine wpAny_bind (m := forIn [(true,do let v ← eval (.Name y p2) env; standAt pos; pure v)] PUnit.unit _) ?_
  rw [List.forIn_cons]
  refine wpAny_bind (wpAny_bind (wpAny_bind (wpAny_Name (wpAny_loadName_local hk ky F2.ns hy (wpAny_bind (wpAny_standAt (wpAny_pure ?_)))) dy)))
  rw [if_pos rfl]
  refine wpAny_bind (wpAny_holding (star_nil hh (N2 _ (List.mem_cons_of_mem _ ha)).1 hl (N2 _ List.mem_cons_self).1 o fun h3 tk3 u3 => ?_))
  refine wpAny_pure ?_
  dsimp only
  rw [List.forIn_nil]
  refine wpAny_pure (wpAny_pure (wpAny_pure ?_))
  exact k D h3 tk3 _ ep t ⟨F2.ns.keeps u3,fun b o e => u3 b o (F2.keep b o e),F2.above⟩ (fun p hp => ⟨u3 _ _ (N2 p hp).1,(N2 p hp).2⟩) l1 o
end
theorem entry_set_iter : entryFor table "set.__iter__" = some Builtin.«frozenset.__iter__» := entryFor_alias (id' := "frozenset.__iter__") (by kernel_rfl) rfl (by decide +kernel) (by kernel_rfl)
theorem entry_si_next : entryFor table "set_iterator.__next__" = some Builtin.«set_iterator.__next__» := entryFor_of_tree (by kernel_rfl)
theorem slot_si_next : Slot "set_iterator" "__next__" "set_iterator.__next__" :=
  .of (owner := "set_iterator") (n := "__next__") (by rw [typeLookup_type,builtinLookup_eq_fast]; kernel_rfl) (by decide +kernel) (by decide +kernel) (by decide +kernel)
    (by first | exact .inl (by decide +kernel) | exact .inr (by decide +kernel)) (by rw [isSubtype_type]; kernel_rfl)
theorem args_si_next (a : Value) : argsOk "set_iterator.__next__" ⟨[a], []⟩ := by unfold argsOk; kernel_rfl
theorem sub_ss : isSubtype (.type "set") (.type "set") = pure true := by rw [isSubtype_type]; kernel_rfl
theorem entry_lel : entryFor table "list.extend.loop" = some Builtin.«list.extend.loop» := entryFor_of_tree (by kernel_rfl)
noncomputable def siO (slot i : Nat) (D : Addr) (n ep : Nat) : Obj := { cls := .type "set_iterator",data := .fields #[.int slot 0,.int i 0,.ref D,.int n 0,.int ep 0] }
section
variable {prog : Program} {w : World} {A : Around} {E : Value → Shared → Prop} {s : Shared}
theorem One.fits {b : Bool} {t : SetTable} (o : One b t) : t.fits 1 = true := by unfold SetTable.fits; simp [o.1,o.2.1,o.2.2.1]
theorem setEntries_one {D : Addr} {hs : Int} {v : Value} {ep : Nat} {t : SetTable} {b : Bool} {Q : Array (Int × Value) → Shared → Prop} (hD : s.heap.get? D = some (setO hs v ep t)) (o : One b t) (h : Q #[(hs,v)] s) : wpAny (model prog w) A (setEntries D) Q E s := by
  unfold setEntries
  exact wpAny_bind (wpAny_setState_of hD rfl o.fits (wpAny_pure h))
theorem pyIter_one {D : Addr} {hs : Int} {v : Value} {ep : Nat} {t : SetTable} {b : Bool} {Q : Value → Shared → Prop} (hD : s.heap.get? D = some (setO hs v ep t)) (o : One b t)
    (h : Q (.ref s.heap.objs.size) { s with heap := s.heap.push (siO 0 0 D 1 ep) }) : wpAny (model prog w) A (pyIter (.ref D)) Q E s := by
  have hT : s.TypeIs (.ref D) "set" := ⟨_,hD,rfl⟩
  refine wpAny_pyIter_slot hT F.slot_set_iter (wpAny_call_entry F.slot_set_iter hT entry_set_iter ?_ (F.args_set_iter_1 _))
  unfold Builtin.«frozenset.__iter__»
  refine wpAny_bind (m := Builtin.Frozenset.slot0 "__iter__" _) (wpAny_pure (a := D) ?_)
  unfold Builtin.Frozenset.sizeOf
  refine wpAny_bind (wpAny_bind (setEntries_one hD o (wpAny_pure ?_)))
  unfold setDrawn setsByText
  refine wpAny_bind (wpAny_bind (wpAny_setState_of hD rfl o.fits ?_))
  refine wpAny_bind (wpAny_bind (wpAny_askSetting (wpAny_pure ?_)))
  refine wpAny_pure ?_
  dsimp only
  refine if_no' ?c (wpAny_bind (wpAny_pure ?_))
  case c =>
    rcases t with ⟨a1,a2,a3,a4,a5,a6,a7⟩
    intro q
    have q2 := ((Bool.and_eq_true _ _).mp q).2
    cases a7 <;> exact absurd q2 Bool.false_ne_true
  refine wpAny_bind (wpAny_setEpoch_of hD rfl o.fits ?_)
  refine wpAny_bind (m := newFields _ _) (wpAny_newObj_type (wpAny_pure ⟨_,rfl, "set_iterator",_,⟨_,Heap.get?_push_size _ rfl,rfl⟩,slot_si_next.lookup,?_⟩))
  exact h
noncomputable def Sl (w : World) (t : SetTable) (slot : Nat) : Prop := w.params.followText "set-order" = false → ∃ j,t.place = #[j] ∧ slot = j + 1
theorem setNext_one {D : Addr} {hs : Int} {v : Value} {ep : Nat} {t : SetTable} {Q : Option (Value × Nat) → Shared → Prop} (hD : s.heap.get? D = some (setO hs v ep t)) (o : One (!(w.params.followText "set-order")) t)
    (h : ∀ n,Sl w t n → Q (some (v,n)) s) : wpAny (model prog w) A (setNext D 0 0 ep) Q E s := by
  unfold setNext setsByText
  refine wpAny_bind (wpAny_setState_of hD rfl o.fits ?_)
  refine wpAny_bind (wpAny_bind (wpAny_askSetting (wpAny_pure ?_)))
  have hw : wpAny (model prog w) A (setWalk D) (fun x s' => x = #[(hs,v)] ∧ s' = s) E s := by
    unfold setWalk setsByText
    refine wpAny_bind (wpAny_setState_of hD rfl o.fits ?_)
    refine wpAny_bind (wpAny_bind (wpAny_askSetting (wpAny_pure ?_)))
    cases hq : w.params.followText "set-order" with
    | true =>
      refine if_so' hq ?_
      refine wpAny_bind (wpAny_askSetting (wpAny_pure ⟨?_,rfl⟩))
      show PySem.pickOrder.go _ 1 0 [(hs,v)] #[] = _
      simp [PySem.pickOrder.go,Nat.mod_one]
    | false =>
      rw [hq] at o
      rcases t with ⟨a1,a2,a3,a4,a5,a6,a7⟩
      obtain rfl : a5 = true := o.2.2.2
      refine if_no' (fun q => nomatch hq.symm.trans q) ?_
      refine if_no' (by cases a7 <;> exact Bool.false_ne_true) ?_
      refine wpAny_bind (wpAny_of_eq (a := PUnit.unit) (by rfl) ?_)
      exact wpAny_pure ⟨rfl,rfl⟩
  cases hq : w.params.followText "set-order" with
  | true =>
    refine if_so' hq ?_
    rw [if_neg (by simp)]
    refine wpAny_bind (wpAny_mono hw ?_ fun _ _ e => e)
    rintro x s' ⟨rfl,rfl⟩
    exact wpAny_pure (h 0 fun e => nomatch hq.symm.trans e)
  | false =>
    rw [hq] at o
    rcases t with ⟨a1,a2,a3,a4,a5,a6,a7⟩
    obtain rfl : a5 = true := o.2.2.2
    refine if_no' (fun q => nomatch hq.symm.trans q) ?_
    refine if_no' (by cases a7 <;> exact Bool.false_ne_true) ?_
    refine wpAny_bind (wpAny_of_eq (a := PUnit.unit) (by rfl) ?_)
    obtain ⟨j,hj⟩ : ∃ j,a2 = #[j] := by
      have := o.1
      rcases a2 with ⟨_ | ⟨j,_ | ⟨b,r⟩⟩⟩ <;> simp_all
    subst hj
    rw [show SetTable.below #[j] 0 = 0 by rfl]
    exact wpAny_pure (h (j + 1) fun _ => ⟨j,rfl,rfl⟩)
theorem setNext_two {D : Addr} {hs : Int} {v : Value} {ep n : Nat} {t : SetTable} {Q : Option (Value × Nat) → Shared → Prop} (hD : s.heap.get? D = some (setO hs v ep t)) (o : One (!(w.params.followText "set-order")) t)
    (hn : Sl w t n) (h : Q none s) : wpAny (model prog w) A (setNext D n 1 ep) Q E s := by
  unfold setNext setsByText
  refine wpAny_bind (wpAny_setState_of hD rfl o.fits ?_)
  refine wpAny_bind (wpAny_bind (wpAny_askSetting (wpAny_pure ?_)))
  have hw : wpAny (model prog w) A (setWalk D) (fun x s' => x = #[(hs,v)] ∧ s' = s) E s := by
    unfold setWalk setsByText
    refine wpAny_bind (wpAny_setState_of hD rfl o.fits ?_)
    refine wpAny_bind (wpAny_bind (wpAny_askSetting (wpAny_pure ?_)))
    cases hq : w.params.followText "set-order" with
    | true =>
      refine if_so' hq ?_
      refine wpAny_bind (wpAny_askSetting (wpAny_pure ⟨?_,rfl⟩))
      show PySem.pickOrder.go _ 1 0 [(hs,v)] #[] = _
      simp [PySem.pickOrder.go,Nat.mod_one]
    | false =>
      rw [hq] at o
      rcases t with ⟨a1,a2,a3,a4,a5,a6,a7⟩
      obtain rfl : a5 = true := o.2.2.2
      refine if_no' (fun q => nomatch hq.symm.trans q) ?_
      refine if_no' (by cases a7 <;> exact Bool.false_ne_true) ?_
      refine wpAny_bind (wpAny_of_eq (a := PUnit.unit) (by rfl) ?_)
      exact wpAny_pure ⟨rfl,rfl⟩
  cases hq : w.params.followText "set-order" with
  | true =>
    refine if_so' hq ?_
    rw [if_neg (by simp)]
    refine wpAny_bind (wpAny_mono hw ?_ fun _ _ e => e)
    rintro x s' ⟨rfl,rfl⟩
    exact wpAny_pure h
  | false =>
    (refine ob_EA (hn hq) fun j hj z1q => ?_; obtain rfl := z1q)
    rw [hq] at o
    rcases t with ⟨a1,a2,a3,a4,a5,a6,a7⟩
    obtain rfl : a5 = true := o.2.2.2
    dsimp only at hj
    subst hj
    refine if_no' (fun q => nomatch hq.symm.trans q) ?_
    refine if_no' (by cases a7 <;> exact Bool.false_ne_true) ?_
    refine wpAny_bind (wpAny_of_eq (a := PUnit.unit) (by rfl) ?_)
    rw [show SetTable.below #[j] (j + 1) = 1 by simp [SetTable.below,SetTable.below.go]]
    exact wpAny_pure h
theorem si_next {D I : Addr} {hs : Int} {v : Value} {ep slot i : Nat} {t : SetTable} {Q : Option Value → Shared → Prop} (hh : A.handled = none) (hD : s.heap.get? D = some (setO hs v ep t)) (o : One (!(w.params.followText "set-order")) t) (hI : s.heap.get? I = some (siO slot i D 1 ep))
    (hcase : (slot = 0 ∧ i = 0 ∧ ∀ h' n,Sl w t n → Heap.SameBut I s.heap h' → h'.get? I = some (siO n 1 D 1 ep) → Q (some v) { s with heap := h' }) ∨
      (Sl w t slot ∧ i = 1 ∧ ∀ h',Heap.ExtBut I s.heap h' → Q none { s with heap := h' })) : wpAny (model prog w) A (pyNext (.ref I)) Q E s := by
  have hT : s.TypeIs (.ref I) "set_iterator" := ⟨_,hI,rfl⟩
  unfold pyNext
  refine wpAny_bind (wpAny_attempt (wpAny_callSpecial?_slot (name := Str.ofString "__next__") hT slot_si_next (wpAny_call_entry slot_si_next hT entry_si_next ?_ (args_si_next _))))
  unfold Builtin.«set_iterator.__next__»
  refine wpAny_bind (m := slotArgs "__next__" 0 _) (wpAny_pure (a := (Value.ref I, [])) ?_)
  refine wpAny_bind (wpAny_fieldsOf hI rfl ?_)
  show wpAny _ _ (setEntries D >>= _) _ _ _
  refine wpAny_bind (setEntries_one hD o ?_)
  refine if_no' (by simp) ?_
  show wpAny _ _ (setNext D slot i ep >>= _) _ _ _
  rcases hcase with ⟨rfl,rfl,h⟩ | ⟨hsl,rfl,h⟩
  · refine wpAny_bind (setNext_one hD o fun n hn => ?_)
    dsimp only
    refine wpAny_bind (wpAny_setField hI rfl (by simp) ?_)
    have hI2 : (s.heap.update I (Obj.mapFields (·.setIfInBounds 0 (rawInt n)))).get? I = some (siO n 0 D 1 ep) := Heap.get?_update_self _ hI rfl
    refine wpAny_bind (wpAny_setField hI2 rfl (by simp) ?_)
    refine wpAny_pure ⟨v,rfl,?_⟩
    refine wpAny_pure ?_
    have s1 := Heap.SameBut.update s.heap I (Obj.mapFields (·.setIfInBounds 0 (rawInt n)))
    have s2 := Heap.SameBut.update (s.heap.update I (Obj.mapFields (·.setIfInBounds 0 (rawInt n)))) I (Obj.mapFields (·.setIfInBounds 1 (rawInt ((0 : Int) + 1))))
    exact h _ n hn (s1.trans s2) (Heap.get?_update_self _ hI2 rfl)
  · refine wpAny_bind (setNext_two hD o hsl ?_)
    dsimp only
    refine wpAny_bind (wpAny_setField hI rfl (by simp) ?_)
    refine wpAny_bind ?_
    simp only [newExc,newTuple]
    refine wpAny_bind (wpAny_newObj_type ?_ (by size_fits))
    refine wpAny_bind (m := firstArgMember _ _) (wpAny_of_eq (a := Value.none) (by first | rfl | (simp only [firstArgMember]; rfl)) ?_)
    refine wpAny_newObj_type ?_ (by size_fits)
    simp only [raiseNew]
    refine wpAny_bind (wpAny_handled ?_)
    rw [show A.in1.handled = none from hh]
    refine wpAny_bind (wpAny_pure (wpAny_throw ?_))
    show wpAny _ _ (isInstance _ _ >>= _) _ _ _
    refine wpAny_bind (wpAny_isInstance (T := "StopIteration") (b := true) ⟨_,Heap.get?_push_size _ rfl,rfl⟩ (by rw [isSubtype_type]; kernel_rfl) ?_)
    rw [if_pos rfl]
    refine wpAny_pure ?_
    exact h _ (((Heap.SameBut.update ..).extBut.push _).push _)
end
section
variable {prog : Program} {w : World} {A : Around} {E : Value → Shared → Prop} {s : Shared}
theorem hint_set {D : Addr} {Q : Bool → Shared → Prop} (hT : s.TypeIs (.ref D) "set") (h : Q false s) : wpAny (model prog w) A (Builtin.List.listLengthHint (.ref D)) Q E s := by
  unfold Builtin.List.listLengthHint
  refine wpAny_bind (wpAny_specialOf hT F.slot_set_len.lookup ?_)
  dsimp only
  rw [show splitId "set.__len__" = some ("set", "__len__") by decide +kernel]
  dsimp only
  refine wpAny_bind (wpAny_isInstance hT sub_ss ?_)
  refine if_no' (by decide) ?_
  refine if_so' (by decide +kernel) ?_
  refine wpAny_bind (wpAny_typeOf hT ?_)
  exact wpAny_pure h
theorem collect1 {D : Addr} {hs : Int} {v : Value} {ep : Nat} {t : SetTable} {Q : List Value → Shared → Prop} (hh : A.handled = none) (hD : s.heap.get? D = some (setO hs v ep t)) (o : One (!(w.params.followText "set-order")) t)
    (h : ∀ h',(∀ b o,s.heap.get? b = some o → h'.get? b = some o) → Q [v] { s with heap := h' }) : wpAny (model prog w) A (collect (.ref D)) Q E s := by
  unfold collect
  refine wpAny_bind (wpAny_runValue (codeAny_builtin entry_proto_collect' ?_))
  show wpAny _ _ (do again (.builtin "list.__iadd__" ⟨[← newList [],.ref D], []⟩)) _ _ s
  refine wpAny_bind (wpAny_newList (wpAny_pure ⟨Code.quiet_builtin _ (by decide +kernel),codeAny_builtin entry_list_iadd' ?_⟩))
  generalize hl : s.heap.objs.size = l
  have hlD : l ≠ D := by rw [← hl]; exact Nat.ne_of_gt (Heap.lt_size hD)
  have k1 : ∀ b o,s.heap.get? b = some o → b ≠ l ∧ (s.heap.push (seqObj "list" #[] 0)).get? b = some o := fun b o e => ⟨by rw [← hl]; exact Nat.ne_of_lt (Heap.lt_size e),Heap.get?_push_of_some _ e⟩
  have ho1 : (s.heap.push (seqObj "list" #[] 0)).get? l = some (seqObj "list" #[] 0) := hl ▸ Heap.get?_push_size _ rfl
  show wpAny _ _ (Builtin.List.listExtendWith (.ref l) (.ref D) (.ref l)) _ _ { s with heap := s.heap.push (seqObj "list" #[] 0) }
  generalize s.heap.push (seqObj "list" #[] 0) = h1 at k1 ho1
  unfold Builtin.List.listExtendWith
  have hD1 := (k1 _ _ hD).2
  refine wpAny_bind (wpAny_typeOf (T := "set") ⟨_,hD1,rfl⟩ ?_)
  refine if_no' (by simp [Builtin.List.listSameRef,hlD]) ?_
  refine wpAny_bind (pyIter_one hD1 o ?_)
  dsimp only
  generalize hI : h1.objs.size = I
  have hlI : l ≠ I := by rw [← hI]; exact Nat.ne_of_lt (Heap.lt_size ho1)
  have hDI : D ≠ I := by rw [← hI]; exact Nat.ne_of_lt (Heap.lt_size hD1)
  have k2 : ∀ b o,s.heap.get? b = some o → b ≠ l ∧ b ≠ I ∧ (h1.push (siO 0 0 D 1 ep)).get? b = some o := fun b o e => ⟨(k1 b o e).1,by rw [← hI]; exact Nat.ne_of_lt (Heap.lt_size (k1 b o e).2),Heap.get?_push_of_some _ (k1 b o e).2⟩
  have ho2 : (h1.push (siO 0 0 D 1 ep)).get? l = some (seqObj "list" #[] 0) := Heap.get?_push_of_some _ ho1
  have hI2 : (h1.push (siO 0 0 D 1 ep)).get? I = some (siO 0 0 D 1 ep) := hI ▸ Heap.get?_push_size _ rfl
  generalize h1.push (siO 0 0 D 1 ep) = h2 at k2 ho2 hI2
  have hD2 := (k2 _ _ hD).2.2
  refine wpAny_bind (wpAny_holding (hint_set ⟨_,hD2,rfl⟩ ?_))
  refine if_so' (by decide +kernel) ?_
  refine wpAny_bind (wpAny_rule ?_)
  unfold Builtin.List.listTouch
  refine wpAny_bind (wpAny_bind (listUpdate_at ho2 rfl ?_ (Nat.zero_le _) (by show 1 ≤ _; rw [sizeLine_eq]; decide)))
  have ho3 : (h2.update l (Obj.mapSeq (·.push .none))).get? l = some (seqObj "list" #[.none] _) := get?_update_seq ho2 _
  have s3 := Heap.SameBut.update h2 l (Obj.mapSeq (·.push .none))
  generalize h2.update l (Obj.mapSeq (·.push .none)) = h3 at ho3 s3
  refine listUpdate_at ho3 rfl ?_ (by show 1 ≤ _; rw [sizeLine_eq]; decide) (Nat.zero_le _)
  have ho4 : (h3.update l (Obj.mapSeq (·.pop))).get? l = some (seqObj "list" #[] _) := get?_update_seq ho3 _
  have s4 := s3.trans (Heap.SameBut.update h3 l (Obj.mapSeq (·.pop)))
  generalize h3.update l (Obj.mapSeq (·.pop)) = h4 at ho4 s4
  refine wpAny_pure ⟨Code.quiet_builtin _ (by decide +kernel),codeAny_builtin entry_lel ?_⟩
  have hD4 := (s4.2 D hlD.symm).trans hD2
  have hI4 := (s4.2 I hlI.symm).trans hI2
  show wpAny _ _ (pyNext (.ref I) >>= _) _ _ _
  refine wpAny_bind (si_next hh hD4 o hI4 (.inl ⟨rfl,rfl,fun h5 n hn s5 hI5 => ?_⟩))
  have ho5 := (s5.2 l hlI).trans ho4
  have hD5 := (s5.2 D hDI).trans hD4
  dsimp only
  refine wpAny_bind (listUpdate_at ho5 rfl ?_ (Nat.zero_le _) (by show 1 ≤ _; rw [sizeLine_eq]; exact Nat.lt_succ_of_le (Nat.zero_le 16777216)))
  dsimp only
  have ho6 : (h5.update l (Obj.mapSeq (·.push v))).get? l = some (seqObj "list" #[v] _) := get?_update_seq ho5 _
  have s6 := Heap.SameBut.update h5 l (Obj.mapSeq (·.push v))
  generalize h5.update l (Obj.mapSeq (·.push v)) = h6 at ho6 s6
  have hD6 := (s6.2 D hlD.symm).trans hD5
  have hI6 := (s6.2 I hlI.symm).trans hI5
  refine wpAny_pure ⟨Code.quiet_builtin _ (by decide +kernel),codeAny_builtin entry_lel ?_⟩
  show wpAny _ _ (pyNext (.ref I) >>= _) _ _ _
  refine wpAny_bind (si_next hh hD6 o hI6 (.inr ⟨hn,rfl,fun h7 s7 => ?_⟩))
  have ho7 := s7 l _ hlI ho6
  refine wpAny_pure ?_
  refine wpAny_bind (wpAny_load ho7 ?_)
  refine wpAny_pure (h h7 fun b o e => ?_)
  refine ob_AA (k2 b o e) fun e1 e2 e3 => ?_
  exact s7 b o e2 ((s6.2 b e1).trans ((s5.2 b e2).trans ((s4.2 b e1).trans e3)))
end
noncomputable def Kp (h h' : Heap) : Prop := ∀ b o,h.get? b = some o → h'.get? b = some o
theorem Kp.rfl {h : Heap} : Kp h h := fun _ _ e => e
theorem Kp.trans {h h' h'' : Heap} (x : Kp h h') (y : Kp h' h'') : Kp h h'' := fun b o e => y b o (x b o e)
theorem Kp.push {h h' : Heap} (x : Kp h h') (o : Obj) : Kp h (h'.push o) := fun b o' e => Heap.get?_push_of_some _ (x b o' e)
theorem Kp.of {h h' h'' : Heap} {a : Addr} (x : Kp h h') (ha : h.get? a = none) (s : Heap.SameBut a h' h'') : Kp h h'' := fun b o e => (s.2 b (fun q => by rw [q,ha] at e; cases e)).trans (x b o e)
section
variable {prog : Program} {w : World} {A : Around} {E : Value → Shared → Prop} {s : Shared}
theorem sort1 {f v : Value} {a : Addr} {n : Nat} {P : PySem.Fin → Shared → Prop} {h₀ : Heap} (K0 : Kp h₀ s.heap) (ha0 : h₀.get? a = none) (ha : s.heap.get? a = some (seqObj "list" #[v] n))
    (turn : ∀ h tk,Kp h₀ h → wpAny (model prog w) A (call f [v]) (fun _ s₂ => ∃ h' tk',s₂ = { s with heap := h',toks := tk' } ∧ Kp h h') (fun _ _ => False) { s with heap := h,toks := tk })
    (h : ∀ h' tk c,Kp h₀ h' → h'.get? a = some (seqObj "list" #[v] c) → P (.done (.ret .none)) { s with heap := h',toks := tk }) : wpAny (model prog w) A (ksk_tree a f false) P E s := by
  unfold ksk_tree
  refine wpAny_bind (listItems_at ha rfl ?_)
  refine wpAny_bind (listUpdate_at ha rfl ?_ (by show 1 ≤ _; rw [sizeLine_eq]; decide) (Nat.zero_le _))
  have ha1 : (s.heap.update a (Obj.mapSeq fun _ => (#[] : Array Value))).get? a = some (seqObj "list" #[] _) := get?_update_seq ha _
  have K1 := K0.of ha0 (Heap.SameBut.update s.heap a (Obj.mapSeq fun _ => (#[] : Array Value)))
  generalize s.heap.update a (Obj.mapSeq fun _ => (#[] : Array Value)) = h1 at ha1 K1
  refine wpAny_bind (seqEpoch_at ha1 rfl ?_)
  refine wpAny_bind (wpAny_newTuple ?_ (by show 1 ≤ _; rw [sizeLine_eq]; exact Nat.lt_succ_of_le (Nat.zero_le 16777215)))
  refine wpAny_bind (wpAny_newList ?_ (Nat.zero_le _))
  dsimp only
  have ha2 : (h1.push (seqObj "tuple" #[v] 0)).get? a = some (seqObj "list" #[] _) := Heap.get?_push_of_some _ ha1
  have K2 := K1.push (seqObj "tuple" #[v] 0)
  show wpAny _ _ _ _ _ { s with heap := (h1.push (seqObj "tuple" #[v] 0)).push (seqObj "list" #[] 0) }
  generalize h1.push (seqObj "tuple" #[v] 0) = h2 at ha2 K2
  generalize hk : h2.objs.size = kS
  have hka : a ≠ kS := by rw [← hk]; exact Nat.ne_of_lt (Heap.lt_size ha2)
  have hk0 : h₀.get? kS = none := by
    cases e : h₀.get? kS with
    | none => rfl
    | some o => exact absurd (Heap.lt_size (K2 _ _ e)) (by rw [hk]; exact Nat.lt_irrefl _)
  have ha3 : (h2.push (seqObj "list" #[] 0)).get? a = some (seqObj "list" #[] _) := Heap.get?_push_of_some _ ha2
  have hk3 : (h2.push (seqObj "list" #[] 0)).get? kS = some (seqObj "list" #[] 0) := hk ▸ Heap.get?_push_size _ rfl
  have K3 := K2.push (seqObj "list" #[] 0)
  generalize h2.push (seqObj "list" #[] 0) = h3 at ha3 hk3 K3
  refine wpAny_holding ?_
  unfold ksk_rest
  refine wpAny_bind (wpAny_rule ?_)
  refine wpAny_bind ?_
  rw [← Array.forIn_toList]
  dsimp only
  rw [List.forIn_cons]
  refine wpAny_bind (wpAny_bind (wpAny_attempt (wpAny_mono (turn h3 s.toks K3) (fun k s₂ hk => ?_) fun _ _ hF => hF.elim)))
  (refine ob_EEA hk fun h4 tk4 z1q K4 => ?_; try clear hk; obtain rfl := z1q)
  have ha4 := K4 _ _ ha3
  have hk4 := K4 _ _ hk3
  have K5 := K3.trans K4
  dsimp only
  refine wpAny_bind (listUpdate_at hk4 rfl ?_ (Nat.zero_le _) (by show 1 ≤ _; rw [sizeLine_eq]; decide))
  have hk5 : (h4.update kS (Obj.mapSeq (·.push k))).get? kS = some (seqObj "list" #[k] _) := get?_update_seq hk4 _
  have s5 := Heap.SameBut.update h4 kS (Obj.mapSeq (·.push k))
  have K6 := K5.of hk0 s5
  have ha5 := (s5.2 a hka).trans ha4
  generalize h4.update kS (Obj.mapSeq (·.push k)) = h5 at hk5 K6 ha5
  refine wpAny_pure ?_
  dsimp only
  rw [List.forIn_nil]
  refine wpAny_pure ?_
  refine wpAny_bind (listItems_at hk5 rfl ?_)
  unfold ksk_end
  refine if_no' Bool.false_ne_true ?_
  rw [if_pos (show (#[v] : Array Value).size < 2 by simp),if_pos (show (#[v] : Array Value).size < 2 by simp)]
  refine wpAny_bind (wpAny_pure ?_)
  show wpAny _ _ (_ >>= _) _ _ _
  refine wpAny_bind (wpAny_pure (a := ((),SortSt.mk' general' (if false = true then (#[k].zip #[v]).reverse else #[k].zip #[v]) #[] 7 none)) ?_)
  dsimp only
  unfold ksk_tail
  dsimp only
  refine wpAny_bind (listUpdate_at hk5 rfl ?_ (by show 1 ≤ _; rw [sizeLine_eq]; decide) (Nat.zero_le _))
  have s6 := Heap.SameBut.update h5 kS (Obj.mapSeq fun _ => (#[] : Array Value))
  have K7 := K6.of hk0 s6
  have ha6 := (s6.2 a hka).trans ha5
  generalize h5.update kS (Obj.mapSeq fun _ => (#[] : Array Value)) = h6 at K7 ha6
  refine wpAny_bind (wpAny_letGo ?_)
  refine wpAny_bind (seqEpoch_at ha6 rfl ?_)
  have hF : (arrOf (SortSt.mk' general' (#[k].zip #[v]) #[] 7 none)).map (·.2) = #[v] := by first | with_unfolding_all rfl | simp [arrOf,SortSt.mk']
  simp only [Bool.false_eq_true,if_false,hF]
  refine wpAny_bind (listUpdate_at ha6 rfl ?_ (Nat.zero_le _) (by show 1 ≤ _; rw [sizeLine_eq]; exact Nat.lt_succ_of_le (Nat.zero_le 16777216)))
  have ha7 : (h6.update a (Obj.mapSeq fun _ => #[v])).get? a = some (seqObj "list" #[v] _) := get?_update_seq ha6 fun _ => #[v]
  refine if_no' (by simp) ?_
  refine wpAny_pure (h _ _ _ (K7.of ha0 (Heap.SameBut.update ..)) ha7)
theorem sorted1 {q D : Addr} {hs : Int} {v : Value} {ep : Nat} {t : SetTable} {Q : Value → Shared → Prop} (hh : A.handled = none) (hD : s.heap.get? D = some (setO hs v ep t)) (o : One (!(w.params.followText "set-order")) t)
    (turn : ∀ h tk,Kp s.heap h → wpAny (model prog w) A.in1.in1 (call (.ref q) [v]) (fun _ s₂ => ∃ h' tk',s₂ = { s with heap := h',toks := tk' } ∧ Kp h h') (fun _ _ => False) { s with heap := h,toks := tk })
    (h : ∀ D' h' tk c,s.heap.get? D' = none → (∀ b o,s.heap.get? b = some o → @LT.lt Nat _ b D') → Kp s.heap h' → h'.get? D' = some (seqObj "list" #[v] c) → Q (.ref D') { s with heap := h',toks := tk }) : wpAny (model prog w) A (call (.builtin "sorted") [.ref D] [(Str.ofString "key",.ref q)]) Q E s := by
  refine call_function_entry_kw kind_sorted plain_sorted entry_sorted (ksk_s1 _ _) ?_
  unfold Builtin.«sorted»
  refine wpAny_bind (m := checkCount "sorted" 1 1 _) (wpAny_pure ?_)
  refine wpAny_bind (collect1 (A := A.in1) hh hD o fun h1 k1 => ?_)
  refine wpAny_bind (wpAny_newList ?_ (by show 1 ≤ _; rw [sizeLine_eq]; exact Nat.lt_succ_of_le (Nat.zero_le 16777215)))
  dsimp only
  have hL : (h1.push (seqObj "list" #[v] 0)).get? h1.objs.size = some (seqObj "list" #[v] 0) := Heap.get?_push_size _ rfl
  have k2 : Kp s.heap (h1.push (seqObj "list" #[v] 0)) := Kp.push k1 _
  have n0 : s.heap.get? h1.objs.size = none := by
    cases e : s.heap.get? h1.objs.size with
    | none => rfl
    | some o => exact absurd (Heap.lt_size (k1 _ _ e)) (Nat.lt_irrefl _)
  have nl : ∀ b o,s.heap.get? b = some o → @LT.lt Nat _ b h1.objs.size := fun b o e => Heap.lt_size (k1 _ _ e)
  show wpAny _ _ _ _ _ { s with heap := h1.push (seqObj "list" #[v] 0) }
  generalize h1.objs.size = L at hL n0 nl
  generalize h1.push (seqObj "list" #[v] 0) = h2 at hL k2
  refine wpAny_bind (wpAny_holding (wpAny_call_entry_kw slot_list_sort ⟨_,hL,rfl⟩ entry_list_sort ?body (ksk_l1 _ _)))
  show wpAny (model prog w) A.in1.in1 (Builtin.«list.sort» ⟨[.ref L], [(Str.ofString "key",.ref q)]⟩) _ _ _
  rw [ksk_t1]
  refine sort1 (s := { s with heap := h2 }) k2 n0 hL (fun h tk K => turn h tk K) fun h3 tk c K3 hL3 => ⟨_,rfl,?_⟩
  exact wpAny_pure ⟨_,rfl,h _ _ _ _ n0 nl K3 hL3⟩
end
noncomputable def dict00 : Obj := { cls := .type "dict",dict := none,data := .dict #[] }
inductive DcI (s₁ sA : Shared) (h₀ : Heap) (I ax D C L : Nat) (tag : Str) (tt : Tok) (Dk : Heap → Nat → Prop) (m : Str → Option Value) (news : List (Addr × Obj)) : Nat → Shared → Prop
  | two : DcI s₁ sA h₀ I ax D C L tag tt Dk m news 2 sA
  | one (T : Nat) (h' : Heap) (tk : Nat) (t1 t2 t3 : Tok) (m' : Str → Option Value) : h'.IsListIter I ax 1 → h'.IsList ax #[.str tag tt] → Dk h' T → h'.Ns C m' → @LT.lt Nat _ D T → T ≠ C → T ≠ L → T ≠ I → h₀.get? T = none → h'.get? T = some (tupOf [.str tag t1,.str tag t2,.str "" t3].toArray) → Fr h₀ L h' m → News h₀ L h' news →
      DcI s₁ sA h₀ I ax D C L tag tt Dk m news 1 { s₁ with heap := h',toks := tk,gens := s₁.gens.push .finished }
inductive DcP (prog : Program) (w : World) (A : Around) (env : Env) (scope : Scope) (cl : List (Str × Addr)) (vx : Expr) (x y : Str) (tag : Str) (tt : Tok) (h₀ : Heap) (L : Addr) (m : Str → Option Value) (Q : Flow → Shared → Prop) : Value → Shared → Prop
  | mk {s₁ : Shared} (ax c : Nat) (news : List (Addr × Obj)) : s₁.heap.get? ax = some (seqObj "list" #[.str tag tt] c) → Fr h₀ L s₁.heap m → News h₀ L s₁.heap news →
      (∀ (D C : Nat) h' tk m₂ E',(∀ p ∈ news,@LT.lt Nat _ p.1 D) → Fr h₀ L h' m → News h₀ L h' ((D,dict00) :: news) → h'.Ns C m₂ → m₂ x = some (.str tag tt) →
        wpAny (model prog w) A (eval vx (compEnvC scope cl C env)) (fun y s₃ => ∃ T : Nat,∃ h'' tk t1 t2 t3,y = .ref T ∧ s₃ = { s₁ with heap := h'',toks := tk,gens := s₁.gens.push .finished } ∧ h''.get? T = some (tupOf [.str tag t1,.str tag t2,.str "" t3].toArray) ∧ h'.get? T = none ∧ @LT.lt Nat _ D T ∧ Kp h' h'')
          E' { s₁ with heap := h',toks := tk }) →
      (∀ (T D : Nat) oD h' tk t1 t2 t3,oD.IsDictOf (strKind prog w) [(tag,.ref T)] → Fr h₀ L h' (fun z => if z = y then some (.ref D) else m z) → News h₀ L h' ((T,tupOf [.str tag t1,.str tag t2,.str "" t3].toArray) :: (D,oD) :: news) → (∀ p ∈ news,@LT.lt Nat _ p.1 D) → @LT.lt Nat _ D T →
        Q .next { s₁ with heap := h',toks := tk,gens := s₁.gens.push .finished }) → DcP prog w A env scope cl vx x y tag tt h₀ L m Q (.ref ax) s₁
section
variable {prog : Program} {w : World} {A : Around} {E : Value → Shared → Prop} {s : Shared} {h₀ : Heap} {L : Addr} {m : Str → Option Value} {env : Env}
theorem dc_one {vx iter : Expr} {x y : Str} {px py pk : Pos} {scope : Scope} {cl : List (Str × Addr)} {pos spos : Pos} {Q : Flow → Shared → Prop} {tag : Str} {tt : Tok}
    (hsw : swapsWith (.DictComp (.Name x pk) vx [⟨.Name x px,iter, [],0⟩] scope pos) (some (.Name y py)) spos.line env = pure true) (hL : env.locals = L)
    (hh : A.handled = none) (hclos : closureFor scope env = pure cl) (hcell : ∀ z ∈ scope.names,z.2 ≠ .cell) (hkind : scope.kind = .function)
    (hnames : ∀ z ∈ scope.names,z.2 = .local → scope.names.lookup z.1 = some .local) (hx : scope.names.lookup x = some .local) (dx : (x == ("__debug__" : Str)) = false)
    (hy : env.kindOf y = some .local) (hp : (env.scope.kind == .class || (env.scope.kind == .module && env.locals != env.globals)) = false)
    (h : wpAny (model prog w) A (eval iter env) (DcP prog w A env scope cl vx x y tag tt h₀ L m Q) E s)
    (hs : ∀ x,foldedSetIterable iter env x = pure x) (_F : Fr h₀ L s.heap m) (_t : m "tag" = some (.str tag tt)) :
    wpAny (model prog w) A (exec (.Assign [.Name y py] (.DictComp (.Name x pk) vx [⟨.Name x px,iter, [],0⟩] scope pos) spos) env) Q E s := by
  subst hL
  rw [exec_Assign_Name_used _ _ _ _ hsw]
  refine wpAny_bind (wpAny_standAt (wpAny_bind ?_))
  show wpAny _ A (do let _ ← comprehension (.DictComp (.Name x pk) vx [⟨.Name x px,iter, [],0⟩] scope pos) scope env _ newDict false (eval iter env) (some (assign (.Name y py) env))) _ _ s
  refine wpAny_bind (wpAny_mono (wpAny_comprehension_free (use := some (assign (.Name y py) env)) (Q := fun _ s' => Q .next s') rfl hs hclos hkind hnames
    (wpAny_mono h (fun xv s₁ h₁ => ?_) fun _ _ e => e)) (fun _ s' hq => wpAny_pure (wpAny_pure hq)) fun _ _ e => e)
  cases h₁ with | mk ax c news hax F N hval hcont => ?_
  have hl : s₁.heap.IsList ax #[.str tag tt] := ⟨_,hax,rfl,_,rfl⟩
  have hlt : ax < s₁.heap.objs.size := Heap.lt_size hax
  refine wpAny_pyIter_list hl ?_
  refine wpAny_newObj_type (wpAny_newFunctionEnv hcell (by intro y hy; simp at hy) (fun h₁ hns₁ hsb₁ => ?_) hkind)
  dsimp only at hns₁ hsb₁ ⊢
  have hIo : (s₁.heap.push { cls := .type "list_iterator",data := .fields #[.ref ax,.int 0 0] }).IsListIter s₁.heap.objs.size ax 0 := ⟨_,Heap.get?_push_size _ rfl,rfl,rfl⟩
  have hsz1 : (s₁.heap.push { cls := .type "list_iterator",data := .fields #[.ref ax,.int 0 0] }).objs.size = s₁.heap.objs.size + 1 := Heap.size_push ..
  have kp1 : Kp s₁.heap (s₁.heap.push { cls := .type "list_iterator",data := .fields #[.ref ax,.int 0 0] }) := Kp.rfl.push _
  generalize s₁.heap.push { cls := .type "list_iterator",data := .fields #[.ref ax,.int 0 0] } = H1 at hns₁ hsb₁ hIo hsz1 kp1 ⊢
  have hDo : (H1.push dict00).get? H1.objs.size = some dict00 := Heap.get?_push_size _ rfl
  have hDd : (H1.push dict00).DictOf (strKind prog w) H1.objs.size [] := Heap.DictOf.new H1
  have hsz2 : (H1.push dict00).objs.size = H1.objs.size + 1 := Heap.size_push ..
  have hIo2 : (H1.push dict00).IsListIter s₁.heap.objs.size ax 0 := Heap.IsListIter.at hIo fun o e => Heap.get?_push_of_some _ e
  have kp2 : Kp s₁.heap (H1.push dict00) := kp1.push _
  change (Heap.Ns _ (H1.push dict00).objs.size _) at hns₁
  change (Heap.SameBut (H1.push dict00).objs.size ((H1.push dict00).push _) _) at hsb₁
  show codeAny (model prog w) A (.compStart _ 0 (.ref s₁.heap.objs.size) (.ref H1.objs.size) (compEnvC scope cl (H1.push dict00).objs.size env)) (compPost (model prog w) A E (some (assign (.Name y py) env)) (fun _ s' => Q .next s') (.ref H1.objs.size) (H1.push dict00).objs.size) { s₁ with heap := h₁,toks := s₁.toks + ([] : List (Str × Value)).length }
  generalize hC : (H1.push dict00).objs.size = C at hns₁ hsb₁ hsz2 ⊢
  generalize hD : H1.objs.size = D at hDo hDd hsz1 hsz2 ⊢
  have old : Kp (H1.push dict00) h₁ := fun b o e => hsb₁.extBut b o (by rw [← hC]; exact Nat.ne_of_lt (Heap.lt_size e)) (Heap.get?_push_of_some _ e)
  have kp : Kp s₁.heap h₁ := kp2.trans old
  have hI₁ : h₁.IsListIter s₁.heap.objs.size ax 0 := Heap.IsListIter.at hIo2 fun o e => old _ o e
  have hD₁ := old _ _ hDo
  have hDd₁ : h₁.DictOf (strKind prog w) D [] := hDd.at fun o e => old _ o e
  have hL : env.locals < s₁.heap.objs.size := F.ns.lt
  have lD : @LT.lt Nat _ s₁.heap.objs.size D := Nat.le_of_eq hsz1.symm
  have lC : @LT.lt Nat _ D C := Nat.le_of_eq hsz2.symm
  have sI : s₁.heap.objs.size ≠ D := Nat.ne_of_lt lD
  have sC : s₁.heap.objs.size ≠ C := Nat.ne_of_lt (Nat.lt_trans lD lC)
  have sDC : D ≠ C := Nat.ne_of_lt lC
  have aD : ax ≠ D := Nat.ne_of_lt (Nat.lt_trans hlt lD)
  have aC : ax ≠ C := Nat.ne_of_lt (Nat.lt_trans hlt (Nat.lt_trans lD lC))
  have sLI : env.locals ≠ s₁.heap.objs.size := Nat.ne_of_lt hL
  have sLD : env.locals ≠ D := Nat.ne_of_lt (Nat.lt_trans hL lD)
  have sLC : env.locals ≠ C := Nat.ne_of_lt (Nat.lt_trans hL (Nat.lt_trans lD lC))
  have old' : ∀ b : Nat,@LT.lt Nat _ b s₁.heap.objs.size → @LT.lt Nat _ b D ∧ b ≠ s₁.heap.objs.size ∧ b ≠ C := fun b l => ⟨Nat.lt_trans l lD,Nat.ne_of_lt l,Nat.ne_of_lt (Nat.lt_trans l (Nat.lt_trans lD lC))⟩
  have sN : ∀ p ∈ news,@LT.lt Nat _ p.1 D ∧ p.1 ≠ s₁.heap.objs.size ∧ p.1 ≠ C := fun p hp => old' _ (Heap.lt_size (N p hp).1)
  have s0 : ∀ b o,h₀.get? b = some o → @LT.lt Nat _ b D ∧ b ≠ s₁.heap.objs.size ∧ b ≠ C := fun b o e => old' _ (Heap.lt_size (F.keep _ _ e))
  have D0 : h₀.get? D = none := none_of fun o e => Nat.lt_irrefl _ (s0 D o e).1
  have W := Walks.list (prog := prog) (w := w) (A := A) hh s₁.heap.objs.size ax (Nat.ne_of_lt hlt) #[.str tag tt]
  have hkC : (compEnvC scope cl C env).scope.kind = .function := hkind
  have hpC : ((compEnvC scope cl C env).scope.kind == .class || ((compEnvC scope cl C env).scope.kind == .module && (compEnvC scope cl C env).locals != (compEnvC scope cl C env).globals)) = false := by rw [hkC]; rfl
  have hxC : (compEnvC scope cl C env).kindOf x = some .local := lookup_relabel_local hx
  have elC : (compEnvC scope cl C env).locals = C := rfl
  replace hl : h₁.IsList ax #[.str tag tt] := hl.at fun o e => kp _ _ e
  replace hval := hval D C
  clear hIo hIo2 hDo hDd hsz1 hsz2 kp1 kp2 hsb₁ lD lC old old' hax hlt hL h
  generalize s₁.heap.objs.size = I at *
  generalize compEnvC scope cl C env = cenv at *
  generalize s₁.toks + ([] : List (Str × Value)).length = tk1
  have loop : codeAny (model prog w) A (.compLoop (.DictComp (.Name x pk) vx [⟨.Name x px,iter, [],0⟩] scope pos) 0 (.ref I) (.ref D) cenv)
      (compPost (model prog w) A E (some (assign (.Name y py) env)) (fun _ s' => Q .next s') (.ref D) C) { s₁ with heap := h₁,toks := tk1 } := by
    refine codeAny_compLoop_testsD (DcI s₁ { s₁ with heap := h₁,toks := tk1 } h₀ I ax D C env.locals tag tt (fun h' T => h'.DictOf (strKind prog w) D [(tag,.ref T)]) m news) ?_ 2 .two
    intro k s' hJ
    cases hJ with
    | two =>
      refine W.item 0 _ _ _ Nat.zero_lt_one ⟨hI₁,hl⟩ fun v h₂ tk₂ hPv hst₂ hk₂ => ?_
      obtain rfl : Value.str tag tt = v := Option.some.inj hPv
      have hk2 : ∀ b o,b ≠ I → h₁.get? b = some o → h₂.get? b = some o := fun b o hb e => hk₂ b o (fun q => hb (List.mem_singleton.mp q)) e
      refine wpAny_assign_Name (wpAny_storeName_local hxC ((elC ▸ hns₁ : h₁.Ns cenv.locals _).at' fun o e => hk2 _ o (elC ▸ sC.symm) e) (fun h₃ hn₃ hs₃ => ?_) hpC)
      dsimp only at hn₃ hs₃
      rw [elC] at hn₃ hs₃
      have hk3 : ∀ b o,b ≠ I → b ≠ C → h₁.get? b = some o → h₃.get? b = some o := fun b o hb hb' e => hs₃.extBut b o hb' (hk2 b o hb e)
      rw [List.forIn_nil]
      refine wpAny_pure ?_
      rw [if_pos rfl]
      refine wpAny_Name (wpAny_loadName_local hkC hxC (elC ▸ hn₃) (v := .str tag tt) (if_pos rfl) ?_) dx
      have F3 : Fr h₀ env.locals h₃ m := ⟨F.ns.at' fun o e => hk3 _ o sLI sLC (kp _ _ e),fun b o e => hk3 b o (s0 b o e).2.1 (s0 b o e).2.2 (kp _ _ (F.keep b o e)),F.above⟩
      have D3 := hk3 _ _ sI.symm sDC hD₁
      have N3 : News h₀ env.locals h₃ news := fun p hp => ⟨hk3 _ _ (sN p hp).2.1 (sN p hp).2.2 (kp _ _ (N p hp).1),(N p hp).2⟩
      refine wpAny_mono (hval h₃ _ _ _ (fun p hp => (sN p hp).1) F3 (List.forall_mem_cons.mpr ⟨⟨D3,sLD.symm,D0⟩,N3⟩) hn₃ (if_pos rfl)) (fun u s₄ h₄ => ?_) fun _ _ e => e
      refine ob_EEEEEEAAAAA h₄ fun T h₄ tk₄ t1 t2 t3 z1 z2 hT hTn hDT k4 => ?_
      subst z1 z2
      refine wpAny_dictSet_pairs (knd := strKind prog w) (k := tag) (hsz := Nat.zero_le _) (strKind_is _ _ _ _) (hDd₁.at fun o e => k4 _ _ (hk3 _ o sI.symm sDC e)) fun h₅ hl₅ hs₅ => ?_
      have nT : ∀ b o,h₃.get? b = some o → T ≠ b := fun b o e q => by rw [q,e] at hTn; cases hTn
      have k5 : ∀ b o,b ≠ D → h₃.get? b = some o → h₅.get? b = some o := fun b o hb e => hs₅.extBut b o hb (k4 b o e)
      refine ⟨1,by decide,.one T h₅ _ t1 t2 t3 _ (Heap.IsListIter.at hst₂.1 fun o e => k5 _ o sI (hs₃.extBut _ o sC e)) (hst₂.2.at fun o e => k5 _ o aD (hs₃.extBut _ o aC e)) hl₅ (hn₃.at' fun o e => k5 _ o sDC.symm e) hDT (ob_EEEA hn₃ fun o _ _ e _ => nT C o e) (ob_EEEA F3.ns fun o _ _ e _ => nT _ o e) (ob_EA hst₂.1 fun o e _ => nT _ o (hs₃.extBut _ o sC e))
        (none_of fun o e => nT T o (F3.keep T o e) rfl) (hs₅.extBut _ _ (Nat.ne_of_gt hDT) hT) ⟨F3.ns.at' fun o e => k5 _ o sLD e,fun b o e => k5 b o (Nat.ne_of_lt (s0 b o e).1) (F3.keep b o e),F.above⟩ fun p hp => ⟨k5 _ _ (Nat.ne_of_lt (sN p hp).1) (N3 p hp).1,(N3 p hp).2⟩⟩
    | one T h' tk t1 t2 t3 m' i1 i2 hd hn o1 o2 o3 o4 hT0 hT F' N' =>
      refine W.done _ _ _ ⟨i1,i2⟩ fun h₂ tk₂ hk₂ => ?_
      have hk2 : ∀ b o,b ≠ I → h'.get? b = some o → h₂.get? b = some o := fun b o hb e => hk₂ b o (fun q => hb (List.mem_singleton.mp q)) e
      show wpAny _ A (assign (.Name y py) env (.ref D)) _ _ _
      refine wpAny_assign_Name (wpAny_storeName_local hy (F'.ns.at' fun o e => hk2 _ o sLI e) (fun h₃ hn₃ hs₃ => ?_) hp)
      dsimp only at hn₃ hs₃
      refine ⟨m',(hn.at' fun o e => hk2 _ o sC.symm e).sameBut hs₃ (Ne.symm sLC),fun h₄ hs₄ => ?_⟩
      have k4 : ∀ b o,b ≠ I → b ≠ env.locals → b ≠ C → h'.get? b = some o → h₄.get? b = some o := fun b o x1 x2 x3 e => hs₄.extBut b o x3 (hs₃.extBut b o x2 (hk2 b o x1 e))
      refine ob_EA (Heap.dictOf_iff.mp hd) fun oD hoD isD => ?_
      exact hcont T D oD h₄ _ t1 t2 t3 isD ⟨hn₃.sameBut hs₄ sLC,fun b o e => k4 b o (s0 b o e).2.1 (Nat.ne_of_lt (Nat.lt_of_lt_of_le (Heap.lt_size e) F.above)) (s0 b o e).2.2 (F'.keep b o e),F.above⟩
        (List.forall_mem_cons.mpr ⟨⟨k4 _ _ o4 o3 o2 hT,o3,hT0⟩,List.forall_mem_cons.mpr ⟨⟨k4 _ _ sI.symm sLD.symm sDC hoD,sLD.symm,D0⟩,fun p hp => ⟨k4 _ _ (sN p hp).2.1 (N' p hp).2.1 (sN p hp).2.2 (N' p hp).1,(N' p hp).2⟩⟩⟩) (fun p hp => (sN p hp).1) o1
  exact codeAny_compStart_dict loop (W.self 0 _ _ _ ⟨hI₁,hl⟩ loop)
end
theorem funFrames_mem {h base : Heap} {l : List Env} : h.FunFrames base l → ∀ env ∈ l,∃ L o,env.frame = some L ∧ h.get? L = some o := by
  induction l with
  | nil => intro _ env he; cases he
  | cons e l ih =>
    intro hl env he
    rcases List.mem_cons.mp he with rfl | he
    · (refine ob_AA hl fun _ z1q _ => ?_; try clear hl; obtain ⟨L,o,a,_,b,_⟩ := z1q)
      exact ⟨L,o,a,b⟩
    · exact ih hl.2.2 env he
theorem Pre.inner {K : Frag} {g base : Heap} {outer : List Env} {env : Env} {L : Addr} {s : Shared} {m mg mb : Str → Option Value} {news led : List (Addr × Obj)} {A₀ A : Around} {p : Program} {loose : List Str} {mean : ExcName → Option Value}
    (B : Below A₀ base outer g) (F : Fr g L s.heap m) (X : K.In g) (T : Top p loose mean mg mb g) (N : News g L s.heap news) (sub : ∀ q ∈ led,q ∈ news) (hA : A.frames = some (env :: outer)) (hf : env.frame = some L) (hke : env.scope.kind = .function)
    (hh : A.handled = none) (dp : A.depth + 20 < recursionLimit) (un : A.units + 300 < cLine) : Pre K g A s led base (env :: outer) where
  X := X
  T := ⟨_,_,_,_,_,T⟩
  up := F.keep
  N := fun q hq => ⟨(N q (sub q hq)).1,(N q (sub q hq)).2.2⟩
  B := ⟨hA,fun b o e => F.keep b o (B.stays b o e),(pushX B F hf hke).frames⟩
  bs := B.stays
  fr := fun env' he q hq e => by
    have z := N q (sub q hq)
    rcases List.mem_cons.mp he with rfl | he
    · rw [hf] at e
      exact z.2.1 (Option.some.inj e).symm
    · refine ob_EEA (funFrames_mem B.frames env' he) fun L' o e1 e2 => ?_
      rw [e1] at e
      rw [Option.some.inj e,z.2.2] at e2
      cases e2
  hh := hh
  dp := dp
  un := un
theorem pq_val {prog : Program} {w : World} {g base : Heap} {outer : List Env} {env env' : Env} {L : Addr} {s : Shared} {m mg mb m₂ : Str → Option Value} {news : List (Addr × Obj)} {A₀ A : Around} {p : Program} {loose : List Str} {mean : ExcName → Option Value} {Q : Value → Shared → Prop} {E : Value → Shared → Prop}
    {bw x dx ld ls ln dp lp : Nat} {tk : Nat → Tok} {seen done : Bool} {ti : Tok} {ns : Array Value} {n1 : Nat} {tag : Str} {tt : Tok} {l0 tx : Addr} {D : Nat} {oD oq : Obj} {q cq : Addr} {p1 p2 p3 : Pos}
    (B : Below A₀ base outer g) (F : Fr g L s.heap m) (X : (K0 w.params).In g) (T : Top p loose mean mg mb g) (N : News g L s.heap news) (hA : A.frames = some (env :: outer)) (hf : env.frame = some L) (hke : env.scope.kind = .function)
    (hh : A.handled = none) (hdp : A.depth + 20 < recursionLimit) (hun : A.units + 300 < cLine)
    (hkE : env'.scope.kind = .function) (kpq : env'.kindOf "parse_qname" = some .cell) (cpq : env'.cells.lookup (Str.ofString "parse_qname") = some cq) (kn : env'.kindOf "n" = some .local) (hn : s.heap.Ns env'.locals m₂) (hm₂ : m₂ "n" = some (.str tag tt))
    (hcq : (cq,oq) ∈ news) (dq : oq.data = .cell (some (.ref q))) (hq0 : (q,methodObj (.ref 114) (.ref x)) ∈ news) (i1 : (D,oD) ∈ news) (i2 : (ls,listOf ns n1) ∈ news) (i3 : (x,instObj 174 dx) ∈ news) (i4 : (dx,dictOf (wEnts w.params tk bw ld ls ln dp lp seen done ti) 17) ∈ news)
    (o1 : dx < x) (o2 : x < ls) (o3 : ls < D) (hDc : oD.cls = .type "dict") (z5 : tag.length ≤ 100) (hq : (PySem.Txt.slice tag none (some 1) == Str.ofString "{") = false) (hns : NsOk s.heap ns l0 tx) (hls : ∀ i : Nat,ns[i]? ≠ some (.ref ls))
    (k : ∀ (T : Nat) h' tk t1 t2 t3,h'.get? T = some (tupOf [.str tag t1,.str tag t2,.str "" t3].toArray) → s.heap.get? T = none → @LT.lt Nat _ D T → Kp s.heap h' → Q (.ref T) { s with heap := h',toks := tk,gens := s.gens.push .finished })
    : wpAny (model prog w) A (eval (.Call (.Name "parse_qname" p1) [.Name "n" p2] [] p3) env') Q E s := by
  refine Call_ ?_
  refine wpAny_Name (wpAny_loadName_cell hkE kpq cpq ⟨oq,(N _ hcq).1,dq⟩ ?_) (by decide)
  refine callWith_M X N hq0 (by first | k_is | kernel_rfl) ?_
  refine spliced_more ?_
  refine wpAny_Name (wpAny_loadName_local hkE kn hn hm₂ ?_) (by decide)
  refine spliced_none ?_
  refine ⟨methP N hq0 (X.keeps F.keep),?_⟩
  refine call_meth N hq0 ?_
  refine w_qname (bw := bw) (ld := ld) (ln := ln) (dp := dp) (lp := lp) (tk := tk) (seen := seen) (done := done) (ti := ti) (n1 := n1) (Pre.inner B F X T N ?sub hA hf hke hh hdp hun) o1 o2 o3 hDc z5 hq hns hls ?_
  case sub =>
    intro r hr
    simp only [List.mem_cons,List.not_mem_nil,or_false] at hr
    rcases hr with rfl | rfl | rfl | rfl <;> assumption
  intro T' h' tk' t1 t2 t3 a b c d
  exact k T' h' tk' t1 t2 t3 a b c d
noncomputable abbrev lamA (p : Pos) : Arguments := { posonlyargs := [],args := [{ arg := "n",annotation := none,pos := p }],vararg := none,kwonlyargs := [],kw_defaults := [],kwarg := none,defaults := [] }
noncomputable abbrev lamB (p1 p2 p3 p4 p5 : Pos) : Expr := .Call (.Attribute (.Name "n" p1) "split" p2) [.Constant (.str "}") 0 p3,.Constant (.int 1) 0 p4] [] p5
noncomputable abbrev lamS : Scope := { kind := .function,names := [("n",.local)],isGenerator := false,isCoroutine := false,more := [] }
theorem lam_body {prog : Program} {w : World} {Ag Au : Nat} {Ad : Option (List Code)} {base h h₁ : Heap} {outer : List Env} {p : Program} {loose : List Str} {mean : ExcName → Option Value} {mg mb : Str → Option Value} {f c' : Addr} {qual : Str} {p1 p2 p3 p4 p5 : Pos} {tag : Str} {tt : Tok} {L' : Nat}
    {g : Array GenState} {d : Drawn} {tk : Nat} {os : OsState} {Q E : Value → Shared → Prop}
    (B' : Below ⟨none,Ag,some outer,Ad,Au⟩ base outer h) (X' : (K0 w.params).In h) (T' : Top p loose mean mg mb h) (F' : Fr h L' h₁ (fun y => [(Str.ofString "n",Value.str tag tt)].reverse.lookup y)) (N' : News h L' h₁ []) (hdp : Ag + 10 < recursionLimit) (hun : Au + 200 < cLine) (z5 : tag.length ≤ 100)
    (he : ∀ (L' f c' : Addr),∃ pl : Sem Bool,eval (.Call (.Attribute (.Name "n" p1) "split" p2) [.Constant (.str "}") 0 p3,.Constant (.int 1) 0 p4] [] p5) (envX qual lamS L' f (.ref c') []) = (do
      let ov ← eval (.Name "n" p1) (envX qual lamS L' f (.ref c') [])
      standAt p2.atName
      let (f',first) ← holding [ov] (getMethod ov "split" pl)
      callWith p5 f' first (backTo p5 (starEach [.Constant (.str "}") 0 p3,.Constant (.int 1) 0 p4] (envX qual lamS L' f (.ref c') []))) []))
    (hQ : ∀ v h' tk',Kp h h' → Q v ⟨h',g,d,tk',os⟩) :
    wpAny (model prog w) (Around.deeper ⟨none,Ag,some outer,Ad,Au⟩ (envX qual lamS L' f (.ref c') [])) (eval (.Call (.Attribute (.Name "n" p1) "split" p2) [.Constant (.str "}") 0 p3,.Constant (.int 1) 0 p4] [] p5) (envX qual lamS L' f (.ref c') [])) Q E ⟨h₁,g,d,tk,os⟩ := by
  refine ob_E (he L' f c') fun pl he => ?_
  refine MethodCall_ ?_ he
  k_steps
  rename Fr _ _ _ _ => FF
  exact hQ _ _ _ FF.keep
theorem lam_turn {prog : Program} {w : World} {A : Around} {base : Heap} {outer : List Env} {s : Shared} {p : Program} {loose : List Str} {mean : ExcName → Option Value} {mg mb : Str → Option Value} {f c' : Addr} {qual : Str} {pm ctv : Value} {p0 p1 p2 p3 p4 p5 : Pos} {tag : Str} {tt : Tok}
    (B : Below A base outer s.heap) (X : (K0 w.params).In s.heap) (T : Top p loose mean mg mb s.heap) (ho : s.heap.get? f = some (kla_obj "<lambda>" qual (lamA p0) (lamB p1 p2 p3 p4 p5) lamS [] pm c' ctv)) (hcd : s.heap.CodeRec (.ref c') qual)
    (hh : A.handled = none) (hdp : A.depth + 10 < recursionLimit) (hun : A.units + 200 < cLine) (z5 : tag.length ≤ 100)
    (he : ∀ (L' f c' : Addr),∃ pl : Sem Bool,eval (.Call (.Attribute (.Name "n" p1) "split" p2) [.Constant (.str "}") 0 p3,.Constant (.int 1) 0 p4] [] p5) (envX qual lamS L' f (.ref c') []) = (do
      let ov ← eval (.Name "n" p1) (envX qual lamS L' f (.ref c') [])
      standAt p2.atName
      let (f',first) ← holding [ov] (getMethod ov "split" pl)
      callWith p5 f' first (backTo p5 (starEach [.Constant (.str "}") 0 p3,.Constant (.int 1) 0 p4] (envX qual lamS L' f (.ref c') []))) []))
    : ∀ h tk,Kp s.heap h → wpAny (model prog w) A (call (.ref f) [.str tag tt]) (fun _ s₂ => ∃ h' tk',s₂ = { s with heap := h',toks := tk' } ∧ Kp h h') (fun _ _ => False) { s with heap := h,toks := tk } := by
  intro h tk kp
  refine wpAny_call ?_
  refine kla_callFunE (by exact Nat.lt_of_le_of_lt (Nat.le_add_right _ _) (by assumption)) (kp _ _ ho) rfl rfl rfl rfl (hcd.keeps kp) ?_
  refine wpAny_of_eq (a := [(Str.ofString "n",Value.str tag tt)]) rfl ?_
  refine wpAny_newFunctionEnv (show ∀ x ∈ lamS.names,x.2 ≠ .cell by decide) (show ∀ y ∈ [(Str.ofString "n",Value.str tag tt)],lamS.names.lookup y.1 = some .local from locs rfl) (fun h₁ hns hsb => ⟨(T.nolimit.keeps kp).fresh _ hsb,?_⟩) rfl
  show codeAny _ _ (.expr (lamB p1 p2 p3 p4 p5) (envX qual lamS h.objs.size f (.ref c') [])) _ _
  refine kla_codeExpr ?_
  have hk₁ : Kp h h₁ := fun b o e => hsb.extBut b o (Nat.ne_of_lt (Heap.lt_size e)) (Heap.get?_push_of_some _ e)
  have F' : Fr h h.objs.size h₁ (fun y => [(Str.ofString "n",Value.str tag tt)].reverse.lookup y) := ⟨hns,hk₁,Nat.le_refl _⟩
  have N' : News h h.objs.size h₁ [] := fun _ hp => nomatch hp
  have X' : (K0 w.params).In h := fun a o e => kp a o (X a o e)
  have T' := T.keeps kp
  have B' : Below A base outer h := ⟨B.stack,fun b o e => kp b o (B.stays b o e),B.frames.of_keeps fun b o e _ => ⟨o,kp b o e,rfl⟩⟩
  rcases A with ⟨Af,Ag,Ah,Ad,Au⟩
  dsimp only at hdp hun hh
  have hA := B.stack
  dsimp only at hA
  subst hA hh
  generalize h.objs.size = L' at F' N' ⊢
  exact lam_body B' X' T' F' N' hdp hun z5 he fun v h' tk' K => ⟨h',tk',rfl,K⟩
noncomputable def TabS (h : Heap) (ln cn : Nat) (qual : Str) (tps : Array Value) : Prop := tps = #[] ∨ ∃ c' : Addr,tps = #[rawInt ln,rawInt cn,.ref c'] ∧ h.CodeRec (.ref c') qual
theorem TabS.keep {h h' : Heap} {ln cn : Nat} {qual : Str} {tps : Array Value} (x : TabS h ln cn qual tps) (k : ∀ b o,h.get? b = some o → h'.get? b = some o) : TabS h' ln cn qual tps := x.imp id fun ⟨c',e,r⟩ => ⟨c',e,r.keeps k⟩
noncomputable def noCode (o : Obj) : Prop := ∀ vs,o.data = .fields vs → ∀ q t,vs[1]? ≠ some (.str q t)
theorem TabS.hide {h g : Heap} {ln cn : Nat} {qual : Str} {tps : Array Value} {led : List (Addr × Obj)} (x : TabS h ln cn qual tps) (N : ∀ q ∈ led,h.get? q.1 = some q.2) (nc : ∀ q ∈ led,noCode q.2) (k : ∀ a o,h.get? a = some o → a ∉ led.map (·.1) → g.get? a = some o) : TabS g ln cn qual tps :=
  x.imp id fun ⟨c',e,c,o,vs,t,e1,e2,e3,e4⟩ => ⟨c',e,c,o,vs,t,e1,k c o e2 fun hm => by
    (refine ob_EA (List.mem_map.mp hm) fun q hq z1q => ?_; obtain rfl := z1q)
    rw [N q hq] at e2
    exact nc q hq vs (Option.some.inj e2 ▸ e3) _ _ e4,e3,e4⟩
section
variable {M : Model} {A : Around} {E : Value → Shared → Prop} {s : Shared} {h₀ : Heap} {L a : Addr} {m mg mb : Str → Option Value} {cn : Str} {cs : Scope} {ccd : Value} {cl : List (Str × Addr)} {news : List (Addr × Obj)} {g : Obj → List (Addr × Obj)}
  {p : Program} {loose : List Str} {mean : ExcName → Option Value} {params : Arguments} {body : Expr} {scope : Scope} {tps : Array Value} {pos : Pos}
theorem among3 {pos : Pos} {v : Value} : codeAmong pos [rawInt pos.line,rawInt pos.col,v] = some v := by simp [codeAmong,rawInt]
theorem lam_make {Q : Value → Shared → Prop} {c P : Addr} (F : Fr h₀ L s.heap m) (N : News h₀ L s.heap news) (T : Top p loose mean mg mb h₀) (C : CodeHd h₀ c P) (hcd : ccd = .ref c) (U : UpdF P (tabObj tps) news g) (H : TabS h₀ pos.line pos.col (cn ++ ".<locals>." ++ "<lambda>") tps)
    (hcl : closureFor scope (envX cn cs L a ccd cl) = pure []) (hdef : defaultsOf params (envX cn cs L a ccd cl) = ([], []))
    (h : ∀ (f c'' : Nat) (c' : Addr) oc ctv h' tk tps',Fr h₀ L h' m → News h₀ L h' ((f,kla_obj "<lambda>" (cn ++ ".<locals>." ++ "<lambda>") params body scope [] ((mg "__name__").getD .none) c' ctv) :: (c'',oc) :: g (tabObj tps')) → (∀ q ∈ news,@LT.lt Nat _ q.1 c'') → c'' ≤ f →
      (∀ h'',h''.get? c'' = some oc → (∀ b o,h₀.get? b = some o → h''.get? b = some o) → TabS h'' pos.line pos.col (cn ++ ".<locals>." ++ "<lambda>") tps' ∧ h''.CodeRec (.ref c') (cn ++ ".<locals>." ++ "<lambda>")) → Q (.ref f) { s with heap := h',toks := tk }) :
    wpAny M A (eval (.Lambda params body scope pos) (envX cn cs L a ccd cl)) Q E s := by
  refine kla_eval hdef ?_
  rcases H with rfl | ⟨c',rfl,hr⟩
  · refine kla_nest F N T C hcd U trivial rfl hcl fun f c' oc vs t ctv h' tk F' N' hd hv l1 l2 => ?_
    rw [show (#[] : Array Value) ++ #[rawInt pos.line,rawInt pos.col,.ref c'] = #[rawInt pos.line,rawInt pos.col,.ref c'] by simp] at N'
    exact h f c' c' oc ctv h' tk _ F' N' l1 (Nat.le_of_lt l2) fun h'' e k => ⟨.inr ⟨c',rfl,c',oc,vs,t,rfl,e,hd,hv⟩,c',oc,vs,t,rfl,e,hd,hv⟩
  · have hm : (P,tabObj #[rawInt pos.line,rawInt pos.col,.ref c']) ∈ news ∧ g (tabObj #[rawInt pos.line,rawInt pos.col,.ref c']) = news := by
      (refine ob_EEAAA U.split fun own rest z2q hgr h1 h2 => ?_; obtain rfl := z2q)
      exact ⟨List.mem_append_right _ (.head _),hgr _⟩
    refine kla_hit F N T C hcd hm.1 trivial among3 hcl fun f ctv h' tk F' N' l1 => ?_
    refine h f f c' (kla_obj "<lambda>" (cn ++ ".<locals>." ++ "<lambda>") params body scope [] ((mg "__name__").getD .none) c' ctv) ctv h' tk #[rawInt pos.line,rawInt pos.col,.ref c'] F' ?_ l1 (Nat.le_refl _) fun h'' e k => ⟨.inr ⟨c',rfl,hr.keeps k⟩,hr.keeps k⟩
    rw [hm.2]
    exact fun q hq => by
      rcases List.mem_cons.mp hq with rfl | hq
      · exact N' _ List.mem_cons_self
      · rcases List.mem_cons.mp hq with rfl | hq
        · exact N' _ List.mem_cons_self
        · exact N' q (List.mem_cons_of_mem _ hq)
end
theorem sorted_step {prog : Program} {w : World} {A A₀ : Around} {E : Value → Shared → Prop} {h₀ base : Heap} {outer : List Env} {env : Env} {L : Addr} {m mg mb : Str → Option Value} {news : List (Addr × Obj)} {s : Shared} {p : Program} {loose : List Str} {mean : ExcName → Option Value} {f c' : Addr} {qual : Str} {pm ctv : Value} {p0 p1 p2 p3 p4 p5 : Pos} {tag : Str} {tt : Tok}
    {D : Nat} {hs : Int} {ep : Nat} {t : SetTable} {Q : Value → Shared → Prop}
    (hh : A.handled = none) (B : Below A₀ base outer h₀) (F : Fr h₀ L s.heap m) (N : News h₀ L s.heap news) (X : (K0 w.params).In h₀) (T : Top p loose mean mg mb h₀) (hA : A.frames = some (env :: outer)) (hfr : env.frame = some L) (hke : env.scope.kind = .function)
    (hD : (D,setO hs (.str tag tt) ep t) ∈ news) (o : One (!(w.params.followText "set-order")) t) (hf : (f,kla_obj "<lambda>" qual (lamA p0) (lamB p1 p2 p3 p4 p5) lamS [] pm c' ctv) ∈ news) (hcd : s.heap.CodeRec (.ref c') qual)
    (hdp : A.depth + 20 < recursionLimit) (hun : A.units + 300 < cLine) (z5 : tag.length ≤ 100)
    (he : ∀ (L' f c' : Addr),∃ pl : Sem Bool,eval (.Call (.Attribute (.Name "n" p1) "split" p2) [.Constant (.str "}") 0 p3,.Constant (.int 1) 0 p4] [] p5) (envX qual lamS L' f (.ref c') []) = (do
      let ov ← eval (.Name "n" p1) (envX qual lamS L' f (.ref c') [])
      standAt p2.atName
      let (f',first) ← holding [ov] (getMethod ov "split" pl)
      callWith p5 f' first (backTo p5 (starEach [.Constant (.str "}") 0 p3,.Constant (.int 1) 0 p4] (envX qual lamS L' f (.ref c') []))) []))
    (h : ∀ (D' : Nat) h' tk c,Fr h₀ L h' m → News h₀ L h' news → (∀ p ∈ news,@LT.lt Nat _ p.1 D') → h'.get? D' = some (seqObj "list" #[.str tag tt] c) → Q (.ref D') { s with heap := h',toks := tk }) :
    wpAny (model prog w) A (call (.builtin "sorted") [.ref D] [(Str.ofString "key",.ref f)]) Q E s := by
  have BB := pushX B F hfr hke
  refine sorted1 (v := .str tag tt) hh (N _ hD).1 o (lam_turn (s := s) (outer := env :: outer) (base := base) ⟨hA,BB.stays,BB.frames⟩ (X.keeps F.keep) (T.keeps F.keep) (N _ hf).1 hcd hh ?_ ?_ z5 he) fun D' h' tk c n0 nl K e => ?_
  · show A.depth + 10 < recursionLimit
    lia
  · show A.units + 1 + 1 + 200 < cLine
    lia
  · exact h D' h' tk c (F.kept K) (N.grown K) (fun p hp => nl _ _ (N p hp).1) e
theorem NsOk.push {h : Heap} {ns : Array Value} {l0 tx l' : Addr} {n : Nat} (x : NsOk h ns l0 tx) (e : h.get? l' = some (listOf (List.toArray []) n)) : NsOk h (ns.push (.ref l')) l0 tx := by
  (refine ob_AAA x fun a b c d => ?_; try clear x)
  have hs : 0 < ns.size := (Array.getElem?_eq_some_iff.mp a).1
  refine ⟨by rw [Array.getElem?_push_lt hs, ← a,Array.getElem?_eq_getElem hs],b,fun i hi v hv => ?_,d⟩
  rw [Array.getElem?_push] at hv
  split at hv
  · cases hv
    exact ⟨l',rfl,_,e,rfl,_,rfl⟩
  · exact c i hi v hv
theorem push_ne {ns : Array Value} {l' ls : Addr} (x : ∀ i : Nat,ns[i]? ≠ some (.ref ls)) (e : l' ≠ ls) : ∀ i : Nat,(ns.push (.ref l'))[i]? ≠ some (.ref ls) := fun i q => by
  rw [Array.getElem?_push] at q
  split at q
  · exact e (Value.ref.inj (Option.some.inj q))
  · exact x i q
theorem NsOk.hide {h g : Heap} {ns : Array Value} {l0 tx : Addr} {led : List (Addr × Obj)} (x : NsOk h ns l0 tx) (hk : ∀ a o,h.get? a = some o → a ∉ led.map (·.1) → g.get? a = some o) (N : ∀ q ∈ led,h.get? q.1 = some q.2) (ht : ∀ q ∈ led,q.2.cls ≠ .type "tuple") (hl : ∀ i : Nat,∀ a,ns[i]? = some (.ref a) → a ∉ led.map (·.1)) : NsOk g ns l0 tx := by
  have kl : ∀ {a : Addr} {items : Array Value},h.IsList a items → a ∉ led.map (·.1) → g.IsList a items := fun ⟨o,ho,r⟩ hn => ⟨o,hk _ o ho hn,r⟩
  (refine ob_AAAEEEAA x fun a b c u1 u2 o ho hc r => ?_; try clear x)
  refine ⟨a,kl b (hl 0 _ a),fun i hi v hv => ?_,u1,u2,o,hk _ o ho fun hm => ?_,hc,r⟩
  · (refine ob_EA (c i hi v hv) fun e z3q he => ?_; obtain rfl := z3q)
    exact ⟨e,rfl,kl he (hl i e hv)⟩
  · (refine ob_EA (List.mem_map.mp hm) fun q hq z4q => ?_; obtain rfl := z4q)
    rw [N q hq] at ho
    exact ht q hq (Option.some.inj ho ▸ hc)
theorem nt_l {vs : Array Value} {n : Nat} : (W.listOf vs n).cls ≠ .type "tuple" := fun e => absurd (Value.type.inj e) (by decide)
theorem nt_d {es : List DictEntry} {n : Nat} : (dictOf es n).cls ≠ .type "tuple" := fun e => absurd (Value.type.inj e) (by decide)
theorem nt_i {c d : Addr} : (instObj c d).cls ≠ .type "tuple" := by intro e; cases e
theorem nt_b {l : Addr} : (boundO l).cls ≠ .type "tuple" := fun e => absurd (Value.type.inj e) (by decide)
theorem nt_t {vs : Array Value} : (tabObj vs).cls ≠ .type "tuple" := by intro e; first | (cases e; done) | exact absurd e (by decide)
theorem nc_l {vs : Array Value} {n : Nat} : noCode (W.listOf vs n) := by intro vs e1; cases e1
theorem nc_d {es : List DictEntry} {n : Nat} : noCode (dictOf es n) := by intro vs e1; cases e1
theorem nc_i {c d : Addr} : noCode (instObj c d) := by
  intro vs e1 r t e2
  first | (cases e1; done) | (obtain rfl := Data.fields.inj e1; simp at e2; done)
theorem nc_b {l : Addr} : noCode (boundO l) := by
  intro vs e1 r t e2
  obtain rfl := Data.fields.inj e1
  simp at e2
theorem nc_t {h : Heap} {ln cn : Nat} {qual : Str} {tps : Array Value} (hT : TabS h ln cn qual tps) : noCode (tabObj tps) := by
  intro vs e1 r t e2
  obtain rfl := Data.fields.inj e1
  rcases hT with rfl | ⟨c',rfl,_⟩ <;> simp [rawInt] at e2
theorem newsAll {g h : Heap} {L : Addr} {news l : List (Addr × Obj)} (N : News g L h news) (s : ∀ q ∈ l,q ∈ news) : ∀ q ∈ l,h.get? q.1 = some q.2 := fun q hq => (N q (s q hq)).1
theorem qname_call {prog : Program} {w : World} {g base : Heap} {outer : List Env} {env : Env} {L : Addr} {s : Shared} {m mg mb : Str → Option Value} {news : List (Addr × Obj)} {A₀ A : Around} {p : Program} {loose : List Str} {mean : ExcName → Option Value} {Q : Value → Shared → Prop} {E : Value → Shared → Prop}
    {bw x dx ld ls ln dp lp : Nat} {tk : Nat → Tok} {seen done : Bool} {ti : Tok} {ns : Array Value} {n1 : Nat} {tag : Str} {tt : Tok} {l0 tx : Addr} {D : Nat}
    (B : Below A₀ base outer g) (F : Fr g L s.heap m) (X : (K0 w.params).In g) (T : Top p loose mean mg mb g) (N : News g L s.heap news) (hA : A.frames = some (env :: outer)) (hf : env.frame = some L) (hke : env.scope.kind = .function)
    (hh : A.handled = none) (hdp : A.depth + 20 < recursionLimit) (hun : A.units + 300 < cLine)
    (i1 : (D,dictOf [] 0) ∈ news) (i3 : (x,instObj 174 dx) ∈ news) (i4 : (dx,dictOf (wEnts w.params tk bw ld ls ln dp lp seen done ti) 17) ∈ news) (i2 : (ls,listOf ns n1) ∈ news)
    (o1 : dx < x) (o2 : x < ls) (o3 : ls < D) (z5 : tag.length ≤ 100) (hq : (PySem.Txt.slice tag none (some 1) == Str.ofString "{") = false) (hns : NsOk s.heap ns l0 tx) (hls : ∀ i : Nat,ns[i]? ≠ some (.ref ls))
    (k : ∀ (T : Nat) h' tk t1 t2 t3,Fr g L h' m → News g L h' ((T,tupOf [.str tag t1,.str tag t2,.str "" t3].toArray) :: news) → (∀ p ∈ news,@Ne Nat p.1 T) → Q (.ref T) { s with heap := h',toks := tk,gens := s.gens.push .finished })
    : wpAny (model prog w) A (call (.ref 114) [.ref x,.str tag tt]) Q E s := by
  refine wpAny_call ?_
  refine w_qname (bw := bw) (ld := ld) (ln := ln) (dp := dp) (lp := lp) (tk := tk) (seen := seen) (done := done) (ti := ti) (n1 := n1) (D := D) (oD := dictOf [] 0) (Pre.inner B F X T N ?sub hA hf hke hh hdp hun) o1 o2 o3 rfl z5 hq hns hls ?_
  case sub =>
    intro r hr
    simp only [List.mem_cons,List.not_mem_nil,or_false] at hr
    rcases hr with rfl | rfl | rfl | rfl <;> assumption
  intro T' h' tk' t1 t2 t3 a b c d
  refine k T' h' tk' t1 t2 t3 (F.kept d) (fun p hp => ?_) fun p hp e => ?_
  · rcases List.mem_cons.mp hp with rfl | hp
    · refine ⟨a,fun e => ?_,?_⟩
      · refine ob_EEEA F.ns fun o _ _ e1 _ => ?_
        rw [← show T' = L from e,b] at e1
        cases e1
      · cases e : g.get? T' with
        | none => rfl
        | some o =>
          have := F.keep _ _ e
          rw [b] at this
          cases this
    · exact N.grown d p hp
  · have := (N p hp).1
    rw [show p.1 = T' from e,b] at this
    cases this
theorem pop_push {prog : Program} {w : World} {A : Around} {E : Value → Shared → Prop} {s : Shared} {h₀ : Heap} {L D : Addr} {m : Str → Option Value} {news news' : List (Addr × Obj)} {its : Array Value} {n : Nat} {y : Value} {Q : Value → Shared → Prop}
    (F : Fr h₀ L s.heap m) (N : News h₀ L s.heap news) (U : Upd D (listOf (its.push y) n) (listOf its (n + 1)) news news') (hz : its.size + 1 ≤ sizeLine) (h : ∀ h',Fr h₀ L h' m → News h₀ L h' news' → Q y { s with heap := h' }) : wpAny (model prog w) A (call (.builtin "list.pop") [.ref D]) Q E s := by
  have e : kl_last (its.push y).toList = some (its.toList,y) := by rw [Array.toList_push]; exact kpa_last y _
  have U' : Upd D (listOf (its.push y) n) (listOf its.toList.toArray (n + 1)) news news' := by rw [Array.toArray_toList]; exact U
  exact kl_pop F N e U' (by rw [Array.length_toList,Array.size_push]; exact hz) h
theorem eval_dict0 {prog : Program} {w : World} {A : Around} {E : Value → Shared → Prop} {s : Shared} {h₀ : Heap} {L : Addr} {m : Str → Option Value} {news : List (Addr × Obj)} {env : Env} {pos : Pos} {Q : Value → Shared → Prop} (F : Fr h₀ L s.heap m) (N : News h₀ L s.heap news)
    (h : ∀ (d : Nat) h',Fr h₀ L h' m → News h₀ L h' ((d,dictOf [] 0) :: news) → (∀ p ∈ news,@LT.lt Nat _ p.1 d) → Q (.ref d) { s with heap := h' }) : wpAny (model prog w) A (eval (.Dict [] [] pos) env) Q E s := by
  rw [eval_Dict_empty]
  refine wpAny_bind (wpAny_standAt (wpAny_newObj_type ?_))
  exact h _ _ (F.push _) (News.push F N (dictOf [] 0) rfl) fun p hp => Heap.lt_size (N p hp).1
section
variable {d : Addr} {o o' : Obj} {p : Addr × Obj} {r r' : List (Addr × Obj)} {g : Obj → List (Addr × Obj)}
theorem allLt_ne (h : AllLt d r) : ∀ p ∈ r,p.1 ≠ d := by
  induction r with
  | nil => exact List.forall_mem_nil _
  | cons q t ih => exact List.forall_mem_cons.mpr ⟨Nat.ne_of_lt h.1,ih h.2⟩
noncomputable def AllNe (d : Addr) : List (Addr × Obj) → Prop
  | [] => True
  | p :: r => @Ne Nat p.1 d ∧ AllNe d r
theorem allNe_of : ∀ {l : List (Addr × Obj)},(∀ p ∈ l,@Ne Nat p.1 d) → AllNe d l
  | [],_ => trivial
  | p :: _,h => ⟨h p (.head _),allNe_of fun q hq => h q (.tail _ hq)⟩
noncomputable def UD (d : Addr) (o o' : Obj) (l l' : List (Addr × Obj)) : Prop := Upd d o o' l l' ∧ ∀ e : Nat,(AllLt e l → @LT.lt Nat _ d e) ∧ (AllNe e l → @Ne Nat d e)
theorem UD.head (h : AllLt d r) : UD d o o' ((d,o) :: r) ((d,o') :: r) := ⟨.head (allLt_ne h),fun _ => ⟨fun k => k.1,fun k => k.1⟩⟩
theorem UD.tail (h : AllLt p.1 r) (u : UD d o o' r r') : UD d o o' (p :: r) (p :: r') := ⟨.tail (Nat.ne_of_gt ((u.2 _).1 h)) u.1,fun _ => ⟨fun k => (u.2 _).1 k.2,fun k => (u.2 _).2 k.2⟩⟩
theorem UD.tailN (h : AllNe p.1 r) (u : UD d o o' r r') : UD d o o' (p :: r) (p :: r') := ⟨.tail (Ne.symm ((u.2 _).2 h)) u.1,fun _ => ⟨fun k => (u.2 _).1 k.2,fun k => (u.2 _).2 k.2⟩⟩
theorem UD.tail2 {q : Addr × Obj} (e : @LE.le Nat _ q.1 p.1) (h : AllLt q.1 r) (u : UD d o o' r r') : UD d o o' (p :: q :: r) (p :: q :: r') := ⟨.tail (Nat.ne_of_gt (Nat.lt_of_lt_of_le ((u.2 _).1 h) e)) (u.tail h).1,fun _ => ⟨fun k => (u.2 _).1 k.2.2,fun k => (u.2 _).2 k.2.2⟩⟩
theorem UD.upd (u : UD d o o' r r') : Upd d o o' r r' := u.1
noncomputable def UG (d : Addr) (o : Obj) (l : List (Addr × Obj)) (g : Obj → List (Addr × Obj)) : Prop := UpdF d o l g ∧ ∀ e : Nat,(AllLt e l → @LT.lt Nat _ d e) ∧ (AllNe e l → @Ne Nat d e)
theorem UG.head (h : AllLt d r) : UG d o ((d,o) :: r) (fun o' => (d,o') :: r) := ⟨.head (allLt_ne h),fun _ => ⟨fun k => k.1,fun k => k.1⟩⟩
theorem UG.tail (h : AllLt p.1 r) (u : UG d o r g) : UG d o (p :: r) (fun o' => p :: g o') := ⟨.tail (Nat.ne_of_gt ((u.2 _).1 h)) u.1,fun _ => ⟨fun k => (u.2 _).1 k.2,fun k => (u.2 _).2 k.2⟩⟩
theorem UG.tailN (h : AllNe p.1 r) (u : UG d o r g) : UG d o (p :: r) (fun o' => p :: g o') := ⟨.tail (Ne.symm ((u.2 _).2 h)) u.1,fun _ => ⟨fun k => (u.2 _).1 k.2,fun k => (u.2 _).2 k.2⟩⟩
theorem UG.upd (u : UG d o r g) : UpdF d o r g := u.1
theorem allLt_cons {a b : Addr} (h : @LT.lt Nat _ b a) (k : AllLt b r) : AllLt a ((b,o) :: r) :=
  ⟨h,by induction r with
    | nil => trivial
    | cons q t ih => exact ⟨Nat.lt_trans k.1 h,ih k.2⟩⟩
theorem allLt_up {a : Nat} (k : AllLt a r) : AllLt (a + 1) r := by
  induction r with
  | nil => trivial
  | cons q t ih => exact ⟨Nat.lt_succ_of_lt k.1,ih k.2⟩
theorem allLt_up2 {a : Nat} (k : AllLt a r) : AllLt (a + 1 + 1) ((a + 1,o) :: r) := ⟨Nat.lt_succ_self _,allLt_up (allLt_up k)⟩
end
theorem md_lk : typeLookup (.type "list") "append" = pure (some (.builtin "list.append")) := by rw [typeLookup_type,builtinLookup_eq_fast]; kernel_rfl
theorem md_ty : typeOf (.builtin "list.append") = pure (.type "method_descriptor") := by kernel_rfl
theorem md_get : Slot "method_descriptor" "__get__" "method_descriptor.__get__" :=
  .of (owner := "method_descriptor") (n := "__get__") (by rw [typeLookup_type,builtinLookup_eq_fast]; kernel_rfl) (by decide +kernel) (by decide +kernel) (by decide +kernel)
    (by first | exact .inl (by decide +kernel) | exact .inr (by decide +kernel)) (by rw [isSubtype_type]; kernel_rfl)
theorem md_noset : typeLookup (.type "method_descriptor") "__set__" = pure none := by rw [typeLookup_type,builtinLookup_eq_fast]; kernel_rfl
theorem md_nodel : typeLookup (.type "method_descriptor") "__delete__" = pure none := by rw [typeLookup_type,builtinLookup_eq_fast]; kernel_rfl
theorem md_entry : entryFor table "method_descriptor.__get__" = some Builtin.«method_descriptor.__get__» := entryFor_of_tree (by kernel_rfl)
theorem md_args (a b c : Value) : argsOk "method_descriptor.__get__" ⟨[a,b,c], []⟩ := by unfold argsOk; kernel_rfl
theorem md_told : Manifest.toldItsClass.contains "list.append" = false := by decide +kernel
theorem md_owner : (".".intercalate ("list.append".cutAt '.').dropLast) = "list" := by
  have e0 : "list.append".cutAt '.' = ["list", "append"] := by first | rfl | decide +kernel
  rw [e0]; decide +kernel
theorem md_sub : isSubtype (.type "list") (.type (".".intercalate ("list.append".cutAt '.').dropLast)) = pure true := by
  rw [md_owner,isSubtype_type]; kernel_rfl
theorem md_call {prog : Program} {w : World} {A : Around} {h : Heap} {g : Array GenState} {d : Drawn} {t : Nat} {os : OsState} {a : Addr} {o : Obj} {R : Result → Shared → Prop} (hx : h.get? a = some o) (hc : o.cls = .type "list") (hq : R (.ok (.ret (.ref h.objs.size))) ⟨h.push (boundO a),g,d,t,os⟩) :
    codeAny (model prog w) A (.call (.builtin "method_descriptor.__get__") ⟨[.builtin "list.append",.ref a,.type "list"], []⟩) R ⟨h,g,d,t,os⟩ := by
  have hT : (⟨h,g,d,t,os⟩ : Shared).TypeIs (.ref a) "list" := ⟨_,hx,hc⟩
  have hT5 : (⟨h,g,d,t,os⟩ : Shared).TypeIs (.builtin "list.append") "method_descriptor" := md_ty
  have f8 := md_sub
  have f9 := md_told
  refine codeAny_call_builtin md_get.plain md_entry (md_get.check _ _ _ _ _ _ _ _ hT5 (md_args _ _ _) ?_)
  repeat (any_goals (first | assumption | wp_step))
theorem md_ga {prog : Program} {w : World} {A : Around} {E : Value → Shared → Prop} {h : Heap} {g : Array GenState} {d : Drawn} {t : Nat} {os : OsState} {a : Addr} {its : Array Value} {n : Nat} {tk : Tok} {Q : Fin → Shared → Prop} (hx : h.get? a = some (W.listOf its n)) (hq : Q (.done (.ret (.ref h.objs.size))) ⟨h.push (boundO a),g,d,t,os⟩) :
    wpAny (model prog w) A (Builtin.«object.__getattribute__» ⟨[.ref a,.str "append" tk], []⟩) Q E ⟨h,g,d,t,os⟩ := by
  have hT : (⟨h,g,d,t,os⟩ : Shared).TypeIs (.ref a) "list" := ⟨_,hx,rfl⟩
  have hT5 : (⟨h,g,d,t,os⟩ : Shared).TypeIs (.builtin "list.append") "method_descriptor" := md_ty
  have f4 := md_lk
  have f5 := md_ty
  have f6 := md_get.lookup
  have f7 := md_noset
  have f8 := md_nodel
  repeat (any_goals (first | assumption | wp_step))
  refine md_call hx rfl ?_
  repeat (any_goals (first | assumption | wp_step))
theorem md_gac {prog : Program} {w : World} {A : Around} {h : Heap} {g : Array GenState} {d : Drawn} {t : Nat} {os : OsState} {a : Addr} {its : Array Value} {n : Nat} {tk : Tok} {R : Result → Shared → Prop} (hx : h.get? a = some (W.listOf its n)) (hq : R (.ok (.ret (.ref h.objs.size))) ⟨h.push (boundO a),g,d,t,os⟩) :
    codeAny (model prog w) A (.call (.builtin "list.__getattribute__") ⟨[.ref a,.str "append" tk], []⟩) R ⟨h,g,d,t,os⟩ :=
  codeAny_call_builtin F.slot_list_getattribute.plain F.entry_list_ga (F.slot_list_getattribute.check _ _ _ _ _ _ _ _ (show (⟨h,g,d,t,os⟩ : Shared).TypeIs (.ref a) "list" from ⟨_,hx,rfl⟩) (F.args_list_getattribute_2 _ _) (md_ga hx hq))
theorem md_attr {prog : Program} {w : World} {A : Around} {E : Value → Shared → Prop} {h : Heap} {g : Array GenState} {d : Drawn} {t : Nat} {os : OsState} {a : Addr} {its : Array Value} {n : Nat} {Q : Value → Shared → Prop} (hx : h.get? a = some (W.listOf its n)) (hq : Q (.ref h.objs.size) ⟨h.push (boundO a),g,d,t + 1,os⟩) :
    wpAny (model prog w) A (getAttr (.ref a) "append" true) Q E ⟨h,g,d,t,os⟩ := by
  have hT : ∀ tk',(⟨h,g,d,tk',os⟩ : Shared).TypeIs (.ref a) "list" := fun _ => ⟨_,hx,rfl⟩
  have f3 := F.slot_list_getattribute.lookup
  have f4 := F.slot_list_getattribute.bind (.ref a)
  unfold getAttr getAttrBy
  repeat (any_goals (first | assumption | exact hT _ | wp_step))
  refine md_gac hx ?_
  repeat (any_goals (first | assumption | exact hT _ | wp_step))
theorem get_append {prog : Program} {w : World} {A : Around} {E : Value → Shared → Prop} {s : Shared} {g : Heap} {L : Addr} {m : Str → Option Value} {news : List (Addr × Obj)} {a : Addr} {its : Array Value} {n : Nat} {Q : Value → Shared → Prop} (F : Fr g L s.heap m) (N : News g L s.heap news) (hm : (a,W.listOf its n) ∈ news)
    (h : ∀ (u : Nat) h',Fr g L h' m → News g L h' ((u,boundO a) :: news) → (∀ q ∈ news,@LT.lt Nat _ q.1 u) → Q (.ref u) { s with heap := h',toks := s.toks + 1 }) : wpAny (model prog w) A (getAttr (.ref a) "append" true) Q E s := by
  refine md_attr (N _ hm).1 ?_
  exact h _ _ (F.push _) (News.push F N (boundO a) rfl) fun p hp => Heap.lt_size (N p hp).1
noncomputable def nmL : List (Str × Tok × Value) := [(Str.ofString "http://www.w3.org/XML/1998/namespace",570,.str "xml" 571),(Str.ofString "http://www.w3.org/1999/xhtml",572,.str "html" 573),(Str.ofString "http://www.w3.org/1999/02/22-rdf-syntax-ns#",574,.str "rdf" 575),(Str.ofString "http://schemas.xmlsoap.org/wsdl/",576,.str "wsdl" 577),(Str.ofString "http://www.w3.org/2001/XMLSchema",578,.str "xs" 579),(Str.ofString "http://www.w3.org/2001/XMLSchema-instance",580,.str "xsi" 581),(Str.ofString "http://purl.org/dc/elements/1.1/",582,.str "dc" 583)]
noncomputable def nmE (P : Params) : List (Str × Tok × Value) → List DictEntry := List.map fun p => ent P p.1 p.2.1 p.2.2
theorem nm_look (P : Params) : (K0 P).lookup 68 = some (dictOf (nmE P nmL) 7) := by kernel_rfl
theorem nm_pairs {prog : Program} {w : World} : ∀ l : List (Str × Tok × Value),Pairs (strKind prog w) (nmE w.params l) (l.map fun p => (p.1,p.2.2))
  | [] => .nil
  | p :: l => .cons (strKind_is prog w p.1 p.2.1) rfl (nm_pairs l)
theorem nm_at {prog : Program} {w : World} {h : Heap} (X : (K0 w.params).In h) : h.DictAt (strKind prog w) 68 (nmL.map fun p => (p.1,p.2.2)) 7 := by
  refine ⟨_,(nmE w.params nmL).toArray,X 68 _ (nm_look _),⟨rfl,rfl,rfl⟩,rfl,fun e he => ?_,nm_pairs nmL,by decide +kernel⟩
  (refine ob_EA (List.mem_map.mp (List.mem_toArray.mp he)) fun p _ z1q => ?_; obtain rfl := z1q)
  exact ⟨p.1,strKind_is prog w p.1 p.2.1,rfl⟩
theorem nm_meth {prog : Program} {w : World} {A : Around} {E : Value → Shared → Prop} {s : Shared} {g : Heap} {L : Addr} {m : Str → Option Value} {pl : Sem Bool} {Q : Value × List Value → Shared → Prop} (F : Fr g L s.heap m) (X : (K0 w.params).In g) (h : Q (.builtin "dict.items", [.ref 68]) s) : wpAny (model prog w) A (getMethod (.ref 68) "items" pl) Q E s := by
  have D := (nm_at (prog := prog) (X.keeps F.keep)).dictOf
  exact getMethod_builtin D.typeIs PySem.F.plainAttrs_dict PySem.F.slot_dict_items PySem.F.type_dict_items D.mapOf.noDict h
theorem nm_view {prog : Program} {w : World} {A : Around} {E : Value → Shared → Prop} {s : Shared} {g : Heap} {L : Addr} {m : Str → Option Value} {news : List (Addr × Obj)} {Q : Value → Shared → Prop} (F : Fr g L s.heap m) (X : (K0 w.params).In g) (N : News g L s.heap news)
    (h : ∀ (D : Nat) h',Fr g L h' m → News g L h' ((D, { cls := .type "dict_items",data := .fields #[.ref 68] }) :: news) → (∀ q ∈ news,@LT.lt Nat _ q.1 D) → Q (.ref D) { s with heap := h' }) : wpAny (model prog w) A (call (.builtin "dict.items") [.ref 68]) Q E s := by
  have D := (nm_at (prog := prog) (X.keeps F.keep)).dictOf
  exact call_meetsIn PySem.F.slot_dict_items D.typeIs PySem.F.entry_dict_items (PySem.F.args_dict_items_1 _) (meets_dict_items (strKind prog w) 68 (by decide)) ⟨⟨_,D⟩,h _ _ (F.push _) (News.push F N _) fun q hq => Heap.lt_size (N q hq).1⟩
theorem nm_list {prog : Program} {w : World} {A : Around} {E : Value → Shared → Prop} {s : Shared} {g : Heap} {L : Addr} {m : Str → Option Value} {news : List (Addr × Obj)} {v : Nat} {Q : Value → Shared → Prop} (hh : A.handled = none) (F : Fr g L s.heap m) (X : (K0 w.params).In g) (N : News g L s.heap news) (hv : (v, { cls := .type "dict_items",data := .fields #[.ref 68] }) ∈ news)
    (h : ∀ (D : Nat) its c h' tk,Fr g L h' m → News g L h' ((D,W.listOf its c) :: news) → (∀ q ∈ news,@LT.lt Nat _ q.1 D) → Q (.ref D) { s with heap := h',toks := tk }) : wpAny (model prog w) A (call (.type "list") [.ref v]) Q E s := by
  refine kdx_call (knd := strKind prog w) hh ⟨_,(N _ hv).1,rfl,rfl⟩ (nm_at (X.keeps F.keep)) (by rw [sizeLine_eq]; decide) fun h' tk acc c as hk hS hl hG hacc => ?_
  refine h s.heap.objs.size acc c h' tk (F.keeps hk) (fun q hq => ?_) fun q hq => Heap.lt_size (N q hq).1
  rcases List.mem_cons.mp hq with rfl | hq
  · exact ⟨hS,kdx_fresh F (Nat.le_refl _)⟩
  · exact ⟨hk _ _ (N q hq).1,(N q hq).2⟩
section
local macro_rules | `(tactic| k_lt $h:ident) => `(tactic| (replace $h := allLt_of $h; dsimp only [AllLt] at $h:ident))
local macro_rules | `(tactic| k_all) => `(tactic| first | exact True.intro | assumption | exact allLt_up (by assumption) | exact allLt_up2 (by assumption))
local macro_rules | `(tactic| k_upd) => `(tactic| first | (refine' UD.upd ?u; (case u => k_upd)) | (refine' UD.head ?a; (case a => k_all)) | (refine' UD.tail ?a ?b; (case a => k_all); (case b => k_upd)) | (refine' UD.tail2 ?e ?a ?b; (case e => assumption); (case a => k_all); (case b => k_upd)) | (refine' UD.tailN ?a ?b; (case a => assumption); (case b => k_upd)))
local macro_rules | `(tactic| k_updF) => `(tactic| first | (refine' UG.upd ?u; (case u => k_updF)) | (refine' UG.head ?a; (case a => k_all)) | (refine' UG.tail ?a ?b; (case a => k_all); (case b => k_updF)) | (refine' UG.tailN ?a ?b; (case a => assumption); (case b => k_updF)))
theorem w_start {prog : Program} {w : World} {A : Around} {s : Shared} {hb base : Heap} {outer : List Env} {R : Result → Shared → Prop}
    {pc bw x dx ld ls ln dp lp at' : Nat} {tk : Nat → Tok} {seen done : Bool} {ti : Tok} {ns nn np ps tps : Array Value} {n1 n2 n3 n4 n5 : Nat} {tag : Str} {tt : Tok} {l0 tx : Addr}
    (P : Pre (K0 w.params) hb A s [(at',dictOf [] 0),(lp,listOf np n3),(dp,dictOf [] 0),(ln,listOf nn n2),(ls,listOf ns n1),(ld,listOf #[] n4),(x,instObj 174 dx),(dx,dictOf (wEnts w.params tk bw ld ls ln dp lp seen done ti) 17),(bw,boundO pc),(pc,listOf ps n5),(147,tabObj tps)] base outer)
    (o0 : 147 < pc) (o8 : pc < bw) (o9 : bw < dx) (o1 : dx < x) (o2 : x < ld) (o3 : ld < ls) (o4 : ls < ln) (o5 : ln < dp) (o6 : dp < lp) (o7 : lp < at')
    (z1 : ns.size ≤ 100) (z2 : nn.size ≤ 100) (z3 : np.size ≤ 100) (z4 : ps.size ≤ 1000) (z5 : tag.length ≤ 100) (y3 : np[np.size - 1]? = some (.bool false))
    (hq : (PySem.Txt.slice tag none (some 1) == Str.ofString "{") = false) (hns : NsOk s.heap ns l0 tx) (hls : ∀ i : Nat,∀ a,ns[i]? = some (.ref a) → a ∉ [at',lp,dp,ln,ls,ld,x,dx,bw,pc,147])
    (hdp : A.depth + 60 < recursionLimit) (hun : A.units + 900 < cLine) (hC : CodeHd hb 149 147) (hT : TabS s.heap 241 71 (Str.ofString "C14NWriterTarget._start" ++ ".<locals>." ++ "<lambda>") tps)
    (hR : ∀ (b1 b2 : Nat) h' tk' t1 t2 tps',(∀ q ∈ ([(at',dictOf [] 0),(lp,listOf (np.push (.bool false)) (n3 + 1)),(dp,dictOf [] 0),(ln,listOf (nn.push (.ref b2)) (n2 + 1)),(ls,listOf (ns.push (.ref b1)) (n1 + 1)),(ld,listOf #[] n4),(x,instObj 174 dx),(dx,dictOf (wEnts w.params tk bw ld ls ln dp lp true done ti) 17),(bw,boundO pc),(pc,listOf ((ps.push (.str (Str.ofString "<" ++ tag) t1)).push (.str ">" t2)) (n5 + 1 + 1)),(147,tabObj tps')] : List (Addr × Obj)),h'.get? q.1 = some q.2) → h'.get? b1 = some (listOf (List.toArray []) 0) → at' < b1 →
      (∀ b o,s.heap.get? b = some o → b ∉ [at',lp,dp,ln,ls,ld,x,dx,bw,pc,147] → h'.get? b = some o) → TabS h' 241 71 (Str.ofString "C14NWriterTarget._start" ++ ".<locals>." ++ "<lambda>") tps' → R (.ok (.ret .none)) { s with heap := h',toks := tk',gens := s.gens.push .finished })
    : codeAny (model prog w) A (.call (.ref 144) ⟨[.ref x,.str tag tt,.ref at'], []⟩) R s := by
  have el1 : (Str.ofString "<").length = 1 := by decide +kernel
  have el2 : (Str.ofString ">").length = 1 := by decide +kernel
  have el3 : (Str.ofString "</").length = 2 := by decide +kernel
  have q0 : AllLt 147 [] := trivial
  have q1 := allLt_cons (o := tabObj #[]) o0 q0
  have q2 := allLt_cons (o := tabObj #[]) o8 q1
  have q3 := allLt_cons (o := tabObj #[]) o9 q2
  have q4 := allLt_cons (o := tabObj #[]) o1 q3
  have q5 := allLt_cons (o := tabObj #[]) o2 q4
  have q6 := allLt_cons (o := tabObj #[]) o3 q5
  have q7 := allLt_cons (o := tabObj #[]) o4 q6
  have q8 := allLt_cons (o := tabObj #[]) o5 q7
  have q9 := allLt_cons (o := tabObj #[]) o6 q8
  have q10 := allLt_cons (o := tabObj #[]) o7 q9
  have hh := P.hh
  refine' enterW (binds := [(Str.ofString "self",.ref x),(Str.ofString "tag",.str tag tt),(Str.ofString "attrs",.ref at')]) P ?k6 ?k7 ?k9 ?kB ?_ ?c3 ?c4 ?c5 ?c6
  case k6 => k_is
  case k7 => k_is
  case k9 => exact BindsTo.of_eq rfl
  case kB => exact locs rfl
  case c3 => exact rfl
  case c4 => exact rfl
  case c5 => exact rfl
  case c6 => decide
  have PB := P.B
  rcases A with ⟨Af,Ag,Ah,Ad,Au⟩
  dsimp only at hdp hun hh
  have hA := PB.stack
  dsimp only at hA
  subst hA hh
  have r1 : Ag + 1 < recursionLimit := Nat.lt_of_le_of_lt (Nat.add_le_add_left (by decide) Ag) hdp
  have r2 : Ag + 1 + 1 + 20 < recursionLimit := Nat.lt_of_le_of_lt (Nat.add_le_add_left (by decide : 22 ≤ 60) Ag) hdp
  have r3 : Au + 3 + 3 + 300 < cLine := Nat.lt_of_le_of_lt (Nat.add_le_add_left (by decide : 306 ≤ 900) Au) hun
  have u1 : 1 < at' := Nat.lt_trans (by decide) (Nat.lt_trans o0 (Nat.lt_trans o8 (Nat.lt_trans o9 (Nat.lt_trans o1 (Nat.lt_trans o2 (Nat.lt_trans o3 (Nat.lt_trans o4 (Nat.lt_trans o5 (Nat.lt_trans o6 o7)))))))))
  intro g' L' h' p' loose' mean' mg' mb' F' N' B' X' T' hL' hLs hg' hg2'
  have hls2 : ∀ i : Nat,ns[i]? ≠ some (.ref ls) := fun i q => hls i ls q (by simp)
  have hgG : ∀ b o,hb.get? b = some o → g'.get? b = some o := fun b o e => hg2' b o (P.up b o e) fun hm => by
    (refine ob_EA (List.mem_map.mp hm) fun q hq' z1q => ?_; obtain rfl := z1q)
    rw [(P.N q hq').2] at e
    cases e
  have hCG := hC.keeps hgG
  have hTG : TabS g' 241 71 (Str.ofString "C14NWriterTarget._start" ++ ".<locals>." ++ "<lambda>") tps := by
    refine hT.hide (fun q hq => (P.N q hq).1) ?_ hg2'
    repeat (first | exact List.forall_mem_nil _ | refine List.forall_mem_cons.mpr ⟨by first | exact nc_l | exact nc_d | exact nc_i | exact nc_b | exact nc_t hT,?_⟩)
  have hnsG : NsOk g' ns l0 tx := by
    refine hns.hide hg2' (fun q hq => (P.N q hq).1) ?_ hls
    repeat (first | exact List.forall_mem_nil _ | refine List.forall_mem_cons.mpr ⟨by first | exact nt_l | exact nt_d | exact nt_i | exact nt_b | exact nt_t,?_⟩)
  try dsimp only
  try k_fold
  repeat' (first | (k_unfold; (try dsimp only)) | (k_end; wrow_close) | ((with_reducible show wpAny _ _ (execs _ _) _ _ _); k_fold) | (k_here; (with_reducible show wpAny _ _ (call (Value.builtin "sorted") [Value.ref _] _) _ _ _); (show wpAny _ _ (call (Value.builtin _) [Value.ref _] [(Str.ofString "key",_)]) _ _ _); (rename ∀ _,_ → _ → TabS _ _ _ _ _ ∧ _ => hLL); k_dflt (refine' sorted_step ?hhq0 ?Bq0 ?Fq0 ?Nq0 ?Xq0 ?Tq0 ?hAq0 ?hfq0 ?hkq0 ?Dq0 ?oq0 ?fq0 ?cdq0 ?dq0 ?uq0 ?zq0 ?heq0 ?_; (case hhq0 => rfl); (case Fq0 => k_asm); (case Nq0 => k_asm); (case Bq0 => k_asm); (case Xq0 => k_asm); (case Tq0 => k_asm); (case hAq0 => exact rfl); (case hfq0 => exact rfl); (case hkq0 => exact rfl); (case Dq0 => k_mem); (case oq0 => assumption); (case fq0 => k_mem); (case zq0 => assumption); (case dq0 => exact r2); (case uq0 => exact r3); (case heq0 => exact fun _ _ _ => ⟨_,rfl⟩); (case cdq0 => exact (hLL _ (newsGet (by k_asm) (by k_mem)) (Fr.keep (by k_asm))).2)); intro D' h' tk' c' F' N' l1 e'; refine DcP.mk _ _ _ e' F' N' ?_ ?_; (focus (intro D2 C2 h2 tk2 m2 E2 l2 F2 N2 n2 hm2; k_lt l2; k_dflt (refine' pq_val ?Bq0 F2 ?Xq0 ?Tq0 N2 ?hAq0 ?hfq0 ?hkq0 ?hhq0 ?dpq0 ?unq0 ?hkEq0 ?kpqq0 ?cpqq0 ?knq0 n2 hm2 ?cqq0 ?dqq0 ?q0q0 ?i1q0 ?i2q0 ?i3q0 ?i4q0 ?o1q0 ?o2q0 ?o3q0 ?dcq0 ?zq0 ?hqq0 ?nsq0 ?lsq0 ?kq0; (case Bq0 => k_asm); (case Xq0 => k_asm); (case Tq0 => k_asm); (case hAq0 => rfl); (case hfq0 => rfl); (case hkq0 => rfl); (case hhq0 => rfl); (case dpq0 => exact r2); (case unq0 => exact r3); (case hkEq0 => rfl); (case kpqq0 => rfl); (case cpqq0 => rfl); (case knq0 => rfl); (case cqq0 => k_mem); (case dqq0 => assumption); (case q0q0 => k_mem); (case i1q0 => exact List.mem_cons_self); (case i3q0 => k_mem); (case i4q0 => k_mem); (case i2q0 => k_mem); (case o1q0 => assumption); (case o2q0 => exact Nat.lt_trans o2 o3); (case o3q0 => exact l2.2.2.2.2.2.2.2.2.2.2.2.2.1); (case dcq0 => rfl); (case zq0 => assumption); (case hqq0 => assumption); (case nsq0 => exact NsOk.push (NsOk.keep (NsOk.keep (by k_asm) (Fr.keep (by k_asm))) (Fr.keep F2)) (newsGet N2 (by k_mem))); (case lsq0 => exact push_ne (by assumption) (neN (by omega))); (case kq0 => (intro T h3 tk3 t1 t2 t3 a b c d; exact ⟨T,h3,tk3,t1,t2,t3,rfl,rfl,a,b,c,d⟩))))); intro T2 D2 oD h2 tk2 t1 t2 t3 hD2 F2 N2 l2 l3; (have l4 := allLt_cons (o := oD) l3 (allLt_of l2)); (try k_lt l2)) | (k_here; (with_reducible show wpAny _ _ (exec (Stmt.Assign _ (Expr.DictComp _ _ _ _ _) _) _) _ _ _);  k_dflt (refine' dc_one ?swq1 ?Lq1 ?hhq1 ?clq1 ?ceq1 ?kiq1 ?naq1 ?xq1 ?dxq1 ?yq1 ?pq1 ?_ ?sq1 ?Fq1 ?tq1; (case Fq1 => k_asm); (case tq1 => rfl); (case swq1 => first | rfl | with_unfolding_all rfl); (case Lq1 => rfl); (case hhq1 => rfl); (case clq1 => rfl); (case ceq1 => decide); (case kiq1 => rfl); (case naq1 => decide); (case xq1 => rfl); (case dxq1 => rfl); (case yq1 => rfl); (case pq1 => rfl); (case sq1 => (intro _; rfl)))) | ((with_reducible show wpAny _ _ (eval (Expr.Lambda _ _ _ _) _) _ _ _); k_here; k_dflt (refine' lam_make (c := 149) (P := 147) ?Fq2 ?Nq2 ?Tq2 ?Cq2 ?cdq2 ?Uq2 ?Hq2 ?clq2 ?dq2 ?_; (case Fq2 => k_asm); (case Nq2 => k_asm); (case Tq2 => k_asm); (case cdq2 => exact rfl); (case Cq2 => exact CodeHd.keeps (by k_asm) (Fr.keep (by k_asm))); (case Uq2 => k_updF); (case Hq2 => exact TabS.keep (by k_asm) (Fr.keep (by k_asm))); (case clq2 => exact rfl); (case dq2 => exact rfl)); intro f' c2' c1' oc' ctv' h' tk' tps' F' N' l1 l2 hL'; (try dsimp only [List.nil_append,List.cons_append] at N'); (try k_lt l1)) | (k_here; (dsimp only [List.cons_append,List.nil_append]); (with_reducible show wpAny _ _ (call (Value.builtin _) [Value.ref _,_]) _ _ _); k_dflt (refine' append_K ?k1q3 ?k2q3 ?k3q3 ?_ ?zq3; (case k1q3 => k_asm); (case k2q3 => k_asm); (case k3q3 => k_upd); (case zq3 => size_fits); k_whole); intro h' F' N'; (try k_sweep)) | (k_here; (dsimp only [List.cons_append,List.nil_append]); (with_reducible show wpAny _ _ (call (Value.builtin _) [Value.ref _,_]) _ _ _); k_dflt (refine' append_K ?k1q4 ?k2q4 ?k3q4 ?_ ?zq4; (case k1q4 => k_asm); (case k2q4 => k_asm); (case k3q4 => k_upd); (case zq4 => size_fits); k_whole); intro h' F' N'; (try k_sweep)) | (k_here; (dsimp only [List.cons_append,List.nil_append]); (with_reducible show wpAny _ _ (call (Value.builtin _) [Value.ref _,_]) _ _ _); k_dflt (refine' append_K ?k1q5 ?k2q5 ?k3q5 ?_ ?zq5; (case k1q5 => k_asm); (case k2q5 => k_asm); (case k3q5 => k_upd); (case zq5 => size_fits); k_whole); intro h' F' N'; (try k_sweep)) | (k_here; (with_reducible show wpAny _ _ (subscriptTail _ _ (Value.ref _) (Value.int 0 _)) _ _ _); k_dflt (refine' item_T ?Nq6 ?aq6 ?_; (case Nq6 => k_asm); (case aq6 => k_mem); k_whole)) | (k_here; (with_reducible show wpAny _ _ (subscriptTail _ _ (Value.ref _) (Value.str _ _)) _ _ _); k_dflt (refine' item_D ?Nq7 ?aq7 ?lq7 ?_; (case Nq7 => k_asm); (case aq7 => k_mem); (case lq7 => assumption); k_whole)) | (k_here; (with_reducible show wpAny _ _ (call (Value.ref _) [_]) _ _ _); k_dflt (refine' call_bw ?Fq8 ?Nq8 ?aq8 ?Uq8 ?_ ?zq8; (case Fq8 => k_asm); (case Nq8 => k_asm); (case aq8 => k_mem); (case Uq8 => k_upd); (case zq8 => size_fits); k_whole); intro h' F' N'; (try k_sweep)) | (k_here; (with_reducible show wpAny _ _ (call (Value.ref _) [_]) _ _ _); k_dflt (refine' call_bw ?Fq9 ?Nq9 ?aq9 ?Uq9 ?_ ?zq9; (case Fq9 => k_asm); (case Nq9 => k_asm); (case aq9 => k_mem); (case Uq9 => k_upd); (case zq9 => size_fits); k_whole); intro h' F' N'; (try k_sweep)) | ((with_reducible show BwAt _ _ _ ∧ _); k_dflt (refine' And.intro ?bwq10 ?_; (case bwq10 => (refine' bwP ?Nq10 ?qq10; (case Nq10 => k_asm); (case qq10 => k_mem)))); try dsimp only [List.nil_append,List.cons_append]) | ((with_reducible show BwAt _ _ _ ∧ _); k_dflt (refine' And.intro ?bwq11 ?_; (case bwq11 => (refine' bwP ?Nq11 ?qq11; (case Nq11 => k_asm); (case qq11 => k_mem)))); try dsimp only [List.nil_append,List.cons_append]) | ((with_reducible show wpAny _ _ (callWith _ (Value.ref _) _ _ _) _ _ _); k_here; k_dflt (refine' callWith_bw ?Nq12 ?aq12 ?_; (case Nq12 => k_asm); (case aq12 => k_mem); k_whole)) | ((with_reducible show wpAny _ _ (callWith _ (Value.ref _) _ _ _) _ _ _); k_here; k_dflt (refine' callWith_bw ?Nq13 ?aq13 ?_; (case Nq13 => k_asm); (case aq13 => k_mem); k_whole)) | (k_here; (with_reducible show wpAny _ _ (subscriptTail _ _ (Value.ref _) (Value.int _ _)) _ _ _); k_dflt (refine' last_item ?Nq14 ?aq14 ?lq14 ?_; (case Nq14 => k_asm); (case aq14 => k_mem); (case lq14 => assumption); k_whole)) | ((with_reducible show wpAny _ _ (call (Value.builtin "dict.get") _) _ _ _); k_here; (dsimp only [List.cons_append,List.nil_append]); k_dflt (refine' get_c ?Nq15 ?aq15 ?lq15 ?_; (case Nq15 => k_asm); (case aq15 => k_mem); (case lq15 => first | assumption | omega); k_whole)) | ((with_reducible show wpAny _ _ (getMethod (Value.ref _) _ _) _ _ _); k_here; k_dflt (refine' get_m ?Nq16 ?aq16 ?_; (case Nq16 => k_asm); (case aq16 => k_mem); k_whole)) | (k_here; (with_reducible show wpAny _ _ (truthy (Value.ref _)) _ _ _); k_dflt (refine' truthy_d0 ?Nq17 ?aq17 ?lq17 ?_; (case Nq17 => k_asm); (case aq17 => k_mem); (case lq17 => first | assumption | omega); k_whole)) | ((with_reducible show wpAny _ _ (eval (Expr.Set _ _ _) _) _ _ _); k_here; k_dflt (refine' set_star1 ?hhq18 ?Fq18 ?Nq18 ?Xq18 ?hcq18 ?hLq18 ?hkq18 ?kxq18 ?kyq18 ?dxq18 ?dyq18 ?cq18 ?rq18 ?pq18 ?hlq18 ?_; (case hhq18 => rfl); (case Fq18 => k_asm); (case Nq18 => k_asm); (case Xq18 => k_asm); (case hcq18 => (first | k_is | kernel_rfl)); (case hLq18 => rfl); (case hkq18 => rfl); (case kxq18 => rfl); (case kyq18 => rfl); (case dxq18 => rfl); (case dyq18 => rfl); (case cq18 => rfl); (case rq18 => rfl); (case pq18 => k_mem); (case hlq18 => first | assumption | omega)); intro d' h' tk' hs' ep' st' F' N' l1 o1'; (try k_lt l1)) | walk1 | (dsimp only; walk1) | (leave1; walk_say "STEP leave1"; try dsimp only) | fail "no step")
  show R _ _
  rename ∀ _,_ → _ → TabS _ _ _ _ _ ∧ _ => hLL
  refine' hR _ _ _ _ ?t1 ?t2 _ ?g1 ?g2 ?g3 ?g4 ?g5
  case g1 =>
    refine' newsAll ?N ?sub
    case N => k_asm
    case sub => repeat (first | exact List.forall_mem_nil _ | refine List.forall_mem_cons.mpr ⟨by k_mem,?_⟩)
  case g2 =>
    refine' newsGet ?N ?m
    case N => k_asm
    case m => k_mem
  case g3 => omega
  case g5 => exact (hLL _ (newsGet (by k_asm) (by k_mem)) (Fr.keep (by k_asm))).1
  case g4 =>
    intro b o e hn
    exact (Fr.keep (by k_asm)) b o (hg2' b o e hn)
theorem w_end {prog : Program} {w : World} {A : Around} {s : Shared} {hb base : Heap} {outer : List Env} {R : Result → Shared → Prop}
    {pc bw x dx ld ls ln dp lp : Nat} {tk : Nat → Tok} {seen done : Bool} {ti : Tok} {ns nn np ps : Array Value} {v1 v2 : Value} {n1 n2 n3 n4 n5 : Nat} {tag : Str} {tt : Tok} {l0 tx : Addr}
    (P : Pre (K0 w.params) hb A s [(lp,listOf (np.push (.bool false)) n3),(dp,dictOf [] 0),(ln,listOf (nn.push v2) n2),(ls,listOf (ns.push v1) n1),(ld,listOf #[] n4),(x,instObj 174 dx),(dx,dictOf (wEnts w.params tk bw ld ls ln dp lp seen done ti) 17),(bw,boundO pc),(pc,listOf ps n5)] base outer)
    (o8 : pc < bw) (o9 : bw < dx) (o1 : dx < x) (o2 : x < ld) (o3 : ld < ls) (o4 : ls < ln) (o5 : ln < dp) (o6 : dp < lp)
    (z1 : ns.size ≤ 100) (z2 : nn.size ≤ 100) (z3 : np.size ≤ 100) (z4 : ps.size ≤ 1000) (z5 : tag.length ≤ 100)
    (hq : (PySem.Txt.slice tag none (some 1) == Str.ofString "{") = false) (hns : NsOk s.heap (ns.push v1) l0 tx) (hls : ∀ i : Nat,∀ a,(ns.push v1)[i]? = some (.ref a) → a ∉ [lp,dp,ln,ls,ld,x,dx,bw,pc])
    (hdp : A.depth + 60 < recursionLimit) (hun : A.units + 900 < cLine)
    (hR : ∀ (done' : Bool) h' tk' t1,(∀ q ∈ ([(lp,listOf np (n3 + 1)),(dp,dictOf [] 0),(ln,listOf nn (n2 + 1)),(ls,listOf ns (n1 + 1)),(ld,listOf #[] n4),(x,instObj 174 dx),(dx,dictOf (wEnts w.params tk bw ld ls ln dp lp seen done' ti) 17),(bw,boundO pc),(pc,listOf (ps.push (.str (Str.ofString "</" ++ tag ++ ">") t1)) (n5 + 1))] : List (Addr × Obj)),h'.get? q.1 = some q.2) →
      (∀ b o,s.heap.get? b = some o → b ∉ [lp,dp,ln,ls,ld,x,dx,bw,pc] → h'.get? b = some o) → R (.ok (.ret .none)) { s with heap := h',toks := tk',gens := s.gens.push .finished })
    : codeAny (model prog w) A (.call (.ref 157) ⟨[.ref x,.str tag tt], []⟩) R s := by
  have el1 : (Str.ofString "<").length = 1 := by decide +kernel
  have el2 : (Str.ofString ">").length = 1 := by decide +kernel
  have el3 : (Str.ofString "</").length = 2 := by decide +kernel
  have q1 : AllLt pc [] := trivial
  have q2 := allLt_cons (o := tabObj #[]) o8 q1
  have q3 := allLt_cons (o := tabObj #[]) o9 q2
  have q4 := allLt_cons (o := tabObj #[]) o1 q3
  have q5 := allLt_cons (o := tabObj #[]) o2 q4
  have q6 := allLt_cons (o := tabObj #[]) o3 q5
  have q7 := allLt_cons (o := tabObj #[]) o4 q6
  have q8 := allLt_cons (o := tabObj #[]) o5 q7
  have q9 := allLt_cons (o := tabObj #[]) o6 q8
  have hh := P.hh
  refine' enterW (binds := [(Str.ofString "self",.ref x),(Str.ofString "tag",.str tag tt)]) P ?k6 ?k7 ?k9 ?kB ?_ ?c3 ?c4 ?c5 ?c6
  case k6 => k_is
  case k7 => k_is
  case k9 => exact BindsTo.of_eq rfl
  case kB => exact locs rfl
  case c3 => exact rfl
  case c4 => exact rfl
  case c5 => exact rfl
  case c6 => decide
  have PB := P.B
  rcases A with ⟨Af,Ag,Ah,Ad,Au⟩
  dsimp only at hdp hun hh
  have hA := PB.stack
  dsimp only at hA
  subst hA hh
  have r2 : Ag + 1 + 20 < recursionLimit := Nat.lt_of_le_of_lt (Nat.add_le_add_left (by decide : 21 ≤ 60) Ag) hdp
  have r3 : Au + 3 + 300 < cLine := Nat.lt_of_le_of_lt (Nat.add_le_add_left (by decide : 303 ≤ 900) Au) hun
  intro g' L' h' p' loose' mean' mg' mb' F' N' B' X' T' hL' hLs hg' hg2'
  have hls2 : ∀ i : Nat,(ns.push v1)[i]? ≠ some (.ref ls) := fun i q => hls i ls q (by simp)
  have hnsG : NsOk g' (ns.push v1) l0 tx := by
    refine hns.hide hg2' (fun q hq => (P.N q hq).1) ?_ hls
    repeat (first | exact List.forall_mem_nil _ | refine List.forall_mem_cons.mpr ⟨by first | exact nt_l | exact nt_d | exact nt_i | exact nt_b | exact nt_t,?_⟩)
  try dsimp only
  try k_fold
  repeat' (first | (k_unfold; (try dsimp only)) | (k_end; wrow_close) | ((with_reducible show wpAny _ _ (execs _ _) _ _ _); k_fold) | (k_here; (try dsimp only [List.cons_append,List.nil_append]); (with_reducible show wpAny _ _ (call (Value.builtin _) [Value.ref _]) _ _ _); k_dflt (refine' pop_push ?Fq0 ?Nq0 ?Uq0 ?zq0 ?_; (case Fq0 => k_asm); (case Nq0 => k_asm); (case Uq0 => k_upd); (case zq0 => size_fits)); intro h' F' N'; (try k_sweep)) | (k_here; (try dsimp only [List.cons_append,List.nil_append]); (with_reducible show wpAny _ _ (call (Value.builtin _) [Value.ref _]) _ _ _); k_dflt (refine' pop_push ?Fq1 ?Nq1 ?Uq1 ?zq1 ?_; (case Fq1 => k_asm); (case Nq1 => k_asm); (case Uq1 => k_upd); (case zq1 => size_fits)); intro h' F' N'; (try k_sweep)) | (k_here; (try dsimp only [List.cons_append,List.nil_append]); (with_reducible show wpAny _ _ (call (Value.builtin _) [Value.ref _]) _ _ _); k_dflt (refine' pop_push ?Fq2 ?Nq2 ?Uq2 ?zq2 ?_; (case Fq2 => k_asm); (case Nq2 => k_asm); (case Uq2 => k_upd); (case zq2 => size_fits)); intro h' F' N'; (try k_sweep)) | (k_here; (with_reducible show wpAny _ _ (call (Value.ref _) [Value.ref _,Value.str _ _]) _ _ _); k_dflt (refine' qname_call ?Bq3 ?Fq3 ?Xq3 ?Tq3 ?Nq3 ?hAq3 ?hfq3 ?hkq3 ?hhq3 ?dpq3 ?unq3 ?i1q3 ?i3q3 ?i4q3 ?i2q3 ?o1q3 ?o2q3 ?o3q3 ?zq3 ?hqq3 ?nsq3 ?lsq3 ?_; (case Fq3 => k_asm); (case Nq3 => k_asm); (case Bq3 => k_asm); (case Xq3 => k_asm); (case Tq3 => k_asm); (case hAq3 => exact rfl); (case hfq3 => exact rfl); (case hkq3 => exact rfl); (case hhq3 => rfl); (case dpq3 => k_room); (case unq3 => exact r3); (case i1q3 => k_mem); (case i3q3 => k_mem); (case i4q3 => k_mem); (case i2q3 => k_mem); (case o1q3 => assumption); (case o2q3 => exact Nat.lt_trans (by assumption) (by assumption)); (case o3q3 => lia); (case zq3 => assumption); (case hqq3 => assumption); (case nsq3 => exact NsOk.keep (by k_asm) (Fr.keep (by k_asm))); (case lsq3 => assumption)); intro T' h' tk' t1 t2 t3 F' N' l1; (replace l1 := allNe_of l1; dsimp only [AllNe] at l1)) | (k_here; (with_reducible show wpAny _ _ (call (Value.ref _) [_]) _ _ _); k_dflt (refine' call_bw ?Fq4 ?Nq4 ?aq4 ?Uq4 ?_ ?zq4; (case Fq4 => k_asm); (case Nq4 => k_asm); (case aq4 => k_mem); (case Uq4 => k_upd); (case zq4 => size_fits); k_whole); intro h' F' N'; (try k_sweep)) | ((with_reducible show BwAt _ _ _ ∧ _); k_dflt (refine' And.intro ?bwq5 ?_; (case bwq5 => (refine' bwP ?Nq5 ?qq5; (case Nq5 => k_asm); (case qq5 => k_mem)))); try dsimp only [List.nil_append,List.cons_append]) | ((with_reducible show wpAny _ _ (callWith _ (Value.ref _) _ _ _) _ _ _); k_here; k_dflt (refine' callWith_bw ?Nq6 ?aq6 ?_; (case Nq6 => k_asm); (case aq6 => k_mem); k_whole)) | walk1 | (dsimp only; walk1) | (leave1; walk_say "STEP leave1"; try dsimp only) | fail "no step")
  show R _ _
  refine' hR _ _ _ ?t1 ?g1 ?g4
  case g1 =>
    refine' newsAll ?N ?sub
    case N => k_asm
    case sub => repeat (first | exact List.forall_mem_nil _ | refine List.forall_mem_cons.mpr ⟨by k_mem,?_⟩)
  case g4 =>
    intro b o e hn
    exact (Fr.keep (by k_asm)) b o (hg2' b o e hn)
noncomputable def kwEnts (P : Params) : List DictEntry := [ent P "with_comments" 613 (.bool false),ent P "strip_text" 614 (.bool false),ent P "rewrite_prefixes" 615 (.bool false),ent P "qname_aware_tags" 616 .none,ent P "qname_aware_attrs" 617 .none,ent P "exclude_attrs" 618 .none,ent P "exclude_tags" 619 .none]
theorem kw_look (P : Params) : (K0 P).lookup 84 = some (dictOf (kwEnts P) 7) := by kernel_rfl
theorem kw_ns {P : Params} {h : Heap} (X : (K0 P).In h) : h.Ns 84 (fun x => nsFind (kwEnts P).toArray x) := by
  refine ⟨_,(kwEnts P).toArray,7,X 84 _ (kw_look P),rfl,?_,fun _ => rfl⟩
  intro e he
  simp only [kwEnts,List.mem_toArray,List.mem_cons,List.not_mem_nil,or_false] at he
  rcases he with rfl | rfl | rfl | rfl | rfl | rfl | rfl <;> exact ⟨_,_,rfl⟩
theorem kwf1 (P : Params) : nsFind (kwEnts P).toArray (Str.ofString "with_comments") = some (.bool false) := by kernel_rfl
theorem kwf2 (P : Params) : nsFind (kwEnts P).toArray (Str.ofString "strip_text") = some (.bool false) := by kernel_rfl
theorem kwf3 (P : Params) : nsFind (kwEnts P).toArray (Str.ofString "rewrite_prefixes") = some (.bool false) := by kernel_rfl
theorem kwf4 (P : Params) : nsFind (kwEnts P).toArray (Str.ofString "qname_aware_tags") = some .none := by kernel_rfl
theorem kwf5 (P : Params) : nsFind (kwEnts P).toArray (Str.ofString "qname_aware_attrs") = some .none := by kernel_rfl
theorem kwf6 (P : Params) : nsFind (kwEnts P).toArray (Str.ofString "exclude_attrs") = some .none := by kernel_rfl
theorem kwf7 (P : Params) : nsFind (kwEnts P).toArray (Str.ofString "exclude_tags") = some .none := by kernel_rfl
theorem kwGet {M : Model} {A : Around} {E : Value → Shared → Prop} {s : Shared} {d : Addr} {m : Str → Option Value} {n : Str} {v : Value} {Q : Option Value → Shared → Prop} (hn : s.heap.Ns d m) (e : m n = some v) (h : Q (some v) s) : wpAny M A (nsGet d n) Q E s := wpAny_nsGet hn (by rw [e]; exact h)
theorem no_of {b : Bool} (h : b = false) : ¬ b = true := by rw [h]; exact Bool.false_ne_true
noncomputable def kwFresh (m : Str → Option Value) (val : Str → Value) : List Str → List (Str × Value) → Prop
  | [],_ => True
  | k :: r,sl => sl.lookup k = none ∧ m k = some (val k) ∧ kwFresh m val r (sl ++ [(k,val k)])
noncomputable def kwAll (val : Str → Value) : List Str → List (Str × Value) → List (Str × Value)
  | [],sl => sl
  | k :: r,sl => kwAll val r (sl ++ [(k,val k)])
theorem kw_loop {M : Model} {A : Around} {E : Value → Shared → Prop} {s : Shared} {m : Str → Option Value} {val : Str → Value} {bd : Str → List (Str × Value) × List Str → Sem (ForInStep (List (Str × Value) × List Str))}
    (hb : ∀ k sl Q,sl.lookup k = none → m k = some (val k) → Q (.yield (sl ++ [(k,val k)], [])) s → wpAny M A (bd k (sl, [])) Q E s) {Q : List (Str × Value) × List Str → Shared → Prop} :
    ∀ (ks : List Str) (sl : List (Str × Value)),kwFresh m val ks sl → Q (kwAll val ks sl, []) s → wpAny M A (forIn ks (sl, []) bd) Q E s := by
  intro ks
  induction ks with
  | nil => exact fun sl _ h => wpAny_pure h
  | cons k r ih =>
    intro sl hf h
    rw [List.forIn_cons]
    exact wpAny_bind (hb k sl _ hf.1 hf.2.1 (ih _ hf.2.2 h))
theorem forIn_zip_nil {α β γ : Type} {M : Model} {A : Around} {E : Value → Shared → Prop} {s : Shared} {l : List α} {k : Nat} {b : γ} {f : α × β → γ → Sem (ForInStep γ)} {Q : γ → Shared → Prop} (h : Q b s) : wpAny M A (forIn (l.zip (List.drop k ([] : List β))) b f) Q E s := by
  rw [List.drop_nil,List.zip_nil_right]; exact wpAny_pure h
theorem bind_kw {s : Shared} {name qual : Str} {ar kws : List Arg} {ds : List (Option Expr)} {body : List Stmt} {scope : Scope} {d : Addr} {doc pm cdv ct : Value} {an : Option Addr} {vs : List Value} {m : Str → Option Value} (val : Str → Value) {binds : List (Str × Value)}
    (hn : s.heap.Ns d m) (hl : vs.length = ar.length) (hm : ((ar.map (·.arg)).filter fun n => (((ar.map (·.arg)).zip vs).lookup n).isNone).isEmpty = true) (hf : kwFresh m val (kws.map (·.arg)) ((ar.map (·.arg)).zip vs))
    (hb : ((ar.map (·.arg)) ++ (kws.map (·.arg))).filterMap (fun n => ((kwAll val (kws.map (·.arg)) ((ar.map (·.arg)).zip vs)).lookup n).map (n, ·)) = binds)
    : BindsTo s (fnOf name qual ⟨[],ar,none,kws,ds,none, []⟩ body scope .none (.ref d) doc pm an cdv ct) ⟨vs, []⟩ binds := by
  intro M A E Q hq
  subst hb
  unfold bindArgs fnOf
  dsimp only
  refine wpAny_bind (wpAny_pure ?_)
  refine wpAny_bind (wpAny_pure ?_)
  refine if_no' (by
    show ¬ (decide (vs.length > (List.map (fun x => Arg.arg x) ar).length) && true) = true
    rw [List.length_map,hl]; simp) ?_
  refine if_no' (by
    show ¬ (!(List.filter _ (List.take (_ - (List.drop _ ([] : List Value)).length) _)).isEmpty) = true
    rw [List.drop_nil,List.length_nil,Nat.sub_zero,List.take_length]
    show ¬ (!(List.filter (fun n => (List.lookup n ((ar.map (·.arg)).zip vs)).isNone) (ar.map (·.arg))).isEmpty) = true
    rw [hm]; exact Bool.false_ne_true) ?_
  refine wpAny_bind (wpAny_mono (Q := fun r s' => s' = s ∧ r = (ar.map (·.arg)).zip vs) ?_ (fun r s' q => ?_) fun _ _ e => e)
  · exact forIn_zip_nil ⟨rfl,rfl⟩
  rw [q.1,q.2]
  refine wpAny_bind (kw_loop (m := m) (val := val) (fun k sl Q h1 h2 h => ?_) _ _ hf (if_no' Bool.false_ne_true (wpAny_pure hq)))
  refine if_so' (by rw [h1]; rfl) (wpAny_bind (kwGet hn h2 (wpAny_pure h)))
noncomputable def kwVal (k : Str) : Value := if k == Str.ofString "with_comments" || k == Str.ofString "strip_text" || k == Str.ofString "rewrite_prefixes" then .bool false else .none
theorem binds_init {w : World} {s : Shared} (X : (K0 w.params).In s.heap) {x bw : Addr} {name qual : Str} {body : List Stmt} {scope : Scope} {doc pm cdv ct : Value} {an : Option Addr} {p0 p1 p2 p3 p4 p5 p6 p7 p8 : Pos} {a0 a1 a2 a3 a4 a5 a6 a7 a8 : Option Expr} {ds : List (Option Expr)}
    : BindsTo s (fnOf name qual ⟨[], [⟨Str.ofString "self",a0,p0⟩,⟨Str.ofString "write",a1,p1⟩],none, [⟨Str.ofString "with_comments",a2,p2⟩,⟨Str.ofString "strip_text",a3,p3⟩,⟨Str.ofString "rewrite_prefixes",a4,p4⟩,⟨Str.ofString "qname_aware_tags",a5,p5⟩,⟨Str.ofString "qname_aware_attrs",a6,p6⟩,⟨Str.ofString "exclude_attrs",a7,p7⟩,⟨Str.ofString "exclude_tags",a8,p8⟩],ds,none, []⟩ body scope .none (.ref 84) doc pm an cdv ct) ⟨[.ref x,.ref bw], []⟩
      [(Str.ofString "self",.ref x),(Str.ofString "write",.ref bw),(Str.ofString "with_comments",.bool false),(Str.ofString "strip_text",.bool false),(Str.ofString "rewrite_prefixes",.bool false),(Str.ofString "qname_aware_tags",.none),(Str.ofString "qname_aware_attrs",.none),(Str.ofString "exclude_attrs",.none),(Str.ofString "exclude_tags",.none)] := by
  exact bind_kw kwVal (kw_ns X) rfl (by rfl) ⟨by kernel_rfl,kwf1 _,by kernel_rfl,kwf2 _,by kernel_rfl,kwf3 _,by kernel_rfl,kwf4 _,by kernel_rfl,kwf5 _,by kernel_rfl,kwf6 _,by kernel_rfl,kwf7 _,trivial⟩ (by kernel_rfl)
theorem tl1 {α : Type} {a b : α} {l : List α} (h : a ∈ l) : a ∈ b :: l := .tail _ h
theorem tl5 {α : Type} {a b c d e f : α} {l : List α} (h : a ∈ l) : a ∈ b :: c :: d :: e :: f :: l := tl1 (tl1 (tl1 (tl1 (tl1 h))))
theorem newsAll2 {g h0 h : Heap} {L x dx : Addr} {o1 o2 : Obj} {news l : List (Addr × Obj)} (N : News g L h news) (hg2 : ∀ a o,h0.get? a = some o → a ∉ [x,dx] → g.get? a = some o) (hx : @LT.lt Nat _ dx x) (s : ∀ q ∈ l,q ∈ news) :
    ∀ q ∈ l,h.get? q.1 = some q.2 ∧ (@LT.lt Nat _ x q.1 → h0.get? q.1 = none) := fun q hq =>
  ⟨(N q (s q hq)).1,fun hb => newNone (news := [(x,o1),(dx,o2)]) N (s q hq) hg2 fun r hr => by
    rcases List.mem_cons.mp hr with rfl | hr
    · exact Nat.ne_of_lt hb
    · rw [List.mem_singleton.mp hr]
      exact Nat.ne_of_lt (Nat.lt_trans hx hb)⟩
theorem tokAny {α : Type} {M : Model} {A : Around} {m : Sem α} {Q : α → Shared → Prop} {E : Value → Shared → Prop} {h : Heap} {g : Array GenState} {d : Drawn} {t : Nat} {o : OsState} (k : ∀ tk,wpAny M A m Q E ⟨h,g,d,tk,o⟩) : wpAny M A m Q E ⟨h,g,d,t + 1,o⟩ := k _
theorem w_init {prog : Program} {w : World} {A : Around} {s : Shared} {hb base : Heap} {outer : List Env} {R : Result → Shared → Prop} {x dx bw : Nat}
    (P : Pre (K0 w.params) hb A s [(x,instObj 174 dx),(dx,dictOf [] 0)] base outer) (o1 : dx < x) (hdp : A.depth + 60 < recursionLimit) (hun : A.units + 900 < cLine)
    (hR : ∀ (ld tx l0 ls ln dp lp : Nat) (tk : Nat → Tok) (ti t1 t2 : Tok) (nn : Array Value) h' tk',x < ld → ld < tx → tx < l0 → l0 < ls → ls < ln → ln < dp → dp < lp → nn.size = 2 →
      (∀ q ∈ ([(lp,W.listOf #[.bool false] 0),(dp,dictOf [] 0),(ln,W.listOf nn 2),(ls,W.listOf #[.ref l0] 0),(l0,W.listOf #[.ref tx] 0),(tx,tupOf #[.str (Str.ofString "http://www.w3.org/XML/1998/namespace") t1,.str (Str.ofString "xml") t2]),(ld,W.listOf #[] 0),(x,instObj 174 dx),(dx,dictOf (wEnts w.params tk bw ld ls ln dp lp false false ti) 17)] : List (Addr × Obj)),h'.get? q.1 = some q.2 ∧ (@LT.lt Nat _ x q.1 → s.heap.get? q.1 = none)) → (∀ b o,s.heap.get? b = some o → b ≠ x → b ≠ dx → h'.get? b = some o) → R (.ok (.ret .none)) { s with heap := h',toks := tk' }) :
    codeAny (model prog w) A (.call (.ref 91) ⟨[.ref x,.ref bw], []⟩) R s := by
  have q0 : AllLt dx [] := trivial
  have q1 := allLt_cons (o := tabObj #[]) o1 q0
  have hh := P.hh
  refine' enterW P ?k6 ?k7 ?k9 ?kB ?_ ?c3 ?c4 ?c5 ?c6
  case k6 => k_is
  case k7 => k_is
  case k9 => exact binds_init fun a o e => P.up a o (P.X a o e)
  case kB => exact locs rfl
  case c3 => exact rfl
  case c4 => exact rfl
  case c5 => exact rfl
  case c6 => decide
  have PB := P.B
  rcases A with ⟨Af,Ag,Ah,Ad,Au⟩
  dsimp only at hdp hun hh
  have hA := PB.stack
  dsimp only at hA
  subst hA hh
  intro g' L' h' p' loose' mean' mg' mb' F' N' B' X' T' hL' hLs hg' hg2'
  try dsimp only
  try k_fold
  repeat' (first | (k_unfold; (try dsimp only)) | (k_end; wrow_close) | ((with_reducible show wpAny _ _ (execs _ _) _ _ _); (with_reducible refine tokAny ?_); intro tk') | ((with_reducible show wpAny _ _ (eval (Expr.Dict [] [] _) _) _ _ _); k_here; k_dflt (refine' eval_dict0 ?k1q0 ?k2q0 ?_; (case k1q0 => k_asm); (case k2q0 => k_asm); k_whole); intro d' h' F' N' l1; (try k_lt l1); (try k_sweep)) | (k_here; (dsimp only [List.cons_append,List.nil_append]); (with_reducible show wpAny _ _ (call (Value.builtin _) [Value.ref _,_]) _ _ _); k_dflt (refine' append_K ?k1q1 ?k2q1 ?k3q1 ?_ ?zq1; (case k1q1 => k_asm); (case k2q1 => k_asm); (case k3q1 => k_upd); (case zq1 => size_fits); k_whole); intro h' F' N'; (try k_sweep)) | (k_here; (dsimp only [List.cons_append,List.nil_append]); (with_reducible show wpAny _ _ (call (Value.builtin _) [Value.ref _,_]) _ _ _); k_dflt (refine' append_K ?k1q2 ?k2q2 ?k3q2 ?_ ?zq2; (case k1q2 => k_asm); (case k2q2 => k_asm); (case k3q2 => k_upd); (case zq2 => size_fits); k_whole); intro h' F' N'; (try k_sweep)) | (k_here; (dsimp only [List.cons_append,List.nil_append]); (with_reducible show wpAny _ _ (call (Value.type "list") [Value.ref _]) _ _ _); k_dflt (refine' nm_list ?hhq3 ?Fq3 ?Xq3 ?Nq3 ?vq3 ?_; (case hhq3 => rfl); (case Fq3 => k_asm); (case Xq3 => k_asm); (case Nq3 => k_asm); (case vq3 => k_mem); k_whole); intro d' its' c' h' tk' F' N' l1; (try k_lt l1); (try k_sweep)) | (k_here; (dsimp only [List.cons_append,List.nil_append]); (with_reducible show wpAny _ _ (call (Value.builtin "dict.items") [Value.ref 68]) _ _ _); k_dflt (refine' nm_view ?Fq4 ?Xq4 ?Nq4 ?_; (case Fq4 => k_asm); (case Xq4 => k_asm); (case Nq4 => k_asm); k_whole); intro d' h' F' N' l1; (try k_lt l1); (try k_sweep)) | ((with_reducible show wpAny _ _ (getMethod (Value.ref _) _ _) _ _ _); k_here; (with_reducible show wpAny _ _ (getMethod (Value.ref 68) _ _) _ _ _); k_dflt (refine' nm_meth ?Fq5 ?Xq5 ?_; (case Fq5 => k_asm); (case Xq5 => k_asm); k_whole)) | walk1 | (dsimp only; walk1) | (leave1; walk_say "STEP leave1"; try dsimp only) | fail "no step")
  rename News _ _ _ _ => NN
  rename Fr _ _ _ _ => FF
  refine hR _ _ _ _ _ _ _ (fun i => [_,_,_,_,_,_,_,_,_,_,_,_,_,_,_,_,_].getD i 0) _ _ _ _ _ _ ?_ ?_ ?_ ?_ ?_ ?_ ?_ ?_ (newsAll2 (o1 := instObj 174 dx) (o2 := dictOf [] 0) NN hg2' o1 (List.forall_mem_cons.mpr ⟨.head _,List.forall_mem_cons.mpr ⟨tl1 (.head _),List.forall_mem_cons.mpr ⟨tl5 (.head _),List.forall_mem_cons.mpr ⟨tl5 (tl1 (.head _)),List.forall_mem_cons.mpr ⟨tl5 (tl1 (tl1 (.head _))),List.forall_mem_cons.mpr ⟨tl5 (tl1 (tl1 (tl1 (.head _)))),List.forall_mem_cons.mpr ⟨tl5 (tl1 (tl1 (tl1 (tl1 (.head _))))),List.forall_mem_cons.mpr ⟨tl5 (tl5 (.head _)),List.forall_mem_cons.mpr ⟨tl5 (tl5 (tl1 (.head _))),List.forall_mem_nil _⟩⟩⟩⟩⟩⟩⟩⟩⟩)) ?_
  all_goals first | exact And.left (by assumption) | exact And.left (And.right (And.right (And.right (by assumption)))) | rfl | skip
  · intro b o e n1 n2
    exact FF.keep b o (hg2' b o e (by
      simp only [List.map_cons,List.map_nil,List.mem_cons,List.not_mem_nil,or_false,not_or]
      exact ⟨n1,n2⟩))
end
structure WA where
  (pc bw dx x ld ls ln dp lp l0 tx : Nat)
  (tk : Nat → Tok)
  (ti : Tok)
noncomputable def WA.addrs (a : WA) : List Nat := [a.lp,a.dp,a.ln,a.ls,a.ld,a.x,a.dx,a.bw,a.pc,147]
noncomputable def WA.ord (a : WA) : Prop := 147 < a.pc ∧ a.pc < a.bw ∧ a.bw < a.dx ∧ a.dx < a.x ∧ a.x < a.ld ∧ a.ld < a.ls ∧ a.ls < a.ln ∧ a.ln < a.dp ∧ a.dp < a.lp
structure WSt where
  (ns nn np ps tps : Array Value)
  (n1 n2 n3 n4 n5 : Nat)
  (seen done : Bool)
noncomputable def WA.led (P : Params) (a : WA) (σ : WSt) : List (Addr × Obj) :=
  [(a.lp,listOf σ.np σ.n3),(a.dp,dictOf [] 0),(a.ln,listOf σ.nn σ.n2),(a.ls,listOf σ.ns σ.n1),(a.ld,listOf #[] σ.n4),(a.x,instObj 174 a.dx),(a.dx,dictOf (wEnts P a.tk a.bw a.ld a.ls a.ln a.dp a.lp σ.seen σ.done a.ti) 17),(a.bw,boundO a.pc),(a.pc,listOf σ.ps σ.n5),(147,tabObj σ.tps)]
theorem WA.led_addrs (P : Params) (a : WA) (σ : WSt) : (a.led P σ).map (·.1) = a.addrs := rfl
noncomputable abbrev lamQ : Str := Str.ofString "C14NWriterTarget._start" ++ ".<locals>." ++ "<lambda>"
structure WOk (P : Params) (a : WA) (d : Nat) (ts : List Str) (σ : WSt) (h : Heap) : Prop where
  led : ∀ q ∈ a.led P σ,h.get? q.1 = some q.2
  ns : NsOk h σ.ns a.l0 a.tx
  hls : ∀ (i : Nat) b,σ.ns[i]? = some (.ref b) → b ∉ a.addrs
  s1 : σ.ns.size = d + 1
  s2 : σ.nn.size = d + 2
  s3 : σ.np.size = d + 1
  y3 : ∀ (i : Nat) v,σ.np[i]? = some v → v = .bool false
  ps : StrsAre σ.ps.toList ts
  tab : TabS h 241 71 lamQ σ.tps
theorem strsAre_snoc {l : List Value} {ts : List Str} {t : Str} {k : Tok} (h : StrsAre l ts) : StrsAre (l ++ [.str t k]) (ts ++ [t]) := by
  induction h with
  | nil => exact .cons _ _ .nil
  | cons n t h ih => exact .cons _ _ ih
theorem strsAre_len {l : List Value} {ts : List Str} (h : StrsAre l ts) : l.length = ts.length := by
  induction h with
  | nil => rfl
  | cons n t h ih => simp [ih]
theorem WA.below {a : WA} (o : a.ord) {c : Nat} (h : a.lp < c) : ∀ b ∈ a.addrs,b < c := by
  refine ob_AAAAAAAA o fun o0 o8 o9 o1 o2 o3 o4 o5 o6 => ?_
  have c1 := Nat.lt_trans o6 h
  have c2 := Nat.lt_trans o5 c1
  have c3 := Nat.lt_trans o4 c2
  have c4 := Nat.lt_trans o3 c3
  have c5 := Nat.lt_trans o2 c4
  have c6 := Nat.lt_trans o1 c5
  have c7 := Nat.lt_trans o9 c6
  have c8 := Nat.lt_trans o8 c7
  exact List.forall_mem_cons.mpr ⟨h,List.forall_mem_cons.mpr ⟨c1,List.forall_mem_cons.mpr ⟨c2,List.forall_mem_cons.mpr ⟨c3,List.forall_mem_cons.mpr ⟨c4,List.forall_mem_cons.mpr ⟨c5,List.forall_mem_cons.mpr ⟨c6,List.forall_mem_cons.mpr ⟨c7,List.forall_mem_cons.mpr ⟨c8,List.forall_mem_cons.mpr ⟨Nat.lt_trans o0 c8,List.forall_mem_nil _⟩⟩⟩⟩⟩⟩⟩⟩⟩⟩
theorem WA.above {a : WA} (o : a.ord) : ∀ b ∈ [a.lp,a.dp,a.ln,a.ls,a.ld,a.x,a.dx,a.bw,a.pc],147 < b := by
  refine ob_AAAAAAAA o fun o0 o8 o9 o1 o2 o3 o4 o5 o6 => ?_
  have c1 := Nat.lt_trans o0 o8
  have c2 := Nat.lt_trans c1 o9
  have c3 := Nat.lt_trans c2 o1
  have c4 := Nat.lt_trans c3 o2
  have c5 := Nat.lt_trans c4 o3
  have c6 := Nat.lt_trans c5 o4
  have c7 := Nat.lt_trans c6 o5
  exact List.forall_mem_cons.mpr ⟨Nat.lt_trans c7 o6,List.forall_mem_cons.mpr ⟨c7,List.forall_mem_cons.mpr ⟨c6,List.forall_mem_cons.mpr ⟨c5,List.forall_mem_cons.mpr ⟨c4,List.forall_mem_cons.mpr ⟨c3,List.forall_mem_cons.mpr ⟨c2,List.forall_mem_cons.mpr ⟨c1,List.forall_mem_cons.mpr ⟨o0,List.forall_mem_nil _⟩⟩⟩⟩⟩⟩⟩⟩⟩
theorem WA.led_cls {P : Params} {a : WA} {σ : WSt} : ∀ q ∈ a.led P σ,q.2.cls ≠ .type "tuple" := by
  repeat (first | exact List.forall_mem_nil _ | refine List.forall_mem_cons.mpr ⟨by first | exact nt_l | exact nt_d | exact nt_i | exact nt_b | exact nt_t,?_⟩)
theorem less_of {a b c m : Nat} (h : a + m < c) (hb : b ≤ m) : a + b < c := Nat.lt_of_le_of_lt (Nat.add_le_add_left hb _) h
theorem size_of {n d k m : Nat} (h : n = d + k) (hd : d ≤ m) (hm : m + k ≤ 100) : n ≤ 100 := by rw [h]; exact Nat.le_trans (Nat.add_le_add_right hd k) hm
theorem start_call {prog : Program} {w : World} {g base : Heap} {outer : List Env} {env : Env} {L : Addr} {s : Shared} {m mg mb : Str → Option Value} {news : List (Addr × Obj)} {A₀ A : Around} {p : Program} {loose : List Str} {mean : ExcName → Option Value} {Q : Value → Shared → Prop} {E : Value → Shared → Prop}
    {a : WA} {σ : WSt} {d : Nat} {ts : List Str} {tag : Str} {tt : Tok} {at' : Nat}
    (B : Below A₀ base outer g) (F : Fr g L s.heap m) (X : (K0 w.params).In g) (T : Top p loose mean mg mb g) (N : News g L s.heap news) (hA : A.frames = some (env :: outer)) (hf : env.frame = some L) (hke : env.scope.kind = .function)
    (hh : A.handled = none) (hdp : A.depth + 60 < recursionLimit) (hun : A.units + 900 < cLine)
    (o : a.ord) (iat : (at',dictOf [] 0) ∈ news) (lat : a.lp < at') (sub : ∀ q ∈ a.led w.params σ,q ∈ news) (W : WOk w.params a d ts σ s.heap) (nsG : NsOk g σ.ns a.l0 a.tx) (hC : CodeHd g 149 147)
    (z1 : d ≤ 50) (z4 : ts.length ≤ 900) (z5 : tag.length ≤ 100) (hq : (PySem.Txt.slice tag none (some 1) == Str.ofString "{") = false)
    (k : ∀ h' tk' σ',WOk w.params a (d + 1) (ts ++ ["<" ++ tag, ">"]) σ' h' → (∀ b o,s.heap.get? b = some o → b ∉ at' :: a.addrs → h'.get? b = some o) → h'.get? at' = some (dictOf [] 0) → Q .none { s with heap := h',toks := tk',gens := s.gens.push .finished })
    : wpAny (model prog w) A (call (.ref 144) [.ref a.x,.str tag tt,.ref at']) Q E s := by
  refine ob_AAAAAAAA o fun o0 o8 o9 o1 o2 o3 o4 o5 o6 => ?_
  have hlen : σ.ps.size = ts.length := by rw [← strsAre_len W.ps,Array.length_toList]
  have s1 := W.s1
  have s2 := W.s2
  have s3 := W.s3
  have y3 : σ.np[σ.np.size - 1]? = some (.bool false) := by
    have : σ.np.size - 1 < σ.np.size := by simp [*]
    rw [Array.getElem?_eq_getElem this,W.y3 _ _ (Array.getElem?_eq_getElem this)]
  have hatg : g.get? at' = none := (N _ iat).2.2
  have hlat : ∀ (i : Nat) b,σ.ns[i]? = some (.ref b) → b ≠ at' := fun i b e q => by
    (refine ob_AAA nsG fun e0 e1 e2 _ => ?_; try clear nsG)
    rcases Nat.eq_zero_or_pos i with rfl | hi
    · rw [e0] at e
      cases e
      (refine ob_EA e1 fun oo ho _ => ?_; try clear e1)
      rw [q,hatg] at ho; cases ho
    · refine ob_EAEA (e2 i hi _ e) fun e' q' oo ho _ => ?_
      cases q'
      rw [q,hatg] at ho; cases ho
  refine wpAny_call ?_
  refine w_start (Pre.inner (led := (at',dictOf [] 0) :: a.led w.params σ) B F X T N ?sub hA hf hke hh (less_of hdp (by decide)) (less_of hun (by decide))) o0 o8 o9 o1 o2 o3 o4 o5 o6 lat (size_of s1 z1 (by decide)) (size_of s2 z1 (by decide)) (size_of s3 z1 (by decide)) (hlen ▸ Nat.le_trans z4 (by decide)) z5 y3 hq W.ns (fun i b e hm => ?_) hdp hun hC W.tab ?_
  case sub =>
    intro r hr
    rcases List.mem_cons.mp hr with rfl | hr
    · exact iat
    · exact sub r hr
  · rcases List.mem_cons.mp hm with rfl | hm
    · exact hlat i _ e rfl
    · exact W.hls i b e hm
  · intro b1 b2 h' tk' t1 t2 tps' hl hb1 hlt hk ht
    have hsub : ∀ q ∈ a.led w.params ⟨σ.ns.push (.ref b1),σ.nn.push (.ref b2),σ.np.push (.bool false),(σ.ps.push (.str ("<" ++ tag) t1)).push (.str ">" t2),tps',σ.n1 + 1,σ.n2 + 1,σ.n3 + 1,σ.n4,σ.n5 + 1 + 1,true,σ.done⟩,h'.get? q.1 = some q.2 := fun q hq => hl q (List.mem_cons_of_mem _ hq)
    refine k h' tk' ⟨σ.ns.push (.ref b1),σ.nn.push (.ref b2),σ.np.push (.bool false),(σ.ps.push (.str ("<" ++ tag) t1)).push (.str ">" t2),tps',σ.n1 + 1,σ.n2 + 1,σ.n3 + 1,σ.n4,σ.n5 + 1 + 1,true,σ.done⟩ ?_ hk (hl _ List.mem_cons_self)
    have hkeep : ∀ b oo,g.get? b = some oo → h'.get? b = some oo := fun b oo e => hk b oo (F.keep b oo e) fun hm => by
      rcases List.mem_cons.mp hm with rfl | hm
      · rw [hatg] at e; cases e
      · change b ∈ a.addrs at hm
        rw [← WA.led_addrs w.params a σ] at hm
        (refine ob_EA (List.mem_map.mp hm) fun q hq z1q => ?_; obtain rfl := z1q)
        rw [(N _ (sub q hq)).2.2] at e
        cases e
    have hb1n : b1 ∉ a.addrs := fun hm => Nat.lt_irrefl _ (WA.below o (Nat.lt_trans lat hlt) b1 hm)
    refine ⟨hsub,(nsG.keep hkeep).push hb1,fun i b e => ?_,by simp [s1],by simp [s2],by simp [s3],fun i v e => ?_,?_,ht⟩
    · dsimp only at e
      rw [Array.getElem?_push] at e
      split at e
      · cases e; exact hb1n
      · exact W.hls i b e
    · dsimp only at e
      rw [Array.getElem?_push] at e
      split at e
      · cases e; rfl
      · exact W.y3 i v e
    · have e2 : ((σ.ps.push (.str ("<" ++ tag) t1)).push (.str ">" t2)).toList = (σ.ps.toList ++ [.str ("<" ++ tag) t1]) ++ [.str ">" t2] := by simp
      have e3 : ts ++ [Str.ofString "<" ++ tag,Str.ofString ">"] = (ts ++ [Str.ofString "<" ++ tag]) ++ [Str.ofString ">"] := by simp
      have e4 := strsAre_snoc (t := Str.ofString ">") (k := t2) (strsAre_snoc (t := Str.ofString "<" ++ tag) (k := t1) W.ps)
      show StrsAre ((σ.ps.push (.str ("<" ++ tag) t1)).push (.str ">" t2)).toList _
      rw [e2,e3]
      exact e4
theorem unpush {α : Type} {xs : Array α} {n : Nat} (h : xs.size = n + 1) : ∃ (ys : Array α) (y : α),xs = ys.push y ∧ ys.size = n := by
  refine ob_EE (Array.eq_push_of_size_ne_zero (xs := xs) (by simp [*])) fun ys y e => ?_
  exact ⟨ys,y,e,by rw [e,Array.size_push] at h; lia⟩
theorem end_call {prog : Program} {w : World} {g base : Heap} {outer : List Env} {env : Env} {L : Addr} {s : Shared} {m mg mb : Str → Option Value} {news : List (Addr × Obj)} {A₀ A : Around} {p : Program} {loose : List Str} {mean : ExcName → Option Value} {Q : Value → Shared → Prop} {E : Value → Shared → Prop}
    {a : WA} {σ : WSt} {d : Nat} {ts : List Str} {tag : Str} {tt : Tok}
    (B : Below A₀ base outer g) (F : Fr g L s.heap m) (X : (K0 w.params).In g) (T : Top p loose mean mg mb g) (N : News g L s.heap news) (hA : A.frames = some (env :: outer)) (hf : env.frame = some L) (hke : env.scope.kind = .function)
    (hh : A.handled = none) (hdp : A.depth + 60 < recursionLimit) (hun : A.units + 900 < cLine)
    (o : a.ord) (sub : ∀ q ∈ a.led w.params σ,q ∈ news) (W : WOk w.params a (d + 1) ts σ s.heap)
    (z1 : d ≤ 50) (z4 : ts.length ≤ 900) (z5 : tag.length ≤ 100) (hq : (PySem.Txt.slice tag none (some 1) == Str.ofString "{") = false)
    (k : ∀ h' tk' σ',WOk w.params a d (ts ++ [Str.ofString "</" ++ tag ++ Str.ofString ">"]) σ' h' → (∀ b o,s.heap.get? b = some o → b ∉ a.addrs → h'.get? b = some o) → Q .none { s with heap := h',toks := tk',gens := s.gens.push .finished })
    : wpAny (model prog w) A (call (.ref 157) [.ref a.x,.str tag tt]) Q E s := by
  refine ob_AAAAAAAA o fun o0 o8 o9 o1 o2 o3 o4 o5 o6 => ?_
  obtain ⟨ns,nn,np,ps,tps,n1,n2,n3,n4,n5,seen,done⟩ := σ
  obtain ⟨led,ns1,hls,s1,s2,s3,y3,wps,tab⟩ := W
  have hlen : ps.size = ts.length := by rw [← strsAre_len wps,Array.length_toList]
  dsimp only at *
  (refine ob_EEA (unpush s1) fun ns v1 z2q s1' => ?_; obtain rfl := z2q)
  (refine ob_EEA (unpush s2) fun nn v2 z3q s2' => ?_; obtain rfl := z3q)
  (refine ob_EEA (unpush s3) fun np v3 z4q s3' => ?_; obtain rfl := z4q)
  have e3 : v3 = .bool false := y3 np.size v3 (by simp)
  subst e3
  refine wpAny_call ?_
  refine w_end (v1 := v1) (v2 := v2) (Pre.inner (led := (a.led w.params ⟨ns.push v1,nn.push v2,np.push (.bool false),ps,tps,n1,n2,n3,n4,n5,seen,done⟩).dropLast) B F X T N (fun q hq => sub q ((List.dropLast_sublist _).subset hq)) hA hf hke hh (less_of hdp (by decide)) (less_of hun (by decide))) o8 o9 o1 o2 o3 o4 o5 o6 (size_of s1' z1 (by decide)) (size_of s2' z1 (by decide)) (size_of s3' z1 (by decide)) (show ps.size ≤ 1000 from hlen ▸ Nat.le_trans z4 (by decide)) z5 hq ns1 (fun i b e hm => hls i b e (List.mem_append_left [147] hm)) hdp hun ?_
  intro done' h' tk' t1 hl hk
  have h147 : s.heap.get? 147 = some (tabObj tps) := led (147,tabObj tps) (List.mem_of_getElem? (i := 9) rfl)
  have n147 : (147 : Nat) ∉ [a.lp,a.dp,a.ln,a.ls,a.ld,a.x,a.dx,a.bw,a.pc] := fun hm => Nat.lt_irrefl _ (WA.above o _ hm)
  have hadd : ∀ b,b ∉ a.addrs → b ∉ [a.lp,a.dp,a.ln,a.ls,a.ld,a.x,a.dx,a.bw,a.pc] := fun b hb hm => hb (List.mem_append_left [147] hm)
  have hk2 : ∀ b oo,s.heap.get? b = some oo → b ∉ a.addrs → h'.get? b = some oo := fun b oo e hn => hk b oo e (hadd b hn)
  have hled : ∀ q ∈ a.led w.params ⟨ns,nn,np,ps.push (.str (Str.ofString "</" ++ tag ++ Str.ofString ">") t1),tps,n1 + 1,n2 + 1,n3 + 1,n4,n5 + 1,seen,done'⟩,h'.get? q.1 = some q.2 := fun q hq => by
    rcases List.mem_append.mp (show q ∈ [(a.lp,listOf np (n3 + 1)),(a.dp,dictOf [] 0),(a.ln,listOf nn (n2 + 1)),(a.ls,listOf ns (n1 + 1)),(a.ld,listOf #[] n4),(a.x,instObj 174 a.dx),(a.dx,dictOf (wEnts w.params a.tk a.bw a.ld a.ls a.ln a.dp a.lp seen done' a.ti) 17),(a.bw,boundO a.pc),(a.pc,listOf (ps.push (.str (Str.ofString "</" ++ tag ++ Str.ofString ">") t1)) (n5 + 1))] ++ [(147,tabObj tps)] from hq) with hq | hq
    · exact hl q hq
    · rw [List.mem_singleton.mp hq]
      exact hk _ _ h147 n147
  have s1 : ns.size = d + 1 := s1'
  have kl : ∀ (i : Nat) v,ns[i]? = some v → (ns.push v1)[i]? = some v := fun i v e => by
    have := (Array.getElem?_eq_some_iff.mp e).1
    rw [Array.getElem?_push_lt this, ← e,Array.getElem?_eq_getElem this]
  have hls' : ∀ (i : Nat) b,ns[i]? = some (.ref b) → b ∉ a.addrs := fun i b e => hls i b (kl i _ e)
  have hN : NsOk h' ns a.l0 a.tx := by
    (refine ob_AAAEE ns1 fun x0 x1 x2 u1 u2 x3 => ?_; try clear ns1)
    have kL : ∀ {b : Addr} {items : Array Value},s.heap.IsList b items → b ∉ a.addrs → h'.IsList b items := fun ⟨oo,ho,r⟩ hn => ⟨oo,hk2 _ oo ho hn,r⟩
    have h0 : ns[0]? = some (.ref a.l0) := by
      rw [Array.getElem?_push_lt (by lia)] at x0
      rw [← x0,Array.getElem?_eq_getElem (by lia)]
    refine ⟨h0,kL x1 (hls' 0 _ h0),fun i hi v hv => ?_,u1,u2,?_⟩
    · (refine ob_EA (x2 i hi v (kl i v hv)) fun e z5q he => ?_; obtain rfl := z5q)
      exact ⟨e,rfl,kL he (hls' i e hv)⟩
    · (refine ob_EAA x3 fun oo ho hc r => ?_; try clear x3)
      refine ⟨oo,hk2 _ oo ho fun hm => ?_,hc,r⟩
      rw [← WA.led_addrs w.params a ⟨ns.push v1,nn.push v2,np.push (.bool false),ps,tps,n1,n2,n3,n4,n5,seen,done⟩] at hm
      refine ob_EA (List.mem_map.mp hm) fun q hq e => ?_
      have e2 := led q hq
      rw [e,ho] at e2
      have e3 := Option.some.inj e2
      subst e3
      exact WA.led_cls q hq hc
  refine k h' tk' ⟨ns,nn,np,ps.push (.str (Str.ofString "</" ++ tag ++ Str.ofString ">") t1),tps,n1 + 1,n2 + 1,n3 + 1,n4,n5 + 1,seen,done'⟩ ⟨hled,hN,hls',s1,s2',s3',fun i v e => ?_,?_,?_⟩ hk2
  · have := (Array.getElem?_eq_some_iff.mp e).1
    exact y3 i v (by rw [Array.getElem?_push_lt this, ← e,Array.getElem?_eq_getElem this])
  · show StrsAre (ps.push _).toList _
    rw [Array.toList_push]
    exact strsAre_snoc wps
  · refine tab.imp id fun ⟨c',e,c,oo,vs,t,e1,e2,e3,e4⟩ => ⟨c',e,c,oo,vs,t,e1,hk2 _ _ e2 fun hm => ?_,e3,e4⟩
    rw [← WA.led_addrs w.params a ⟨ns.push v1,nn.push v2,np.push (.bool false),ps,tps,n1,n2,n3,n4,n5,seen,done⟩] at hm
    refine ob_EA (List.mem_map.mp hm) fun q hq ee => ?_
    have e5 := led q hq
    rw [ee,e2] at e5
    have e6 := Option.some.inj e5
    subst e6
    simp only [WA.led,List.mem_cons,List.not_mem_nil,or_false] at hq
    rcases hq with rfl | rfl | rfl | rfl | rfl | rfl | rfl | rfl | rfl | rfl
    all_goals first | (obtain rfl := Data.fields.inj e3; rw [e] at e4; simp [rawInt] at e4; done) | (obtain rfl := Data.fields.inj e3; simp at e4; done) | exact nomatch e3
theorem list_item {prog : Program} {w : World} {A : Around} {E : Value → Shared → Prop} {s : Shared} {value slice : Expr} {l : Addr} {its : Array Value} {i : Int} {u : Tok} {v : Value} {Q : Value → Shared → Prop} (hl : s.heap.IsList l its) (h0 : 0 ≤ i) (h1 : i < 2 ^ 63) (hv : its[i.toNat]? = some v) (h : Q v s)
    (hs : subscripted slice false (.ref l) (.int i u) = operate [.ref l,.int i u] (getItem (.ref l) (.int i u)) := by with_unfolding_all rfl) :
    wpAny (model prog w) A (subscriptTail value slice (.ref l) (.int i u)) Q E s :=
  tail_any hl.typeIs slot_list_getitem.lookup (wpAny_getItem_list hl h0 h1 hv h) hs
noncomputable def Hold (p : Prop) : Prop := p
theorem Hold.out {p : Prop} (h : Hold p) : p := h
theorem after_call {g h h' : Heap} {L : Addr} {m : Str → Option Value} {news l' : List (Addr × Obj)} {addrs : List Addr} (F : Fr g L h m) (N : News g L h news) (hA : ∀ b ∈ addrs,∃ q ∈ news,q.1 = b) (hk : ∀ b o,h.get? b = some o → b ∉ addrs → h'.get? b = some o)
    (hl : ∀ q ∈ l',h'.get? q.1 = some q.2) (ha : ∀ q ∈ l',q.1 ∈ addrs) : Fr g L h' m ∧ News g L h' l' := by
  have n : ∀ b ∈ addrs,b ≠ L ∧ g.get? b = none := fun b hb => let ⟨q,hq,e⟩ := hA b hb; e ▸ (N q hq).2
  refine ⟨⟨F.ns.at' fun o e => hk L o e fun hm => (n L hm).1 rfl,fun b o e => hk b o (F.keep b o e) fun hm => ?_,F.above⟩,fun q hq => ⟨hl q hq,n _ (ha q hq)⟩⟩
  rw [(n b hm).2] at e
  cases e
noncomputable def toldP (names : List Str) (hosts : List Int) : Nat → Nat → List Str
  | 0,_ => []
  | f + 1,n => [Str.ofString "<" ++ names.getD n (Str.ofString ""),Str.ofString ">"] ++ ((List.range' (n + 1) (4 - n)).flatMap fun o => if hosts.getD o 0 = (n : Int) then toldP names hosts f o else []) ++ [Str.ofString "</" ++ names.getD n (Str.ofString "") ++ Str.ofString ">"]
noncomputable def AllFin (g : Array GenState) : Prop := ∀ x ∈ g.toList,x = .finished
theorem AllFin.push {g : Array GenState} (h : AllFin g) : AllFin (g.push .finished) := fun x hx => by
  rw [Array.toList_push] at hx
  rcases List.mem_append.mp hx with hx | hx
  · exact h x hx
  · exact List.mem_singleton.mp hx
noncomputable def NamesOk (names : List Str) : Prop := names.length = 5 ∧ ∀ t ∈ names,t.length ≤ 100 ∧ (PySem.Txt.slice t none (some 1) == Str.ofString "{") = false
noncomputable def bnd (n : Nat) : Nat := 3 * 2 ^ (4 - n)
noncomputable def ToldOk (prog : Program) (w : World) (n : Nat) : Prop := ∀ {A : Around} {s : Shared} {hb base : Heap} {outer : List Env} {R : Result → Shared → Prop} {a : WA} {σ : WSt} {d : Nat} {ts : List Str} {nm hs : Nat} {nv hv : List Value} {names : List Str} {hosts : List Int} {t : Tok},
  Pre (K0 w.params) hb A s (a.led w.params σ) base outer → a.ord → WOk w.params a d ts σ s.heap → CodeHd hb 149 147 → s.heap.IsList nm nv.toArray → nm ∉ a.addrs → StrsAre nv names → NamesOk names → s.heap.IsList hs hv.toArray → hs ∉ a.addrs → IntsAre hv hosts → hosts.length = 5 →
  d + (4 - n) ≤ 40 → ts.length + bnd n ≤ 900 → A.depth + 80 + 10 * (4 - n) < recursionLimit → A.units + 1000 + 50 * (4 - n) < cLine → AllFin s.gens →
  (∀ h' tk' gs σ',WOk w.params a d (ts ++ toldP names hosts (5 - n) n) σ' h' → (∀ b o,s.heap.get? b = some o → b ∉ a.addrs → h'.get? b = some o) → AllFin gs → R (.ok (.ret .none)) { s with heap := h',toks := tk',gens := gs }) →
  codeAny (model prog w) A (.call (.ref 204) ⟨[.ref a.x,.ref nm,.ref hs,.int n t], []⟩) R s
theorem strsAre_at : ∀ {nv : List Value} {names : List Str},StrsAre nv names → ∀ {n : Nat},n < names.length → ∃ t,nv.toArray[n]? = some (.str (names.getD n (Str.ofString "")) t) ∧ names.getD n (Str.ofString "") ∈ names := by
  intro nv names h
  induction h with
  | nil => intro n hn; simp at hn
  | cons y t h ih =>
    intro n hn
    cases n with
    | zero => exact ⟨t,by simp,by simp⟩
    | succ n =>
      refine ob_EA (ih (n := n) (by simpa using hn)) fun t' e m => ?_
      exact ⟨t',by simpa using e,by simpa using .inr m⟩
noncomputable def rI (x left : Int) : Obj := { cls := .type "range_iterator",dict := none,data := .fields #[rawInt x,rawInt left,rawInt 1],slots := #[] }
theorem range_loop {prog : Program} {w : World} {A : Around} {s : Shared} {env : Env} {y : Str} {py : Pos} {I : Addr} {lo : Int} {cnt : Nat} {body : List Stmt} {R : Result → Shared → Prop} (J : Nat → Shared → Prop) (hh : A.handled = none)
    (hJ : ∀ i s',J i s' → s'.heap.get? I = some (rI (lo + (i : Nat)) ((cnt : Int) - (i : Nat)))) (h0 : J 0 s)
    (turn : ∀ i s' h',i < cnt → J i s' → Heap.SameBut I s'.heap h' → h'.get? I = some (rI (lo + (i : Nat) + 1) ((cnt : Int) - (i : Nat) - 1)) →
      wpAny (model prog w) A (assign (.Name y py) env (.int (lo + (i : Nat)) s'.toks)) (fun _ s₂ => wpAny (model prog w) A (execs body env) (fun f s₃ => f = .next ∧ J (i + 1) s₃) NoE s₂) NoE { s' with heap := h',toks := s'.toks + 1 })
    (fin : ∀ s' h',J cnt s' → Heap.ExtBut I s'.heap h' → R (.ok .next) { s' with heap := h' }) :
    codeAny (model prog w) A (.forLoop (.Name y py) (.ref I) body [] env) R s := by
  refine codeAny_forLoop_any (fun n s' => ∃ i,i ≤ cnt ∧ n = cnt + 1 - i ∧ J i s') ?_ (cnt + 1) ⟨0,Nat.zero_le _,rfl,h0⟩
  rintro n s' ⟨i,hi,rfl,hj⟩
  have hI := hJ i s' hj
  by_cases hlt : i < cnt
  · refine wpAny_pyNext_range_item (step := 1) hI (by simp [*]) fun h' e hs => ?_
    refine wpAny_pure ?_
    refine wpAny_mono (turn i s' h' hlt hj hs e) (fun _ s₂ h₂ => wpAny_mono h₂ (fun f s₃ h₃ => ?_) fun _ _ e => e.elim) fun _ _ e => e.elim
    obtain ⟨rfl,h₃⟩ := h₃
    exact ⟨cnt + 1 - (i + 1),Nat.sub_succ_lt_self _ _ (Nat.lt_succ_of_lt hlt),i + 1,hlt,rfl,h₃⟩
  · obtain rfl : i = cnt := by exact Nat.le_antisymm (by assumption) (Nat.le_of_not_lt (by assumption))
    refine wpAny_pyNext_range_end (step := 1) hh hI (by simp) fun h' e => ?_
    exact wpAny_pure (fin s' h' hj e)
theorem newsStep {g h h1 : Heap} {L I : Addr} {m : Str → Option Value} {o o1 : Obj} {rest : List (Addr × Obj)} (F : Fr g L h m) (N : News g L h ((I,o) :: rest)) (hn : ∀ q ∈ rest,q.1 ≠ I) (hs : Heap.SameBut I h h1) (e : h1.get? I = some o1) : Fr g L h1 m ∧ News g L h1 ((I,o1) :: rest) := by
  have z := N (I,o) List.mem_cons_self
  exact ⟨F.change hs z.2.1 z.2.2,news_set (pre := []) N (fun _ hp => nomatch hp) hn hs e⟩
theorem fr_congr {g h : Heap} {L : Addr} {m m' : Str → Option Value} (F : Fr g L h m) (e : m = m') : Fr g L h m' := e ▸ F
theorem WA.led_nc {P : Params} {a : WA} {σ : WSt} {h : Heap} {ln cn : Nat} {qual : Str} (hT : TabS h ln cn qual σ.tps) : ∀ q ∈ a.led P σ,noCode q.2 := by
  repeat (first | exact List.forall_mem_nil _ | refine List.forall_mem_cons.mpr ⟨by first | exact nc_l | exact nc_d | exact nc_i | exact nc_b | exact nc_t hT,?_⟩)
theorem ar_o {n o : Nat} (h : n ≤ 4) (b : o < n + 1 + (4 - n)) : o ≤ 4 := Nat.le_of_lt_succ (Nat.lt_of_lt_of_eq b ((Nat.add_right_comm n 1 (4 - n)).trans (congrArg (· + 1) (Nat.add_sub_of_le h))))
theorem ar_f {n o f : Nat} (h : n ≤ 4) (h1 : 5 - n ≤ f + 1) (a : n + 1 ≤ o) : 5 - o ≤ f := Nat.le_trans (Nat.sub_le_sub_left a 5) (Nat.pred_le_pred h1)
theorem ar_p {n : Nat} (h : n ≤ 4) (h1 : 5 - n ≤ 0) : False := Nat.not_le_of_lt (Nat.sub_pos_of_lt (Nat.lt_succ_of_le h)) h1
theorem ar_5 {n : Nat} (h : n ≤ 4) : 5 - n = (4 - n) + 1 := Nat.succ_sub h
theorem ar_f4 {n o : Nat} (h : n ≤ 4) (a : n + 1 ≤ o) : 5 - o ≤ 4 - n := Nat.le_trans (Nat.sub_le_sub_left a 5) (Nat.le_of_eq (Nat.succ_sub_succ 4 n))
theorem ar_ss {k i : Nat} (h : i + 1 ≤ k) : k - i = k - (i + 1) + 1 := (Nat.succ_pred_eq_of_pos (Nat.sub_pos_of_lt h)).symm
theorem ar_s3 {n i : Nat} : 4 - (n + 1 + i) = 4 - n - (i + 1) := by rw [Nat.add_assoc,Nat.add_comm 1 i]; exact Nat.sub_add_eq ..
theorem ar_kl {k p q x y B : Nat} (a : p + k * x ≤ B) (e : x = 2 * y) (b : q ≤ k * y) : p + q + k * y ≤ B :=
  Nat.le_trans (Nat.le_of_eq (Nat.add_assoc p q (k * y))) (Nat.le_trans (Nat.add_le_add_left (Nat.le_trans (Nat.add_le_add_right b (k * y)) (Nat.le_of_eq ((Nat.mul_add k y y).symm.trans (congrArg (k * ·) ((Nat.two_mul y).symm.trans e.symm))))) p) a)
theorem ar_km {p x y B : Nat} (a : p + 3 * x ≤ B) (e : x = 2 * y) (b : 0 < y) : p + 2 + 3 * y ≤ B := ar_kl a e (Nat.le_trans (by decide : 2 ≤ 3 * 1) (Nat.mul_le_mul_left 3 b))
theorem ar_lt {n i : Nat} (h : i < 4 - n) : 4 - (n + 1 + i) < 4 - n := by rw [ar_s3]; exact Nat.sub_lt (Nat.zero_lt_of_lt h) (Nat.succ_pos i)
theorem ar_w {x c b a L k d : Nat} (h : x + c + k * b < L) (q : a < b) (hd : d ≤ k) : x + d + c + k * a < L :=
  Nat.lt_of_le_of_lt (Nat.le_trans (Nat.le_of_eq (by rw [Nat.add_right_comm x d c,Nat.add_assoc,Nat.add_comm d])) (Nat.add_le_add_left (Nat.le_trans (Nat.add_le_add_left hd (k * a)) (Nat.mul_le_mul_left k q)) (x + c))) h
theorem ar_u {d b a : Nat} (h : d + b ≤ 40) (q : a < b) : d + 1 + a ≤ 40 := Nat.le_trans (Nat.le_of_eq (by rw [Nat.add_assoc,Nat.add_comm 1])) (Nat.le_trans (Nat.add_le_add_left q d) h)
theorem ar_r {x c L d : Nat} (h : x + c < L) (q : d ≤ c) : x + d < L := Nat.lt_of_le_of_lt (Nat.add_le_add_left q x) h
theorem ar_i4 {n i : Nat} (h : n ≤ 4) (a : i + 1 ≤ 4 - n) : n + 1 + i ≤ 4 := Nat.le_trans (Nat.le_of_eq (Nat.add_right_comm n 1 i)) (Nat.add_le_of_le_sub' (n := i + 1) h a)
theorem ar_k5 {n : Nat} (h : n ≤ 4) : ((4 - n : Nat) : Int) = 5 - ((n : Int) + 1) := (Int.ofNat_sub h).trans (Int.add_sub_add_right 4 1 n).symm
theorem ar_t {t k b B : Nat} (h : t + B ≤ 900) (a : k + 2 + b ≤ B) : t + (0 + 1 + 1) + k + b ≤ 900 := Nat.le_trans (by rw [Nat.add_assoc t,Nat.add_comm _ k,Nat.add_assoc t]; exact Nat.add_le_add_left a t) h
theorem WOk.hide {P : Params} {a : WA} {d : Nat} {ts : List Str} {σ : WSt} {h g : Heap} (W : WOk P a d ts σ h) (hk : ∀ b o,h.get? b = some o → b ∉ a.addrs → g.get? b = some o) : NsOk g σ.ns a.l0 a.tx ∧ TabS g 241 71 lamQ σ.tps :=
  ⟨W.ns.hide (led := a.led P σ) hk W.led WA.led_cls W.hls,W.tab.hide (led := a.led P σ) W.led (WA.led_nc W.tab) hk⟩
theorem WOk.re {P : Params} {a : WA} {d : Nat} {ts : List Str} {σ : WSt} {h h' g : Heap} {L : Addr} {m : Str → Option Value} {news : List (Addr × Obj)} (W : WOk P a d ts σ h) (F : Fr g L h' m) (N : News g L h' news) (sub : ∀ q ∈ a.led P σ,q ∈ news) (nsG : NsOk g σ.ns a.l0 a.tx) (tG : TabS g 241 71 lamQ σ.tps) : WOk P a d ts σ h' :=
  ⟨fun q hq => (N q (sub q hq)).1,nsG.keep F.keep,W.hls,W.s1,W.s2,W.s3,W.y3,W.ps,tG.keep F.keep⟩
noncomputable def IterP (g : Heap) (L : Addr) (m : Str → Option Value) (led : List (Addr × Obj)) (lo : Int) (s0 : Shared) (v : Value) (s₁ : Shared) : Prop :=
  ∃ r t1 t2 t3 h tk,v = .ref r ∧ s₁ = { s0 with heap := h,toks := tk } ∧ Fr g L h m ∧ News g L h led ∧ IsRange h r lo 5 1 t1 t2 t3 ∧ ∀ b o,s0.heap.get? b = some o → h.get? b = some o
theorem for_range {prog : Program} {w : World} {A : Around} {E : Value → Shared → Prop} {s : Shared} {g : Heap} {L : Addr} {m : Str → Option Value} {led : List (Addr × Obj)} {env : Env} {lo : Int} {tg iter : Expr} {body : List Stmt} {pos : Pos} {Q : Flow → Shared → Prop} (hlo : 0 ≤ lo) (hhi : lo ≤ 5) (F : Fr g L s.heap m) (N : News g L s.heap led)
    (h1 : wpAny (model prog w) A (eval iter env) (fun v s₁ => IterP g L m led lo s v s₁) E s)
    (h2 : ∀ (I : Nat) h tk,Fr g L h m → News g L h ((I,rI lo (5 - lo)) :: led) → (∀ q ∈ led,@LT.lt Nat _ q.1 I) → (∀ b o,s.heap.get? b = some o → h.get? b = some o) → codeAny (model prog w) A (.forLoop tg (.ref I) body [] env) (fun r s' => match r with | .ok f => Q f s' | .error e => cameBackBy (model prog w) A env E e s') { s with heap := h,toks := tk })
    (hs : ∀ x,foldedSetIterable iter env x = pure x := by intro _; rfl) : wpAny (model prog w) A (exec (.For tg iter body [] pos) env) Q E s := by
  refine wpAny_For (wpAny_mono h1 (fun v s₁ hv => ?_) fun _ _ e => e) hs
  (refine ob_EEEEEEAAAAA hv fun r t1 t2 t3 h tk z2q z3q F1 N1 hr hk => ?_; try clear hv; obtain rfl := z2q; obtain rfl := z3q)
  refine wpAny_pyIter_range hr (small_one (by lia) (by lia) (by exact Int.natCast_nonneg _) (by exact Int.natCast_nonneg _)) ?_
  have e : Builtin.Range.rangeSize lo 5 1 = 5 - lo := by rw [rangeSize_nat]; exact Int.toNat_of_nonneg (Int.sub_nonneg_of_le hhi)
  rw [e]
  exact h2 _ _ _ (F1.push _) (News.push F1 N1 (rI lo (5 - lo)) rfl) (fun p hp => Heap.lt_size (N1 p hp).1) fun b o e => Heap.get?_push_of_some _ (hk b o e)
theorem flatMap_ext {α β : Type} {f g : α → List β} : ∀ {l : List α},(∀ a ∈ l,f a = g a) → l.flatMap f = l.flatMap g
  | [],_ => rfl
  | a :: l,h => by rw [List.flatMap_cons,List.flatMap_cons,h a List.mem_cons_self,flatMap_ext fun b hb => h b (List.mem_cons_of_mem _ hb)]
theorem toldP_fuel {names : List Str} {hosts : List Int} : ∀ (f f' n : Nat),n ≤ 4 → 5 - n ≤ f → 5 - n ≤ f' → toldP names hosts f n = toldP names hosts f' n
  | 0,_,n,h,h1,_ => (ar_p h h1).elim
  | _,0,n,h,_,h2 => (ar_p h h2).elim
  | f + 1,f' + 1,n,h,h1,h2 => by
    unfold toldP
    congr 2
    refine flatMap_ext fun o ho => ?_
    refine ob_A (List.mem_range'_1.mp ho) fun a b => ?_
    rw [toldP_fuel f f' o (ar_o h b) (ar_f h h1 a) (ar_f h h2 a)]
noncomputable def kidsP (names : List Str) (hosts : List Int) (n i : Nat) : List Str := (List.range' (n + 1) i).flatMap fun o => if hosts.getD o 0 = (n : Int) then toldP names hosts (5 - o) o else []
theorem kidsP_succ {names : List Str} {hosts : List Int} {n i : Nat} : kidsP names hosts n (i + 1) = kidsP names hosts n i ++ if hosts.getD (n + 1 + i) 0 = (n : Int) then toldP names hosts (5 - (n + 1 + i)) (n + 1 + i) else [] := by
  unfold kidsP
  rw [List.range'_1_concat,List.flatMap_append,List.flatMap_singleton]
theorem toldP_eq {names : List Str} {hosts : List Int} {n : Nat} (h : n ≤ 4) : toldP names hosts (5 - n) n = [Str.ofString "<" ++ names.getD n (Str.ofString ""),Str.ofString ">"] ++ kidsP names hosts n (4 - n) ++ [Str.ofString "</" ++ names.getD n (Str.ofString "") ++ Str.ofString ">"] := by
  rw [ar_5 h]
  unfold toldP kidsP
  congr 2
  refine flatMap_ext fun o ho => ?_
  refine ob_A (List.mem_range'_1.mp ho) fun a b => ?_
  rw [toldP_fuel (4 - n) (5 - o) o (ar_o h b) (ar_f4 h a) (Nat.le_refl _)]
theorem kids_len {names : List Str} {hosts : List Int} {n : Nat} (hn : n ≤ 4) (ih : ∀ o,n < o → o ≤ 4 → (toldP names hosts (5 - o) o).length ≤ bnd o) : ∀ i,i ≤ 4 - n → (kidsP names hosts n i).length + 3 * 2 ^ (4 - n - i) ≤ 3 * 2 ^ (4 - n)
  | 0,_ => by simp [kidsP]
  | i + 1,hi => by
    have a := kids_len hn ih i (by exact Nat.le_of_lt (by assumption))
    rw [kidsP_succ,List.length_append]
    have e : (2 : Nat) ^ (4 - n - i) = 2 * 2 ^ (4 - n - (i + 1)) := by
      rw [ar_ss hi,Nat.pow_succ,Nat.mul_comm]
    have b : (if hosts.getD (n + 1 + i) 0 = (n : Int) then toldP names hosts (5 - (n + 1 + i)) (n + 1 + i) else []).length ≤ 3 * 2 ^ (4 - n - (i + 1)) := by
      split
      · have c := ih (n + 1 + i) (by exact Nat.le_add_right _ _) (ar_i4 hn hi)
        unfold bnd at c
        rw [ar_s3] at c
        exact c
      · exact Nat.zero_le _
    exact ar_kl a e b
theorem toldP_len {names : List Str} {hosts : List Int} : ∀ (k n : Nat),n ≤ 4 → 4 - n = k → (toldP names hosts (5 - n) n).length ≤ bnd n := by
  intro k
  induction k using Nat.strongRecOn with
  | _ k ih =>
    intro n hn hk
    have a := kids_len (names := names) (hosts := hosts) hn (fun o h1 h2 => ih (4 - o) (hk ▸ Nat.sub_lt_sub_left (Nat.lt_of_lt_of_le h1 h2) h1) o h2 rfl) (4 - n) (Nat.le_refl _)
    rw [toldP_eq hn]
    simp only [List.length_append,List.length_cons,List.length_nil]
    unfold bnd
    have e : 4 - n - (4 - n) = 0 := by exact Nat.sub_self _
    rw [e] at a
    lia
theorem kids_room {names : List Str} {hosts : List Int} {n i : Nat} (hn : n ≤ 4) (hi : i < 4 - n) : (kidsP names hosts n i).length + 2 + bnd (n + 1 + i) ≤ bnd n := by
  have a := kids_len (names := names) (hosts := hosts) hn (fun o h1 h2 => toldP_len _ o h2 rfl) i (by exact Nat.le_of_lt (by assumption))
  have e : (2 : Nat) ^ (4 - n - i) = 2 * 2 ^ (4 - (n + 1 + i)) := by
    rw [ar_s3,ar_ss (k := 4 - n) (i := i) hi,Nat.pow_succ,Nat.mul_comm]
  have p : 0 < (2 : Nat) ^ (4 - (n + 1 + i)) := Nat.pow_pos (by decide)
  unfold bnd
  exact ar_km a e p
theorem kids_all {names : List Str} {hosts : List Int} {n : Nat} (hn : n ≤ 4) : (kidsP names hosts n (4 - n)).length + 3 ≤ bnd n := by
  have a := kids_len (names := names) (hosts := hosts) hn (fun o h1 h2 => toldP_len _ o h2 rfl) (4 - n) (Nat.le_refl _)
  rw [show 4 - n - (4 - n) = 0 by exact Nat.sub_self _] at a
  unfold bnd
  exact a
noncomputable def Foreign (o : Obj) : Prop := (∀ its n,o.data ≠ .seq its n) ∧ ∀ vs q t,o.data = .fields vs → vs[1]? ≠ some (.str q t)
theorem foreign_rI {x l : Int} : Foreign (rI x l) := ⟨fun _ _ e => (nomatch e),fun vs q t e => by
  obtain rfl := Data.fields.inj e
  simp [rawInt]⟩
theorem foreign_dict {o : Obj} {es ep} (e : o.data = .dict es ep) : Foreign o := ⟨fun _ _ q => (by rw [e] at q; cases q),fun vs q t x => by rw [e] at x; cases x⟩
theorem WOk.chg {P : Params} {a : WA} {d : Nat} {ts : List Str} {σ : WSt} {h h' : Heap} {I : Nat} (W : WOk P a d ts σ h) (hk : ∀ b o,h.get? b = some o → b ≠ I → h'.get? b = some o) (hI : ∀ o,h.get? I = some o → Foreign o) (hn : ∀ q ∈ a.led P σ,q.1 ≠ I) : WOk P a d ts σ h' := by
  have kl : ∀ {b : Addr} {its : Array Value},h.IsList b its → h'.IsList b its := fun ⟨oo,ho,hc,n,hd⟩ => ⟨oo,hk _ oo ho fun e => (hI oo (e ▸ ho)).1 _ _ hd,hc,n,hd⟩
  refine ob_AAAEEEAAE W.ns fun x0 x1 x2 u1 u2 oo ho hc n hd => ?_
  refine ⟨fun q hq => hk _ _ (W.led q hq) (hn q hq),⟨x0,kl x1,fun i hi v hv => let ⟨e,he,hl⟩ := x2 i hi v hv; ⟨e,he,kl hl⟩,u1,u2,oo,hk _ oo ho fun e => (hI oo (e ▸ ho)).1 _ _ hd,hc,n,hd⟩,W.hls,W.s1,W.s2,W.s3,W.y3,W.ps,?_⟩
  exact W.tab.imp id fun ⟨c',e,c,oo,vs,t,e1,e2,e3,e4⟩ => ⟨c',e,c,oo,vs,t,e1,hk _ _ e2 fun e => (hI oo (e ▸ e2)).2 vs _ _ e3 e4,e3,e4⟩
theorem WOk.up {P : Params} {a : WA} {d : Nat} {ts : List Str} {σ : WSt} {h h' : Heap} (W : WOk P a d ts σ h) (hk : ∀ b o,h.get? b = some o → h'.get? b = some o) : WOk P a d ts σ h' :=
  ⟨fun q hq => hk _ _ (W.led q hq),W.ns.keep hk,W.hls,W.s1,W.s2,W.s3,W.y3,W.ps,W.tab.keep hk⟩
structure LoopJ (P : Params) (a : WA) (g : Heap) (L : Addr) (m : Str → Option Value) (I n cnt d : Nat) (ts : List Str) (names : List Str) (hosts : List Int) (s : Shared) (ov : Option Value) (i : Nat) (s' : Shared) (h : Heap) (σ' : WSt) : Prop where
  e : ∃ tk gs,s' = { s with heap := h,toks := tk,gens := gs } ∧ AllFin gs
  F : Fr g L h (fun y => if y = Str.ofString "other" then ov else m y)
  N : News g L h ((I,rI ((n : Int) + 1 + (i : Nat)) ((cnt : Int) - (i : Nat))) :: a.led P σ')
  W : WOk P a d (ts ++ kidsP names hosts n i) σ' h
noncomputable def LoopEx (P : Params) (a : WA) (g : Heap) (L : Addr) (m : Str → Option Value) (I n cnt d : Nat) (ts : List Str) (names : List Str) (hosts : List Int) (s : Shared) (i : Nat) (f : Flow) (s' : Shared) : Prop := f = .next ∧ ∃ ov h σ',LoopJ P a g L m I n cnt d ts names hosts s ov i s' h σ'
theorem led_lt {P : Params} {a : WA} {σ σ' : WSt} {I : Nat} (l : ∀ q ∈ a.led P σ,@LT.lt Nat _ q.1 I) : ∀ q ∈ a.led P σ',@LT.lt Nat _ q.1 I := fun q hq => by
  have : q.1 ∈ a.addrs := by rw [← WA.led_addrs P a σ']; exact List.mem_map_of_mem hq
  rw [← WA.led_addrs P a σ] at this
  refine ob_EA (List.mem_map.mp this) fun r hr e => ?_
  exact e ▸ l r hr
theorem told_loop {prog : Program} {w : World} {A : Around} {s : Shared} {env : Env} {py : Pos} {I n cnt d : Nat} {g : Heap} {m : Str → Option Value} {body : List Stmt} {R : Result → Shared → Prop} {a : WA} {σ : WSt} {ts names : List Str} {hosts : List Int}
    (hh : A.handled = none) (hx : env.kindOf (Str.ofString "other") = some .local) (hp : (env.scope.kind == .class || (env.scope.kind == .module && env.locals != env.globals)) = false) (F : Fr g env.locals s.heap m) (hm : m (Str.ofString "other") = none) (N : News g env.locals s.heap ((I,rI ((n : Int) + 1) (5 - ((n : Int) + 1))) :: a.led w.params σ)) (l : ∀ q ∈ a.led w.params σ,@LT.lt Nat _ q.1 I) (W : WOk w.params a d ts σ s.heap) (gf : AllFin s.gens) (hc : cnt = 4 - n) (hn : n ≤ 4)
    (turn : ∀ i h tk gs σ' t,i < cnt → AllFin gs → Fr g env.locals h (fun y => if y = Str.ofString "other" then some (.int ((n : Int) + 1 + (i : Nat)) t) else m y) → News g env.locals h ((I,rI ((n : Int) + 1 + (i + 1 : Nat)) ((cnt : Int) - (i + 1 : Nat))) :: a.led w.params σ') → WOk w.params a d (ts ++ kidsP names hosts n i) σ' h →
      wpAny (model prog w) A (execs body env) (fun f s₃ => LoopEx w.params a g env.locals m I n cnt d ts names hosts s (i + 1) f s₃) NoE { s with heap := h,toks := tk,gens := gs })
    (fin : ∀ ov h tk gs σ',AllFin gs → Fr g env.locals h (fun y => if y = Str.ofString "other" then ov else m y) → News g env.locals h (a.led w.params σ') → WOk w.params a d (ts ++ kidsP names hosts n cnt) σ' h → R (.ok .next) { s with heap := h,toks := tk,gens := gs }) :
    codeAny (model prog w) A (.forLoop (.Name (Str.ofString "other") py) (.ref I) body [] env) R s := by
  refine range_loop (lo := (n : Int) + 1) (cnt := cnt) (fun i s' => ∃ ov h σ',LoopJ w.params a g env.locals m I n cnt d ts names hosts s ov i s' h σ') hh ?hJ ?h0 ?turn ?fin
  case hJ =>
    rintro i s' ⟨ov,h,σ',⟨tk,gs,rfl,_⟩,_,N5,_⟩
    exact (N5 _ List.mem_cons_self).1
  case h0 =>
    refine ⟨none,s.heap,σ,⟨s.toks,s.gens,rfl,gf⟩,fr_congr F ?_,?_,?_⟩
    · funext y
      split
      · rename_i e; rw [e]; exact hm
      · rfl
    · have e1 : (n : Int) + 1 + ((0 : Nat) : Int) = (n : Int) + 1 := by rfl
      have e2 : (cnt : Int) - ((0 : Nat) : Int) = 5 - ((n : Int) + 1) := (Int.sub_zero _).trans (hc ▸ ar_k5 hn)
      rw [e1,e2]
      exact N
    · have e : kidsP names hosts n 0 = [] := rfl
      rw [e,List.append_nil]
      exact W
  case turn =>
    rintro i s' h' hlt ⟨ov,h,σ',⟨tk,gs,rfl,gf'⟩,F5,N5,W5⟩ hs5 e5
    have l5 := led_lt (σ' := σ') l
    have ne5 : ∀ q ∈ a.led w.params σ',q.1 ≠ I := fun q hq => Nat.ne_of_lt (l5 q hq)
    refine ob_A (newsStep F5 N5 ne5 hs5 e5) fun F6 N6 => ?_
    have W6 : WOk w.params a d (ts ++ kidsP names hosts n i) σ' h' := W5.chg (fun b o e hb => (hs5.2 b hb).trans e) (fun o e => by
      rw [(N5 _ List.mem_cons_self).1] at e
      cases e
      exact foreign_rI) ne5
    refine wpAny_assign_Name (wpAny_storeName_local hx F6.ns (fun h₂ hn₂ hs₂ => ?_) hp)
    refine ob_EEEAA F6.ns fun oL es ep eL dL _ => ?_
    refine turn i h₂ _ gs σ' tk hlt gf' (fr_congr (F6.set hn₂ hs₂) ?_) (fun q hq => ?_) (W6.chg (fun b o e hb => (hs₂.2 b hb).trans e) (fun o e => by
      rw [show h'.get? env.locals = some o from e] at eL
      cases eL
      exact foreign_dict dL) fun q hq => (N6 q (List.mem_cons_of_mem _ hq)).2.1)
    · funext y
      split
      · rfl
      · rfl
    · have z := N6 q (by
        have e1 : (n : Int) + 1 + ((i + 1 : Nat) : Int) = (n : Int) + 1 + (i : Nat) + 1 := by rfl
        have e2 : (cnt : Int) - ((i + 1 : Nat) : Int) = (cnt : Int) - (i : Nat) - 1 := by simp +arith
        rw [← e1, ← e2]; exact hq)
      exact ⟨(hs₂.2 _ z.2.1).trans z.1,z.2⟩
  case fin =>
    rintro s' h' ⟨ov,h,σ',⟨tk,gs,rfl,gf'⟩,F5,N5,W5⟩ hs5
    have l5 := led_lt (σ' := σ') l
    have zI := N5 _ List.mem_cons_self
    have k5 : ∀ b o,h.get? b = some o → b ≠ I → h'.get? b = some o := fun b o e hb => hs5 b o hb e
    refine fin ov h' tk gs σ' gf' ⟨F5.ns.at' fun o e => k5 _ o e zI.2.1.symm,fun b o e => k5 b o (F5.keep b o e) fun q => (by rw [q,zI.2.2] at e; cases e),F5.above⟩ (fun q hq => ?_) (W5.chg k5 (fun o e => by
      rw [zI.1] at e
      cases e
      exact foreign_rI) fun q hq => Nat.ne_of_lt (l5 q hq))
    have z := N5 q (List.mem_cons_of_mem _ hq)
    exact ⟨k5 _ _ z.1 (Nat.ne_of_lt (l5 q hq)),z.2⟩
theorem led_call {P : Params} {a : WA} {σ σ' : WSt} {g h h' : Heap} {L : Addr} {m : Str → Option Value} {pre : List (Addr × Obj)} (F : Fr g L h m) (N : News g L h (pre ++ a.led P σ)) (hp : ∀ q ∈ pre,q.1 ∉ a.addrs) (hk : ∀ b o,h.get? b = some o → b ∉ a.addrs → h'.get? b = some o) (hl : ∀ q ∈ a.led P σ',h'.get? q.1 = some q.2) : Fr g L h' m ∧ News g L h' (pre ++ a.led P σ') := by
  have hA : ∀ b ∈ a.addrs,∃ q ∈ pre ++ a.led P σ,q.1 = b := fun b hb => by
    rw [← WA.led_addrs P a σ] at hb
    refine ob_EA (List.mem_map.mp hb) fun q hq e => ?_
    exact ⟨q,List.mem_append_right _ hq,e⟩
  refine ob_A (after_call (addrs := a.addrs) (l' := a.led P σ') F N hA hk hl fun q hq => by rw [← WA.led_addrs P a σ']; exact List.mem_map_of_mem hq) fun F' N' => ?_
  refine ⟨F',fun q hq => ?_⟩
  rcases List.mem_append.mp hq with hq | hq
  · have z := N q (List.mem_append_left _ hq)
    exact ⟨hk _ _ z.1 (hp q hq),z.2⟩
  · exact N' q hq
theorem told_step {prog : Program} {w : World} {n : Nat} (hn : n ≤ 4) (ih : ∀ o,n < o → o ≤ 4 → ToldOk prog w o) : ToldOk prog w n := by
  intro A s hb base outer R a σ d ts nm hs nv hv names hosts t P o W hC lnm nmn snm nok lhs hsn ihs hlen dd tl hdp hun gf hR
  have hh := P.hh
  refine' enterW P ?k6 ?k7 ?k9 ?kB ?_ ?c3 ?c4 ?c5 ?c6
  case k6 => k_is
  case k7 => k_is
  case k9 => exact BindsTo.of_eq rfl
  case kB => exact locs rfl
  case c3 => exact rfl
  case c4 => exact rfl
  case c5 => exact rfl
  case c6 => decide
  have PB := P.B
  rcases A with ⟨Af,Ag,Ah,Ad,Au⟩
  dsimp only at hdp hun hh
  have hA := PB.stack
  dsimp only at hA
  subst hA hh
  intro g' L' h' p' loose' mean' mg' mb' F' N' B' X' T' hL' hLs hg' hg2'
  rw [WA.led_addrs] at hg2'
  refine ob_EA (strsAre_at snm (n := n) (by rw [nok.1]; exact Nat.lt_succ_of_le (by assumption))) fun tn en mn => ?_
  have gnm : g'.IsList nm nv.toArray := by (refine ob_EA lnm fun oo ho r => ?_; try clear lnm); exact ⟨oo,hg2' _ _ ho nmn,r⟩
  have ghs : g'.IsList hs hv.toArray := by (refine ob_EA lhs fun oo ho r => ?_; try clear lhs); exact ⟨oo,hg2' _ _ ho hsn,r⟩
  have en' : nv.toArray[(n : Int).toNat]? = some (.str (names.getD n (Str.ofString "")) tn) := by simpa using en
  have hbg : ∀ b o,hb.get? b = some o → g'.get? b = some o := fun b o e => hg2' b o (P.up b o e) fun hm => by
    rw [← WA.led_addrs w.params a σ] at hm
    (refine ob_EA (List.mem_map.mp hm) fun q hq' z1q => ?_; obtain rfl := z1q)
    rw [(P.N q hq').2] at e
    cases e
  have hCG := hC.keeps hbg
  refine ob_A (W.hide hg2') fun nsG tG => ?_
  have htl : ts.length ≤ 900 := by exact Nat.le_trans (Nat.le_add_right _ _) (by assumption)
  dsimp only [WA.led] at N'
  have q80 : Ag + 80 < recursionLimit := Nat.lt_of_le_of_lt (Nat.le_add_right _ (10 * (4 - n))) (by assumption)
  have q1k : Au + 1000 < cLine := Nat.lt_of_le_of_lt (Nat.le_add_right _ (50 * (4 - n))) (by assumption)
  try dsimp only
  try k_fold
  repeat' (first | (k_unfold; (try dsimp only)) | (k_end; wrow_close) | ((with_reducible show wpAny _ _ (execs _ _) _ _ _); k_fold) | (k_here; (with_reducible show wpAny _ _ (call (Value.ref 204) _) _ _ _); refine Hold.out ?_) | (k_here; (with_reducible show wpAny _ _ (call (Value.ref 157) _) _ _ _); refine Hold.out ?_) | (k_here; (with_reducible show wpAny _ _ (call (Value.ref 144) _) _ _ _); refine Hold.out ?_) | ((with_reducible show wpAny _ _ (exec (Stmt.For _ _ _ _ _) _) _ _ _); k_here; refine Hold.out ?_) | (k_here; (with_reducible show wpAny _ _ (subscriptTail _ _ (Value.ref _) (Value.int _ _)) _ _ _); k_dflt (refine' list_item ?Lq4 ?aq4 ?bq4 ?vq4 ?_; (case Lq4 => exact lstKept (by assumption) (Fr.keep (by k_asm))); (case aq4 => exact Int.natCast_nonneg _); (case bq4 => lia); (case vq4 => assumption); k_whole)) | (k_here; (with_reducible show wpAny _ _ (subscriptTail _ _ (Value.ref _) (Value.int _ _)) _ _ _); k_dflt (refine' list_item ?Lq5 ?aq5 ?bq5 ?vq5 ?_; (case Lq5 => exact lstKept (by assumption) (Fr.keep (by k_asm))); (case aq5 => omega); (case bq5 => omega); (case vq5 => assumption); k_whole)) | ((with_reducible show wpAny _ _ (eval (Expr.Dict [] [] _) _) _ _ _); k_here; k_dflt (refine' eval_dict0 ?k1q6 ?k2q6 ?_; (case k1q6 => k_asm); (case k2q6 => k_asm); k_whole); intro d' h' F' N' l1; (try k_lt l1); (try k_sweep)) | walk1 | (dsimp only; walk1) | (leave1; walk_say "STEP leave1"; try dsimp only) | fail "no step")
  unfold Hold
  rename Fr _ _ _ _ => F1
  rename News _ _ _ _ => N1
  rename And _ _ => l1
  rename Nat => dN
  change News g' L' _ ((dN,dictOf [] 0) :: a.led w.params σ) at N1
  have sub1 : ∀ q ∈ a.led w.params σ,q ∈ (dN,dictOf [] 0) :: a.led w.params σ := fun q hq => List.mem_cons_of_mem _ hq
  refine start_call (a := a) (σ := σ) (d := d) (ts := ts) B' F1 X' T' N1 rfl rfl rfl rfl ?dp ?un o List.mem_cons_self l1.1 sub1 (W.re F1 N1 sub1 nsG tG) nsG hCG ?z1 ?z4 (nok.2 _ mn).1 (nok.2 _ mn).2 ?_
  case dp => exact ar_r (d := 61) q80 (by decide)
  case un => exact ar_r (d := 903) q1k (by decide)
  case z1 => lia
  case z4 => exact htl
  intro h1 tk1 σ1 W1 kept1 hat1
  refine ob_A (after_call (addrs := dN :: a.addrs) (l' := a.led w.params σ1) F1 N1 (fun b hb => by
    rcases List.mem_cons.mp hb with rfl | hb
    · exact ⟨_,List.mem_cons_self,rfl⟩
    · rw [← WA.led_addrs w.params a σ] at hb
      obtain ⟨q,hq,e⟩ := List.mem_map.mp hb
      exact ⟨q,sub1 q hq,e⟩) kept1 W1.led (fun q hq => List.mem_cons_of_mem _ (by rw [← WA.led_addrs w.params a σ1]; exact List.mem_map_of_mem hq))) fun F2 N2 => ?_
  clear F1 N1 l1 sub1
  dsimp only [WA.led] at N2
  repeat' (first | (k_unfold; (try dsimp only)) | (k_end; wrow_close) | ((with_reducible show wpAny _ _ (execs _ _) _ _ _); k_fold) | (k_here; (with_reducible show wpAny _ _ (call (Value.ref 204) _) _ _ _); refine Hold.out ?_) | (k_here; (with_reducible show wpAny _ _ (call (Value.ref 157) _) _ _ _); refine Hold.out ?_) | (k_here; (with_reducible show wpAny _ _ (call (Value.ref 144) _) _ _ _); refine Hold.out ?_) | ((with_reducible show wpAny _ _ (exec (Stmt.For _ _ _ _ _) _) _ _ _); k_here; refine Hold.out ?_) | (k_here; (with_reducible show wpAny _ _ (subscriptTail _ _ (Value.ref _) (Value.int _ _)) _ _ _); k_dflt (refine' list_item ?Lq4 ?aq4 ?bq4 ?vq4 ?_; (case Lq4 => exact lstKept (by assumption) (Fr.keep (by k_asm))); (case aq4 => omega); (case bq4 => omega); (case vq4 => assumption); k_whole)) | (k_here; (with_reducible show wpAny _ _ (subscriptTail _ _ (Value.ref _) (Value.int _ _)) _ _ _); k_dflt (refine' list_item ?Lq5 ?aq5 ?bq5 ?vq5 ?_; (case Lq5 => exact lstKept (by assumption) (Fr.keep (by k_asm))); (case aq5 => omega); (case bq5 => omega); (case vq5 => assumption); k_whole)) | ((with_reducible show wpAny _ _ (eval (Expr.Dict [] [] _) _) _ _ _); k_here; k_dflt (refine' eval_dict0 ?k1q6 ?k2q6 ?_; (case k1q6 => k_asm); (case k2q6 => k_asm); k_whole); intro d' h' F' N' l1; (try k_lt l1); (try k_sweep)) | walk1 | (dsimp only; walk1) | (leave1; walk_say "STEP leave1"; try dsimp only) | fail "no step")
  unfold Hold
  rename Fr _ _ _ _ => F3
  rename News _ _ _ _ => N3
  refine for_range (lo := (n : Int) + 1) (by exact Int.natCast_nonneg _) (by lia) F3 N3 ?_ ?_
  · clear hn
    repeat' (first | (k_unfold; (try dsimp only)) | (k_end; wrow_close) | ((with_reducible show wpAny _ _ (execs _ _) _ _ _); k_fold) | (k_here; (with_reducible show wpAny _ _ (call (Value.ref 204) _) _ _ _); refine Hold.out ?_) | (k_here; (with_reducible show wpAny _ _ (call (Value.ref 157) _) _ _ _); refine Hold.out ?_) | (k_here; (with_reducible show wpAny _ _ (call (Value.ref 144) _) _ _ _); refine Hold.out ?_) | ((with_reducible show wpAny _ _ (exec (Stmt.For _ _ _ _ _) _) _ _ _); k_here; refine Hold.out ?_) | (k_here; (with_reducible show wpAny _ _ (subscriptTail _ _ (Value.ref _) (Value.int _ _)) _ _ _); k_dflt (refine' list_item ?Lq4 ?aq4 ?bq4 ?vq4 ?_; (case Lq4 => exact lstKept (by assumption) (Fr.keep (by k_asm))); (case aq4 => omega); (case bq4 => omega); (case vq4 => assumption); k_whole)) | (k_here; (with_reducible show wpAny _ _ (subscriptTail _ _ (Value.ref _) (Value.int _ _)) _ _ _); k_dflt (refine' list_item ?Lq5 ?aq5 ?bq5 ?vq5 ?_; (case Lq5 => exact lstKept (by assumption) (Fr.keep (by k_asm))); (case aq5 => omega); (case bq5 => omega); (case vq5 => assumption); k_whole)) | ((with_reducible show wpAny _ _ (eval (Expr.Dict [] [] _) _) _ _ _); k_here; k_dflt (refine' eval_dict0 ?k1q6 ?k2q6 ?_; (case k1q6 => k_asm); (case k2q6 => k_asm); k_whole); intro d' h' F' N' l1; (try k_lt l1); (try k_sweep)) | walk1 | (dsimp only; walk1) | (leave1; walk_say "STEP leave1"; try dsimp only) | fail "no step")
    exact ⟨_,_,_,_,_,_,rfl,rfl,by assumption,by assumption,by assumption,by assumption⟩
  intro I h4 tk4 F4 N4 l4 k4
  clear F3 N3 hat1
  refine told_loop (a := a) (σ := σ1) (d := d + 1) (n := n) (cnt := 4 - n) (names := names) (hosts := hosts) rfl rfl rfl F4 rfl N4 l4 (W1.up k4) gf.push rfl hn ?turn ?fin
  case turn =>
    intro i h tk gs σ' to hlt gf' F5 N5 W5
    have ec : (n : Int) + 1 + (i : Nat) = ((n + 1 + i : Nat) : Int) := by rfl
    have hkS : kidsP names hosts n (i + 1) = kidsP names hosts n i ++ if hosts.getD (n + 1 + i) 0 = (n : Int) then toldP names hosts (5 - (n + 1 + i)) (n + 1 + i) else [] := kidsP_succ
    have hkr := kids_room (names := names) (hosts := hosts) (n := n) (i := i) hn hlt
    have hIn : ∀ σ : WSt,∀ q ∈ a.led w.params σ,q.1 ≠ I := fun σ' q hq => Nat.ne_of_lt (led_lt (σ' := σ') l4 q hq)
    have hIa : I ∉ a.addrs := fun hm => by
      rw [← WA.led_addrs w.params a σ1] at hm
      refine ob_EA (List.mem_map.mp hm) fun q hq e => ?_
      exact hIn σ1 q hq e
    have bqh : (n : Int) + 1 + (i : Nat) < (hosts.length : Int) := Int.ofNat_lt.mpr (hlen ▸ Nat.lt_succ_of_le (ar_i4 hn hlt))
    have b63 : (n : Int) + 1 + (i : Nat) < 2 ^ 63 := Int.lt_of_le_of_lt (Int.ofNat_le.mpr (ar_i4 hn hlt)) (by decide)
    repeat' (first | (k_unfold; (try dsimp only)) | (k_end; wrow_close) | ((with_reducible show wpAny _ _ (execs _ _) _ _ _); k_fold) | (k_here; (with_reducible show wpAny _ _ (call (Value.ref 204) _) _ _ _); refine Hold.out ?_) | (k_here; (with_reducible show wpAny _ _ (call (Value.ref 157) _) _ _ _); refine Hold.out ?_) | (k_here; (with_reducible show wpAny _ _ (call (Value.ref 144) _) _ _ _); refine Hold.out ?_) | ((with_reducible show wpAny _ _ (exec (Stmt.For _ _ _ _ _) _) _ _ _); k_here; refine Hold.out ?_) | (k_here; (with_reducible show wpAny _ _ (subscriptTail _ _ (Value.ref _) (Value.int _ _)) _ _ _); k_dflt (refine' list_item ?Lq4 ?aq4 ?bq4 ?vq4 ?_; (case Lq4 => exact lstKept (by assumption) (Fr.keep (by k_asm))); (case aq4 => exact Int.natCast_nonneg _); (case bq4 => first | assumption | lia); (case vq4 => assumption); k_whole)) | (k_here; (with_reducible show wpAny _ _ (subscriptTail _ _ (Value.ref _) (Value.int _ _)) _ _ _); k_dflt (refine' list_item ?Lq5 ?aq5 ?bq5 ?vq5 ?_; (case Lq5 => exact lstKept (by assumption) (Fr.keep (by k_asm))); (case aq5 => exact Int.natCast_nonneg _); (case bq5 => first | assumption | lia); (case vq5 => assumption); k_whole)) | ((with_reducible show wpAny _ _ (eval (Expr.Dict [] [] _) _) _ _ _); k_here; k_dflt (refine' eval_dict0 ?k1q6 ?k2q6 ?_; (case k1q6 => k_asm); (case k2q6 => k_asm); k_whole); intro d' h' F' N' l1; (try k_lt l1); (try k_sweep)) | walk1 | (dsimp only; walk1) | (leave1; walk_say "STEP leave1"; try dsimp only) | fail "no step")
    · rename_i hx
      unfold Hold
      rename Fr _ _ _ _ => F6
      rename News _ _ _ _ => N6
      rw [ec] at hx ⊢
      refine wpAny_call ?_
      refine ih (n + 1 + i) (by exact Nat.le_add_right _ _) (ar_i4 hn hlt) (Pre.inner (led := a.led w.params σ') B' F6 X' T' N6 (fun q hq => List.mem_cons_of_mem _ hq) rfl rfl rfl rfl ?d1 ?d2) o W5 hCG (lstKept gnm F6.keep) nmn snm nok (lstKept ghs F6.keep) hsn ihs hlen ?d3 ?d4 ?d5 ?d6 gf' ?_
      case d1 => exact ar_r (d := 21) q80 (by decide)
      case d2 => exact ar_r (d := 303) q1k (by decide)
      case d3 => exact ar_u (by assumption) (ar_lt hlt)
      case d4 =>
        simp only [List.length_append,List.length_cons,List.length_nil]
        exact ar_t (by assumption) hkr
      case d5 => exact ar_w (d := 1) (by assumption) (ar_lt hlt) (by decide)
      case d6 => exact ar_w (d := 3) (by assumption) (ar_lt hlt) (by decide)
      intro h7 tk7 gs7 σ7 W7 k7 gf7
      refine ob_A (led_call (pre := [(I,rI ((n : Int) + 1 + (i : Nat) + 1) (((4 - n : Nat) : Int) - (i + 1 : Nat)))]) F6 N6 (fun q hq => by rw [List.mem_singleton.mp hq]; exact hIa) k7 W7.led) fun F7 N7 => ?_
      clear F6 N6
      have W8 : WOk w.params a (d + 1) (ts ++ [Str.ofString "<" ++ names.getD n (Str.ofString ""),Str.ofString ">"] ++ kidsP names hosts n (i + 1)) σ7 h7 := by
        rw [hkS,if_pos (show hosts.getD (n + 1 + i) 0 = (n : Int) from hx), ← List.append_assoc]
        exact W7
      repeat' (first | (k_unfold; (try dsimp only)) | (k_end; wrow_close) | ((with_reducible show wpAny _ _ (execs _ _) _ _ _); k_fold) | (k_here; (with_reducible show wpAny _ _ (call (Value.ref 204) _) _ _ _); refine Hold.out ?_) | (k_here; (with_reducible show wpAny _ _ (call (Value.ref 157) _) _ _ _); refine Hold.out ?_) | (k_here; (with_reducible show wpAny _ _ (call (Value.ref 144) _) _ _ _); refine Hold.out ?_) | ((with_reducible show wpAny _ _ (exec (Stmt.For _ _ _ _ _) _) _ _ _); k_here; refine Hold.out ?_) | (k_here; (with_reducible show wpAny _ _ (subscriptTail _ _ (Value.ref _) (Value.int _ _)) _ _ _); k_dflt (refine' list_item ?Lq4 ?aq4 ?bq4 ?vq4 ?_; (case Lq4 => exact lstKept (by assumption) (Fr.keep (by k_asm))); (case aq4 => omega); (case bq4 => omega); (case vq4 => assumption); k_whole)) | (k_here; (with_reducible show wpAny _ _ (subscriptTail _ _ (Value.ref _) (Value.int _ _)) _ _ _); k_dflt (refine' list_item ?Lq5 ?aq5 ?bq5 ?vq5 ?_; (case Lq5 => exact lstKept (by assumption) (Fr.keep (by k_asm))); (case aq5 => omega); (case bq5 => omega); (case vq5 => assumption); k_whole)) | ((with_reducible show wpAny _ _ (eval (Expr.Dict [] [] _) _) _ _ _); k_here; k_dflt (refine' eval_dict0 ?k1q6 ?k2q6 ?_; (case k1q6 => k_asm); (case k2q6 => k_asm); k_whole); intro d' h' F' N' l1; (try k_lt l1); (try k_sweep)) | walk1 | (dsimp only; walk1) | (leave1; walk_say "STEP leave1"; try dsimp only) | fail "no step")
      exact ⟨rfl,_,h7,σ7,⟨_,_,rfl,gf7⟩,fr_congr F7 rfl,by
        rw [show (n : Int) + 1 + ((i + 1 : Nat) : Int) = (n : Int) + 1 + (i : Nat) + 1 by rfl]; exact N7,W8⟩
    · rename_i hx
      rename Fr _ _ _ _ => F6
      rename News _ _ _ _ => N6
      rw [ec] at hx
      have W8 : WOk w.params a (d + 1) (ts ++ [Str.ofString "<" ++ names.getD n (Str.ofString ""),Str.ofString ">"] ++ kidsP names hosts n (i + 1)) σ' h := by
        rw [hkS,if_neg (show ¬ hosts.getD (n + 1 + i) 0 = (n : Int) from hx),List.append_nil]
        exact W5
      exact ⟨rfl,_,h,σ',⟨_,_,rfl,gf'⟩,F6,by
        rw [show (n : Int) + 1 + ((i + 1 : Nat) : Int) = (n : Int) + 1 + (i : Nat) + 1 by exact rfl]; exact N6,W8⟩
  case fin =>
    intro ov h tk gs σ' gf' F5 N5 W5
    have hka := kids_all (names := names) (hosts := hosts) hn
    repeat' (first | (k_unfold; (try dsimp only)) | (k_end; wrow_close) | ((with_reducible show wpAny _ _ (execs _ _) _ _ _); k_fold) | (k_here; (with_reducible show wpAny _ _ (call (Value.ref 204) _) _ _ _); refine Hold.out ?_) | (k_here; (with_reducible show wpAny _ _ (call (Value.ref 157) _) _ _ _); refine Hold.out ?_) | (k_here; (with_reducible show wpAny _ _ (call (Value.ref 144) _) _ _ _); refine Hold.out ?_) | ((with_reducible show wpAny _ _ (exec (Stmt.For _ _ _ _ _) _) _ _ _); k_here; refine Hold.out ?_) | (k_here; (with_reducible show wpAny _ _ (subscriptTail _ _ (Value.ref _) (Value.int _ _)) _ _ _); k_dflt (refine' list_item ?Lq4 ?aq4 ?bq4 ?vq4 ?_; (case Lq4 => exact lstKept (by assumption) (Fr.keep (by k_asm))); (case aq4 => exact Int.natCast_nonneg _); (case bq4 => lia); (case vq4 => assumption); k_whole)) | (k_here; (with_reducible show wpAny _ _ (subscriptTail _ _ (Value.ref _) (Value.int _ _)) _ _ _); k_dflt (refine' list_item ?Lq5 ?aq5 ?bq5 ?vq5 ?_; (case Lq5 => exact lstKept (by assumption) (Fr.keep (by k_asm))); (case aq5 => omega); (case bq5 => omega); (case vq5 => assumption); k_whole)) | ((with_reducible show wpAny _ _ (eval (Expr.Dict [] [] _) _) _ _ _); k_here; k_dflt (refine' eval_dict0 ?k1q6 ?k2q6 ?_; (case k1q6 => k_asm); (case k2q6 => k_asm); k_whole); intro d' h' F' N' l1; (try k_lt l1); (try k_sweep)) | walk1 | (dsimp only; walk1) | (leave1; walk_say "STEP leave1"; try dsimp only) | fail "no step")
    unfold Hold
    rename Fr _ _ _ _ => F6
    rename News _ _ _ _ => N6
    refine end_call (a := a) (σ := σ') (d := d) B' F6 X' T' N6 rfl rfl rfl rfl ?dp ?un o (fun q hq => hq) W5 ?z1 ?z4 (nok.2 _ mn).1 (nok.2 _ mn).2 ?_
    case dp => exact ar_r (d := 61) q80 (by decide)
    case un => exact ar_r (d := 903) q1k (by decide)
    case z1 => lia
    case z4 =>
      simp only [List.length_append,List.length_cons,List.length_nil]
      lia
    intro h8 tk8 σ8 W8 k8
    repeat' (first | (k_unfold; (try dsimp only)) | (k_end; wrow_close) | ((with_reducible show wpAny _ _ (execs _ _) _ _ _); k_fold) | (k_here; (with_reducible show wpAny _ _ (call (Value.ref 204) _) _ _ _); refine Hold.out ?_) | (k_here; (with_reducible show wpAny _ _ (call (Value.ref 157) _) _ _ _); refine Hold.out ?_) | (k_here; (with_reducible show wpAny _ _ (call (Value.ref 144) _) _ _ _); refine Hold.out ?_) | ((with_reducible show wpAny _ _ (exec (Stmt.For _ _ _ _ _) _) _ _ _); k_here; refine Hold.out ?_) | (k_here; (with_reducible show wpAny _ _ (subscriptTail _ _ (Value.ref _) (Value.int _ _)) _ _ _); k_dflt (refine' list_item ?Lq4 ?aq4 ?bq4 ?vq4 ?_; (case Lq4 => exact lstKept (by assumption) (Fr.keep (by k_asm))); (case aq4 => omega); (case bq4 => omega); (case vq4 => assumption); k_whole)) | (k_here; (with_reducible show wpAny _ _ (subscriptTail _ _ (Value.ref _) (Value.int _ _)) _ _ _); k_dflt (refine' list_item ?Lq5 ?aq5 ?bq5 ?vq5 ?_; (case Lq5 => exact lstKept (by assumption) (Fr.keep (by k_asm))); (case aq5 => omega); (case bq5 => omega); (case vq5 => assumption); k_whole)) | ((with_reducible show wpAny _ _ (eval (Expr.Dict [] [] _) _) _ _ _); k_here; k_dflt (refine' eval_dict0 ?k1q6 ?k2q6 ?_; (case k1q6 => k_asm); (case k2q6 => k_asm); k_whole); intro d' h' F' N' l1; (try k_lt l1); (try k_sweep)) | walk1 | (dsimp only; walk1) | (leave1; walk_say "STEP leave1"; try dsimp only) | fail "no step")
    refine hR h8 _ _ σ8 ?_ ?_ ?_
    · rw [toldP_eq hn]
      simpa only [List.append_assoc] using W8
    · intro b oo e hb
      exact k8 b oo (F6.keep b oo (hg2' b oo e hb)) hb
    · exact gf'.push
theorem told_ok {prog : Program} {w : World} : ∀ k n,n ≤ 4 → 4 - n = k → ToldOk prog w n := by
  intro k
  induction k using Nat.strongRecOn with
  | _ k ih =>
    intro n hn hk
    exact told_step hn fun o h1 h2 => ih (4 - o) (hk ▸ Nat.sub_lt_sub_left (Nat.lt_of_lt_of_le h1 h2) h1) o h2 rfl
end
noncomputable def sc77 : Scope := { kind := .function,names := [(Str.ofString "script",.local),(Str.ofString "draws",.local),(Str.ofString "hosts",.local),(Str.ofString "sizes",.local),(Str.ofString "pieces",.local),(Str.ofString "page",.local),(Str.ofString "total",.local),(Str.ofString "len",.globalImplicit),(Str.ofString "enumerate",.globalImplicit),(Str.ofString "_law_told",.globalImplicit),(Str.ofString "C14NWriterTarget",.globalImplicit),(Str.ofString "_law_names",.globalImplicit),(Str.ofString "_law_due",.globalImplicit),(Str.ofString "sum",.globalImplicit),(Str.ofString "_law_agree",.globalImplicit)],isGenerator := false,isCoroutine := false,more := [(Str.ofString "fast",.str "script"),(Str.ofString "fast",.str "cell"),(Str.ofString "fast",.str "draws"),(Str.ofString "fast",.str "place"),(Str.ofString "fast",.str "draw"),(Str.ofString "fast",.str "hosts"),(Str.ofString "fast",.str "sizes"),(Str.ofString "fast",.str "pieces"),(Str.ofString "fast",.str "page"),(Str.ofString "fast",.str "total")] }
theorem sc77_eq : scopeAt 77 = sc77 := by kernel_rfl
theorem wok_new {P : Params} {h : Heap} {pc bw dx x ld tx l0 ls ln dp lp np : Nat} {tk : Nat → Tok} {ti t1 t2 : Tok} {nn : Array Value} (o1 : 147 < pc) (o2 : pc < bw) (o3 : bw < dx) (o4 : dx < x) (o5 : x < ld) (o6 : ld < tx) (o7 : tx < l0) (o8 : l0 < ls) (o9 : ls < ln) (o10 : ln < dp) (o11 : dp < lp) (hn : nn.size = 2)
    (g1 : h.get? dx = some (dictOf (wEnts P tk bw ld ls ln dp lp false false ti) 17)) (g2 : h.get? lp = some (W.listOf #[.bool false] 0)) (g3 : h.get? dp = some (dictOf [] 0)) (g4 : h.get? ln = some (W.listOf nn 2)) (g5 : h.get? ls = some (W.listOf #[.ref l0] 0)) (g6 : h.get? l0 = some (W.listOf #[.ref tx] 0))
    (g7 : h.get? tx = some (tupOf #[.str (Str.ofString "http://www.w3.org/XML/1998/namespace") t1,.str (Str.ofString "xml") t2])) (g8 : h.get? ld = some (W.listOf #[] 0)) (g9 : h.get? x = some (instObj 174 dx)) (g10 : h.get? bw = some (boundO pc)) (g11 : h.get? pc = some (W.listOf #[] np)) (g12 : h.get? 147 = some (tabObj #[])) :
    WOk P ⟨pc,bw,dx,x,ld,ls,ln,dp,lp,l0,tx,tk,ti⟩ 0 [] ⟨#[.ref l0],nn, #[.bool false], #[], #[],0,2,0,0,np,false,false⟩ h where
  led := by
    repeat (first | exact List.forall_mem_nil _ | refine List.forall_mem_cons.mpr ⟨by assumption,?_⟩)
  ns := ⟨rfl,⟨_,g6,rfl,_,rfl⟩,fun i hi v hv => (by
    rw [Array.getElem?_eq_none (by simp; assumption)] at hv
    cases hv),t1,t2,_,g7,rfl,_,rfl⟩
  hls := by
    intro i b e
    have h0 : i = 0 := by
      rcases Nat.eq_zero_or_pos i with h | h
      · exact h
      · rw [Array.getElem?_eq_none (by simp; assumption)] at e; cases e
    subst h0
    cases e
    have d1 := Nat.lt_trans o6 o7
    have d2 := Nat.lt_trans o5 d1
    have d3 := Nat.lt_trans o4 d2
    have d4 := Nat.lt_trans o3 d3
    have d5 := Nat.lt_trans o2 d4
    have d6 := Nat.lt_trans o1 d5
    have u2 := Nat.lt_trans o8 o9
    have u3 := Nat.lt_trans u2 o10
    have u4 := Nat.lt_trans u3 o11
    exact fun hm => (List.forall_mem_cons.mpr ⟨Nat.ne_of_gt u4,List.forall_mem_cons.mpr ⟨Nat.ne_of_gt u3,List.forall_mem_cons.mpr ⟨Nat.ne_of_gt u2,List.forall_mem_cons.mpr ⟨Nat.ne_of_gt o8,List.forall_mem_cons.mpr ⟨Nat.ne_of_lt d1,List.forall_mem_cons.mpr ⟨Nat.ne_of_lt d2,List.forall_mem_cons.mpr ⟨Nat.ne_of_lt d3,List.forall_mem_cons.mpr ⟨Nat.ne_of_lt d4,List.forall_mem_cons.mpr ⟨Nat.ne_of_lt d5,List.forall_mem_cons.mpr ⟨Nat.ne_of_lt d6,List.forall_mem_nil _⟩⟩⟩⟩⟩⟩⟩⟩⟩⟩ : ∀ b ∈ [lp,dp,ln,ls,ld,x,dx,bw,pc,147],b ≠ l0) l0 hm rfl
  s1 := rfl
  s2 := hn
  s3 := rfl
  y3 := by
    intro i v e
    have h0 : i = 0 := by
      rcases Nat.eq_zero_or_pos i with h | h
      · exact h
      · rw [Array.getElem?_eq_none (by simp; exact h)] at e; cases e
    subst h0
    cases e
    rfl
  ps := .nil
  tab := .inl rfl
theorem new_w {prog : Program} {w : World} {g base : Heap} {outer : List Env} {env : Env} {L : Addr} {s : Shared} {m mg mb : Str → Option Value} {rest : List (Addr × Obj)} {A₀ A : Around} {p : Program} {loose : List Str} {mean : ExcName → Option Value} {Q : Value → Shared → Prop} {E : Value → Shared → Prop} {pc np bw : Nat}
    (B : Below A₀ base outer g) (F : Fr g L s.heap m) (X : (K0 w.params).In g) (T : Top p loose mean mg mb g) (N : News g L s.heap ((bw,boundO pc) :: (pc,W.listOf #[] np) :: (147,tabObj #[]) :: rest)) (hA : A.frames = some (env :: outer)) (hf : env.frame = some L) (hke : env.scope.kind = .function)
    (hh : A.handled = none) (hdp : A.depth + 100 < recursionLimit) (hun : A.units + 1000 < cLine) (o1 : 147 < pc) (o2 : pc < bw)
    (h : ∀ (a : WA) σ h' tk',a.ord → a.pc = pc → σ.ps = #[] → WOk w.params a 0 [] σ h' → Fr g L h' m → News g L h' (a.led w.params σ ++ rest) → (∀ q ∈ rest,q.1 ∉ a.addrs) → Q (.ref a.x) { s with heap := h',toks := tk' }) (hr : ∀ q ∈ rest,q.1 ≠ 147 ∧ q.1 < pc) :
    wpAny (model prog w) A (call (.ref 174) [.ref bw]) Q E s := by
  refine' call_cls F X N ?k4 ?k5 ?k6 ?_
  case k4 => k_is
  case k5 => k_is
  case k6 => k_is
  intro x dx h1 F1 N1 l1 l2
  refine w_init (Pre.inner (led := [(x,instObj 174 dx),(dx,dictOf [] 0)]) B F1 X T N1 ?sub hA hf hke hh ?d1 ?d2) l2 ?d3 ?d4 ?_
  case sub =>
    intro q hq
    rcases List.mem_cons.mp hq with rfl | hq
    · exact .head _
    · rw [List.mem_singleton.mp hq]; exact .tail _ (.head _)
  case d1 => show A.depth + 1 + 20 < recursionLimit; exact Nat.lt_of_le_of_lt (Nat.add_le_add_left (by decide : 21 ≤ 100) _) hdp
  case d2 => show A.units + 1 + 300 < cLine; exact Nat.lt_of_le_of_lt (Nat.add_le_add_left (by decide : 301 ≤ 1000) _) hun
  case d3 => show A.depth + 1 + 60 < recursionLimit; exact Nat.lt_of_le_of_lt (Nat.add_le_add_left (by decide : 61 ≤ 100) _) hdp
  case d4 => show A.units + 1 + 900 < cLine; exact Nat.lt_of_le_of_lt (Nat.add_le_add_left (by decide : 901 ≤ 1000) _) hun
  intro ld tx l0 ls ln dp lp tk ti t1 t2 nn h2 tk2 p1 p2 p3 p4 p5 p6 p7 hn gz keep
  have z1 := N1 _ (.head _)
  have z2 := N1 _ (.tail _ (.head _))
  refine ob_EEEA F1.ns fun oL esL epL eL dL => ?_
  have F2 : Fr g L h2 m := ⟨F1.ns.at' fun o e => keep L o e z1.2.1.symm z2.2.1.symm,fun b o e => keep b o (F1.keep b o e) (fun q => by rw [q,z1.2.2] at e; cases e) (fun q => by rw [q,z2.2.2] at e; cases e),F1.above⟩
  have old : ∀ q ∈ (bw,boundO pc) :: (pc,W.listOf #[] np) :: (147,tabObj #[]) :: rest,h2.get? q.1 = some q.2 ∧ q.1 ≠ L ∧ g.get? q.1 = none := fun q hq => by
    have z := N1 q (.tail _ (.tail _ hq))
    exact ⟨keep _ _ z.1 (Nat.ne_of_lt (Nat.lt_trans (l1 q hq) l2)) (Nat.ne_of_lt (l1 q hq)),z.2⟩
  have fresh : ∀ b ∈ [lp,dp,ln,ls,l0,tx,ld],b ≠ L ∧ g.get? b = none := fun b hb => by
    have z := (show ∀ b ∈ [lp,dp,ln,ls,l0,tx,ld],h1.get? b = none from
      have c2 := Nat.lt_trans p1 p2
      have c3 := Nat.lt_trans c2 p3
      have c4 := Nat.lt_trans c3 p4
      have c5 := Nat.lt_trans c4 p5
      have c6 := Nat.lt_trans c5 p6
      have c7 := Nat.lt_trans c6 p7
      List.forall_mem_cons.mpr ⟨(gz _ (.head _)).2 c7,List.forall_mem_cons.mpr ⟨(gz _ (tl1 (.head _))).2 c6,List.forall_mem_cons.mpr ⟨(gz _ (tl1 (tl1 (.head _)))).2 c5,List.forall_mem_cons.mpr ⟨(gz _ (tl1 (tl1 (tl1 (.head _))))).2 c4,List.forall_mem_cons.mpr ⟨(gz _ (tl1 (tl1 (tl1 (tl1 (.head _)))))).2 c3,List.forall_mem_cons.mpr ⟨(gz _ (tl5 (.head _))).2 c2,List.forall_mem_cons.mpr ⟨(gz _ (tl5 (tl1 (.head _)))).2 p1,List.forall_mem_nil _⟩⟩⟩⟩⟩⟩⟩) b hb
    refine ⟨fun q => ?_,?_⟩
    · rw [q] at z
      rw [show h1.get? L = none from z] at eL
      cases eL
    · cases e : g.get? b with
      | none => rfl
      | some o =>
        have := F1.keep b o e
        rw [show h1.get? b = none from z] at this
        cases this
  have o3 : bw < dx := l1 (bw,boundO pc) (.head _)
  have W := wok_new (P := w.params) o1 o2 o3 l2 p1 p2 p3 p4 p5 p6 p7 hn (gz _ (tl5 (tl1 (tl1 (tl1 (.head _)))))).1 (gz _ (.head _)).1 (gz _ (tl1 (.head _))).1 (gz _ (tl1 (tl1 (.head _)))).1 (gz _ (tl1 (tl1 (tl1 (.head _))))).1 (gz _ (tl1 (tl1 (tl1 (tl1 (.head _)))))).1 (gz _ (tl5 (.head _))).1 (gz _ (tl5 (tl1 (.head _)))).1 (gz _ (tl5 (tl1 (tl1 (.head _))))).1 (old _ (.head _)).1 (old _ (.tail _ (.head _))).1 (old _ (.tail _ (.tail _ (.head _)))).1
  refine ⟨rfl,h ⟨pc,bw,dx,x,ld,ls,ln,dp,lp,l0,tx,tk,ti⟩ ⟨#[.ref l0],nn, #[.bool false], #[], #[],0,2,0,0,np,false,false⟩ h2 tk2 ?_ rfl rfl W F2 ?_ ?_⟩
  · exact ⟨o1,o2,o3,l2,p1,Nat.lt_trans (Nat.lt_trans p2 p3) p4,p5,p6,p7⟩
  · refine List.forall_mem_append.mpr ⟨?_,fun q hq => old q (.tail _ (.tail _ (.tail _ hq)))⟩
    · refine fun q hq => ⟨W.led q hq,?_⟩
      revert q
      refine List.forall_mem_cons.mpr ⟨fresh _ (.head _),?_⟩
      refine List.forall_mem_cons.mpr ⟨fresh _ (tl1 (.head _)),?_⟩
      refine List.forall_mem_cons.mpr ⟨fresh _ (tl1 (tl1 (.head _))),?_⟩
      refine List.forall_mem_cons.mpr ⟨fresh _ (tl1 (tl1 (tl1 (.head _)))),?_⟩
      refine List.forall_mem_cons.mpr ⟨fresh _ (tl5 (tl1 (.head _))),?_⟩
      refine List.forall_mem_cons.mpr ⟨z1.2,?_⟩
      refine List.forall_mem_cons.mpr ⟨z2.2,?_⟩
      refine List.forall_mem_cons.mpr ⟨(old _ (.head _)).2,?_⟩
      refine List.forall_mem_cons.mpr ⟨(old _ (tl1 (.head _))).2,?_⟩
      refine List.forall_mem_cons.mpr ⟨(old _ (tl1 (tl1 (.head _)))).2,?_⟩
      exact List.forall_mem_nil _
  · intro q hq hm
    refine ob_A (hr q hq) fun r1 r2 => ?_
    have t1 : @LT.lt Nat _ q.1 _ := Nat.lt_trans r2 o2
    have t2 : @LT.lt Nat _ q.1 _ := Nat.lt_trans t1 o3
    have t3 : @LT.lt Nat _ q.1 _ := Nat.lt_trans t2 l2
    have t4 : @LT.lt Nat _ q.1 _ := Nat.lt_trans t3 p1
    have t5 := Nat.lt_trans (Nat.lt_trans (Nat.lt_trans t4 p2) p3) p4
    have t6 := Nat.lt_trans t5 p5
    have t7 := Nat.lt_trans t6 p6
    have t8 := Nat.lt_trans t7 p7
    exact (List.forall_mem_cons.mpr ⟨Nat.ne_of_lt t8,List.forall_mem_cons.mpr ⟨Nat.ne_of_lt t7,List.forall_mem_cons.mpr ⟨Nat.ne_of_lt t6,List.forall_mem_cons.mpr ⟨Nat.ne_of_lt t5,List.forall_mem_cons.mpr ⟨Nat.ne_of_lt t4,List.forall_mem_cons.mpr ⟨Nat.ne_of_lt t3,List.forall_mem_cons.mpr ⟨Nat.ne_of_lt t2,List.forall_mem_cons.mpr ⟨Nat.ne_of_lt t1,List.forall_mem_cons.mpr ⟨Nat.ne_of_lt r2,List.forall_mem_cons.mpr ⟨r1,List.forall_mem_nil _⟩⟩⟩⟩⟩⟩⟩⟩⟩⟩ : ∀ b ∈ [lp,dp,ln,ls,ld,x,dx,bw,pc,147],q.1 ≠ b) _ hm rfl
theorem rep_ints {h : Heap} {Ex : Addr → Prop} : ∀ {vs : List Value} {ns : List Int},RepAll h Ex vs (ns.map .int) → IntsAre vs ns
  | _, [],.nil => .nil
  | _,n :: ns,.cons a r => by
    (refine ob_E a.int_inv fun t z1q => ?_; obtain rfl := z1q)
    exact .cons n t (rep_ints r)
theorem ints_repD {h : Heap} {Ex : Addr → Prop} : ∀ {vs : List Value} {ns : List Int},IntsAre vs ns → RepAll h Ex vs (ns.map .int)
  | _,_,.nil => .nil
  | _,_,.cons n t r => .cons (.int n t) (ints_repD r)
theorem rep_strs {h : Heap} {Ex : Addr → Prop} : ∀ {vs : List Value} {ns : List Str},RepAll h Ex vs (ns.map .str) → StrsAre vs ns
  | _, [],.nil => .nil
  | _,n :: ns,.cons a r => by
    (refine ob_E a.str_inv fun t z2q => ?_; obtain rfl := z2q)
    exact .cons n t (rep_strs r)
theorem strs_rep {h : Heap} {Ex : Addr → Prop} : ∀ {vs : List Value} {ns : List Str},StrsAre vs ns → RepAll h Ex vs (ns.map .str)
  | _,_,.nil => .nil
  | _,_,.cons n t r => .cons (.str n t) (strs_rep r)
noncomputable def st3 : Stmt := .Assign [.Name (Str.ofString "pieces") ⟨400,4,400,10⟩] (.List [] ⟨400,13,400,15⟩) ⟨400,4,400,15⟩
noncomputable def st4 : Stmt := .Expr (.Call (.Name (Str.ofString "_law_told") ⟨401,4,401,13⟩) [.Call (.Name (Str.ofString "C14NWriterTarget") ⟨401,14,401,30⟩) [.Attribute (.Name (Str.ofString "pieces") ⟨401,31,401,37⟩) (Str.ofString "append") ⟨401,31,401,44⟩] [] ⟨401,14,401,45⟩,
  .Call (.Name (Str.ofString "_law_names") ⟨401,47,401,57⟩) [.Name (Str.ofString "draws") ⟨401,58,401,63⟩,.Name (Str.ofString "sizes") ⟨401,65,401,70⟩] [] ⟨401,47,401,71⟩,.Name (Str.ofString "hosts") ⟨401,73,401,78⟩,.Constant (.int 0) 0 ⟨401,80,401,81⟩] [] ⟨401,4,401,82⟩) ⟨401,4,401,82⟩
theorem allLt_out {d : Nat} {l : List (Addr × Obj)} (h : AllLt d l) : ∀ q ∈ l,@LT.lt Nat _ q.1 d := by
  induction l with
  | nil => intro q hq; nomatch hq
  | cons p r ih =>
    intro q hq
    rcases List.mem_cons.mp hq with rfl | hq
    · exact h.1
    · exact ih h.2 q hq
noncomputable def mLaw2 (dr ho si : Nat) (m0 : Str → Option Value) : Str → Option Value := fun y => if y = Str.ofString "draws" then some (.ref dr) else if y = Str.ofString "hosts" then some (.ref ho) else if y = Str.ofString "sizes" then some (.ref si) else m0 y
theorem law_mid {prog : Program} {w : World} {g base : Heap} {outer : List Env} {L fa : Addr} {cd : Value} {s : Shared} {m0 mg mb : Str → Option Value} {p : Program} {loose : List Str} {mean : ExcName → Option Value} {Q : Flow → Shared → Prop} {E : Value → Shared → Prop} {Ag : Nat} {Ad : Option (List Code)} {Au : Nat} {dr ho si : Nat} {rest : List (Addr × Obj)}
    {dv hv sv : List Value} {draws hosts sizes : List Int} {names : List Str} {stms : List Stmt}
    (B : Below ⟨none,Ag,some outer,Ad,Au⟩ base outer g) (F : Fr g L s.heap (mLaw2 dr ho si m0)) (X : (K0 w.params).In g) (T : Top p loose mean mg mb g) (N : News g L s.heap ((147,tabObj #[]) :: rest)) (hC : CodeHd g 149 147) (hdp : Ag + 200 < recursionLimit) (hun : Au + 2000 < cLine)
    (hr : ∀ q ∈ rest,q.1 ≠ 147) (gf : AllFin s.gens) (hd1 : s.heap.IsList dr dv.toArray) (hd2 : IntsAre dv draws) (hh1 : s.heap.IsList ho hv.toArray) (hh2 : IntsAre hv hosts) (hs1 : s.heap.IsList si sv.toArray) (hs2 : IntsAre sv sizes)
    (kd : ∀ o,s.heap.get? dr = some o → g.get? dr = some o ∨ (dr,o) ∈ rest) (kh : ∀ o,s.heap.get? ho = some o → g.get? ho = some o ∨ (ho,o) ∈ rest) (ks : ∀ o,s.heap.get? si = some o → g.get? si = some o ∨ (si,o) ∈ rest)
    {FN : List D → Option D} (hF : FnOk prog K0 3 197 FN) (hn : FN [.list (draws.map .int),.list (sizes.map .int)] = some (.list (names.map .str))) (nok : NamesOk names) (hl : hosts.length = 5)
    (k : ∀ (pc n : Nat) (ps tps : Array Value) h' tk' gs,AllFin gs → Fr g L h' (fun y => if y = Str.ofString "pieces" then some (.ref pc) else mLaw2 dr ho si m0 y) → News g L h' ((pc,W.listOf ps n) :: (147,tabObj tps) :: rest) → StrsAre ps.toList (toldP names hosts 5 0) → (∀ q ∈ rest,q.1 ≠ pc) → pc ≠ 147 →
      wpAny (model prog w) (Around.deeper ⟨none,Ag,some outer,Ad,Au⟩ (envOf (Str.ofString "law") sc77 L fa cd)) (execs stms (envOf (Str.ofString "law") sc77 L fa cd)) Q E { s with heap := h',toks := tk',gens := gs }) :
    wpAny (model prog w) (Around.deeper ⟨none,Ag,some outer,Ad,Au⟩ (envOf (Str.ofString "law") sc77 L fa cd)) (execs (st3 :: st4 :: stms) (envOf (Str.ofString "law") sc77 L fa cd)) Q E s := by
  refine wpAny_execs_cons ?_
  unfold sc77 st3
  unfold sc77 at k
  repeat' (first | (k_unfold; (try dsimp only)) | (k_end; wrow_close) | (k_here; (with_reducible show wpAny _ _ (call (Value.ref 204) _) _ _ _); refine Hold.out ?_) | (k_here; (with_reducible show wpAny _ _ (call (Value.ref 197) _) _ _ _); refine Hold.out ?_) | (k_here; (with_reducible show wpAny _ _ (call (Value.ref 174) _) _ _ _); refine Hold.out ?_) | ((with_reducible show wpAny _ _ (getAttr (Value.ref _) _ _) _ _ _); k_here; k_dflt (refine' get_append ?Fq3 ?Nq3 ?aq3 ?_; (case Fq3 => k_asm); (case Nq3 => k_asm); (case aq3 => k_mem); k_whole); intro bw h' F' N' hbw; (try k_lt hbw); (try k_sweep)) | walk1 | (dsimp only; walk1) | (leave1; walk_say "STEP leave1"; try dsimp only) | fail "no step")
  unfold st4
  repeat' (first | (k_unfold; (try dsimp only)) | (k_end; wrow_close) | (k_here; (with_reducible show wpAny _ _ (call (Value.ref 204) _) _ _ _); refine Hold.out ?_) | (k_here; (with_reducible show wpAny _ _ (call (Value.ref 197) _) _ _ _); refine Hold.out ?_) | (k_here; (with_reducible show wpAny _ _ (call (Value.ref 174) _) _ _ _); refine Hold.out ?_) | ((with_reducible show wpAny _ _ (getAttr (Value.ref _) _ _) _ _ _); k_here; k_dflt (refine' get_append ?Fq3 ?Nq3 ?aq3 ?_; (case Fq3 => k_asm); (case Nq3 => k_asm); (case aq3 => k_mem); k_whole); intro bw h' F' N' hbw; (try k_lt hbw); (try k_sweep)) | walk1 | (dsimp only; walk1) | (leave1; walk_say "STEP leave1"; try dsimp only) | fail "no step")
  unfold Hold
  rename Fr _ _ _ _ => F1
  rename News _ _ _ _ => N1
  rename_i pc _ hpc _
  have lr : ∀ q ∈ rest,q.1 ≠ 147 ∧ q.1 < pc := fun q hq => ⟨hr q hq,allLt_out hpc.2 q hq⟩
  refine new_w (rest := rest) B F1 X T N1 rfl rfl rfl rfl ?dp ?un hpc.1 hbw.1 ?_ lr
  case dp => show Ag + 1 + 100 < recursionLimit; exact Nat.lt_of_le_of_lt (Nat.add_le_add_left (by decide : 101 ≤ 200) _) hdp
  case un => show Au + 3 + 1000 < cLine; exact Nat.lt_of_le_of_lt (Nat.add_le_add_left (by decide : 1003 ≤ 2000) _) hun
  intro a σ h2 tk2 ord apc aps W2 F2 N2 nra
  clear N1 F1
  have nad : ∀ (b : Nat) (ob : Obj),g.get? b = some ob ∨ (b,ob) ∈ rest → b ∉ a.addrs := fun b ob hb hm => by
    rcases hb with hb | hb
    · rw [← WA.led_addrs w.params a σ] at hm
      (refine ob_EA (List.mem_map.mp hm) fun q hq z3q => ?_; obtain rfl := z3q)
      rw [(N2 q (List.mem_append_left _ hq)).2.2] at hb
      cases hb
    · exact nra _ hb hm
  have upd : ∀ {h : Heap} {led : List (Addr × Obj)} {m : Str → Option Value},Fr g L h m → News g L h (led ++ rest) → ∀ b ob,g.get? b = some ob ∨ (b,ob) ∈ rest → h.get? b = some ob := fun F N b ob hb => by
    rcases hb with hb | hb
    · exact F.keep b ob hb
    · exact (N _ (List.mem_append_right _ hb)).1
  (refine ob_EA hd1 fun odr edr rdr => ?_; try clear hd1)
  (refine ob_EA hh1 fun oho eho rho => ?_; try clear hh1)
  (refine ob_EA hs1 fun osi esi rsi => ?_; try clear hs1)
  have qdr := kd odr edr
  have qho := kh oho eho
  have qsi := ks osi esi
  repeat' (first | (k_unfold; (try dsimp only)) | (k_end; wrow_close) | (k_here; (with_reducible show wpAny _ _ (call (Value.ref 204) _) _ _ _); refine Hold.out ?_) | (k_here; (with_reducible show wpAny _ _ (call (Value.ref 197) _) _ _ _); refine Hold.out ?_) | (k_here; (with_reducible show wpAny _ _ (call (Value.ref 174) _) _ _ _); refine Hold.out ?_) | ((with_reducible show wpAny _ _ (getAttr (Value.ref _) _ _) _ _ _); k_here; k_dflt (refine' get_append ?Fq3 ?Nq3 ?aq3 ?_; (case Fq3 => k_asm); (case Nq3 => k_asm); (case aq3 => k_mem); k_whole); intro bw h' F' N' hbw; (try k_lt hbw); (try k_sweep)) | walk1 | (dsimp only; walk1) | (leave1; walk_say "STEP leave1"; try dsimp only) | fail "no step")
  unfold Hold
  refine wpAny_call ?_
  refine hF w _ _ (fun b => b ∈ a.addrs) [.ref dr,.ref si] _ _ _ ⟨rfl,?a1,?a2⟩ ⟨_,_,_,_,_,T.keeps F2.keep,fun b o e => F2.keep b o (X b o e)⟩ ?bel (.cons (.list (nad _ _ qdr) ⟨odr,upd F2 N2 _ _ qdr,rdr⟩ (ints_repD hd2)) (.cons (.list (nad _ _ qsi) ⟨osi,upd F2 N2 _ _ qsi,rsi⟩ (ints_repD hs2)) .nil)) hn ?_
  case a1 => exact rl2 hdp rfl
  case a2 => exact rl3 hun rfl
  case bel =>
    intro b hb
    rw [← WA.led_addrs w.params a σ] at hb
    (refine ob_EA (List.mem_map.mp hb) fun q hq z4q => ?_; obtain rfl := z4q)
    exact ⟨_,_,Nat.le_refl _,(N2 q (List.mem_append_left _ hq)).1⟩
  rintro v s3 ⟨⟨h3,tk3,rfl,keep3⟩,rv⟩
  (refine ob_EEAAA rv.list_inv fun nm nv z5q nnm lnm rnm => ?_; obtain rfl := z5q)
  have snm := rep_strs rnm
  have F3 : Fr g L h3 _ := F2.keeps keep3
  have N3 : News g L h3 (a.led w.params σ ++ rest) := fun q hq => ⟨keep3 _ _ (N2 q hq).1,(N2 q hq).2⟩
  have W3 := W2.up keep3
  clear F2 N2 W2
  dsimp only
  repeat' (first | (k_unfold; (try dsimp only)) | (k_end; wrow_close) | (k_here; (with_reducible show wpAny _ _ (call (Value.ref 204) _) _ _ _); refine Hold.out ?_) | (k_here; (with_reducible show wpAny _ _ (call (Value.ref 197) _) _ _ _); refine Hold.out ?_) | (k_here; (with_reducible show wpAny _ _ (call (Value.ref 174) _) _ _ _); refine Hold.out ?_) | ((with_reducible show wpAny _ _ (getAttr (Value.ref _) _ _) _ _ _); k_here; k_dflt (refine' get_append ?Fq3 ?Nq3 ?aq3 ?_; (case Fq3 => k_asm); (case Nq3 => k_asm); (case aq3 => k_mem); k_whole); intro bw h' F' N' hbw; (try k_lt hbw); (try k_sweep)) | walk1 | (dsimp only; walk1) | (leave1; walk_say "STEP leave1"; try dsimp only) | fail "no step")
  unfold Hold
  refine wpAny_call ?_
  refine told_ok (prog := prog) (w := w) 4 0 (by decide) rfl (Pre.inner (led := a.led w.params σ) B F3 X T N3 (fun q hq => List.mem_append_left _ hq) rfl rfl rfl rfl ?d1 ?d2) ord W3 hC lnm nnm snm nok ⟨oho,upd F3 N3 _ _ qho,rho⟩ (nad _ _ qho) hh2 hl (by decide) (by decide) ?d5 ?d6 gf ?_
  case d1 => exact rl2 hdp rfl
  case d2 => exact rl2 hun rfl
  case d5 => exact rl3 hdp rfl
  case d6 => exact rl3 hun rfl
  intro h7 tk7 gs7 σ7 W7 k7 gf7
  refine ob_A (led_call (pre := rest) (m := _) F3 (fun q hq => N3 q (List.mem_append.mpr (List.mem_append.mp hq).symm)) nra k7 W7.led) fun F7 N7 => ?_
  have hpc7 := W7.led (a.pc,W.listOf σ7.ps σ7.n5) (List.mem_of_getElem? (i := 8) rfl)
  have h1477 := W7.led (147,tabObj σ7.tps) (List.mem_of_getElem? (i := 9) rfl)
  repeat' (first | (k_unfold; (try dsimp only)) | (k_end; wrow_close) | (k_here; (with_reducible show wpAny _ _ (call (Value.ref 204) _) _ _ _); refine Hold.out ?_) | (k_here; (with_reducible show wpAny _ _ (call (Value.ref 197) _) _ _ _); refine Hold.out ?_) | (k_here; (with_reducible show wpAny _ _ (call (Value.ref 174) _) _ _ _); refine Hold.out ?_) | ((with_reducible show wpAny _ _ (getAttr (Value.ref _) _ _) _ _ _); k_here; k_dflt (refine' get_append ?Fq3 ?Nq3 ?aq3 ?_; (case Fq3 => k_asm); (case Nq3 => k_asm); (case aq3 => k_mem); k_whole); intro bw h' F' N' hbw; (try k_lt hbw); (try k_sweep)) | walk1 | (dsimp only; walk1) | (leave1; walk_say "STEP leave1"; try dsimp only) | fail "no step")
  refine k a.pc σ7.n5 σ7.ps σ7.tps h7 _ gs7 gf7 ?_ ?_ W7.ps (fun q hq e => ?_) ?_
  · rw [apc]; exact F7
  · intro q hq
    rcases List.mem_cons.mp hq with rfl | hq
    · exact N7 _ (List.mem_append_right _ (List.mem_of_getElem? (i := 8) rfl))
    · rcases List.mem_cons.mp hq with rfl | hq
      · exact N7 (147,tabObj σ7.tps) (List.mem_append_right _ (List.mem_of_getElem? (i := 9) rfl))
      · exact N7 q (List.mem_append_left _ hq)
  · exact nra q hq (by rw [e]; exact List.mem_of_getElem? (i := 8) rfl)
  · (refine ob_A ord fun e1 _ => ?_; try clear ord)
    exact Nat.ne_of_gt e1
section
set_option maxHeartbeats 0
noncomputable def p77s0 : {g : Sto → Option PF // ∀ (prog : Program) (K : Params → Frag),KB K → DS prog K 8 T77 (stmtAt 77 0) g} := ⟨_,fun prog K H => (DS.asgF (i := 1) rfl (DE.bin op_add (DF.toDE (DF.comp (CpOk.of (own := ["cell"]) (oc := []) (js := []) (cs := []) (by decide +kernel)) (DI.seq (DE.slice (DE.name (i := 0) rfl rfl) DP.no (DP.yes DE.int))) (TgOk.name (i := 0) (by decide) rfl) (.inl ⟨rfl,rfl⟩) (DE.bin op_mod (DE.callT (isBuilt H.b_int bb_int) b_int (DEs.cons (DE.name (i := 0) rfl rfl) DEs.nil (fun _ => rfl)) (fun _ => rfl) (fun _ _ => rfl)) (DE.bin op_pow DE.int DE.int)))) (DE.slice (DE.lst (DEs.cons DE.int (DEs.cons DE.int (DEs.cons DE.int (DEs.cons DE.int DEs.nil (fun _ => rfl)) (fun _ => rfl)) (fun _ => rfl)) (fun _ => rfl))) (DP.yes (DE.callB (isBuilt H.b_len bb_len) b_len (DEs.cons (DE.slice (DE.name (i := 0) rfl rfl) DP.no (DP.yes DE.int)) DEs.nil (fun _ => rfl)) (fun _ => rfl) (fun _ _ => rfl))) DP.no)))⟩
noncomputable def p77s1 : {g : Sto → Option PF // ∀ (prog : Program) (K : Params → Frag),KB K → DS prog K 8 T77 (stmtAt 77 1) g} := ⟨_,fun prog K H => (DS.asgF (i := 2) rfl (DE.bin op_add (DE.lst (DEs.cons DE.int DEs.nil (fun _ => rfl))) (DF.toDE (DF.comp (CpOk.of (own := ["place", "draw"]) (oc := []) (js := []) (cs := []) (by decide +kernel)) (DI.enum (isBuilt H.b_enumerate bb_enumerate) (DEs.cons (DE.name (i := 1) rfl rfl) (DEs.cons DE.int DEs.nil (fun _ => rfl)) (fun _ => rfl)) (fun _ => rfl) (fun _ _ => rfl)) (TgOk.tup (i := 0) (j := 1) (by decide) rfl (by decide) rfl) (.inl ⟨rfl,rfl⟩) (DE.bin op_mod (DE.name (i := 1) rfl rfl) (DE.name (i := 0) rfl rfl))))))⟩
noncomputable def p77s2 : {g : Sto → Option PF // ∀ (prog : Program) (K : Params → Frag),KB K → DS prog K 8 T77 (stmtAt 77 2) g} := ⟨_,fun prog K H => (DS.asgF (i := 3) rfl (DE.bin op_add (DE.lst (DEs.cons DE.int DEs.nil (fun _ => rfl))) (DF.toDE (DF.comp (CpOk.of (own := ["place", "draw"]) (oc := []) (js := []) (cs := []) (by decide +kernel)) (DI.enum (isBuilt H.b_enumerate bb_enumerate) (DEs.cons (DE.name (i := 1) rfl rfl) (DEs.cons DE.int DEs.nil (fun _ => rfl)) (fun _ => rfl)) (fun _ => rfl) (fun _ _ => rfl)) (TgOk.tup (i := 0) (j := 1) (by decide) rfl (by decide) rfl) (.inl ⟨rfl,rfl⟩) (DE.bin op_add (DE.bin op_mod (DE.bin op_div (DE.name (i := 1) rfl rfl) (DE.name (i := 0) rfl rfl)) DE.int) DE.int)))))⟩
end
structure LawEv (scr : List Int) : Prop where
  ev : ∃ (σ1 σ2 σ3 : Sto) (draws hosts sizes : List Int) (names : List Str),p77s0.1 (entry 7 [.list (scr.map .int)]) = some (.next σ1) ∧ p77s1.1 σ1 = some (.next σ2) ∧ p77s2.1 σ2 = some (.next σ3) ∧
    look σ3 1 = some (.fz (.list (draws.map .int))) ∧ look σ3 2 = some (.fz (.list (hosts.map .int))) ∧ look σ3 3 = some (.fz (.list (sizes.map .int))) ∧ hosts.length = 5 ∧ NamesOk names ∧ F68 [.list (draws.map .int),.list (sizes.map .int)] = some (.list (names.map .str)) ∧
    p77b.1 (F70 6) [none,some (.fz (.list (draws.map .int))),some (.fz (.list (hosts.map .int))),some (.fz (.list (sizes.map .int))),some (.ow ((toldP names hosts 5 0).map .str)),none,none] = some (.ret (.bool true))
theorem t77_local : ∀ x ∈ T77.vars,T77.sc.names.lookup x = some .local := by decide +kernel
theorem t77_nd : T77.vars.Nodup := by decide +kernel
theorem t77_kind : T77.sc.kind = .function := by kernel_rfl
noncomputable abbrev lawEnv (L fa : Addr) (cd : Value) : Env := envOf (Str.ofString "law") sc77 L fa cd
theorem t77_env (L fa : Addr) (cd : Value) : (lawEnv L fa cd).scope = T77.sc := sc77_eq.symm
theorem law_fm {L fa : Addr} {cd : Value} {h : Heap} {m : Str → Option Value} (hn : h.Ns L m) : Fm T77 T77.vars.length (lawEnv L fa cd) [L] h where
  sc := t77_env L fa cd
  kd := t77_kind
  nd := t77_nd
  lm := .head _
  all := fun b hb => by
    rw [List.mem_singleton.mp hb]
    (refine ob_EEEA hn fun o _ _ e _ => ?_; try clear hn)
    exact ⟨o,e⟩
  ns := ⟨m,hn⟩
  own := fun i x _ hx => .inl (t77_local x (List.mem_of_getElem? hx))
  inj := fun i j x y c _ hx _ kx => by
    rw [t77_local x (List.mem_of_getElem? hx)] at kx
    cases kx
  cap := fun j y c hy ky => by
    rw [t77_local y (List.mem_of_getElem? hy)] at ky
    cases ky
theorem law_bound {L fa : Addr} {cd : Value} {h : Heap} {m : Str → Option Value} {x : Str} {v : Value} (hn : h.Ns L m) (hx : x ∈ T77.vars) (e : m x = some v) : Bound h (lawEnv L fa cd) x v :=
  .inl ⟨by show (lawEnv L fa cd).scope.names.lookup x = _; rw [t77_env]; exact t77_local x hx,m,hn,e⟩
theorem law_unbound {L fa : Addr} {cd : Value} {h : Heap} {m : Str → Option Value} {x : Str} {v : Value} (hn : h.Ns L m) (b : Bound h (lawEnv L fa cd) x v) (hx : x ∈ T77.vars) : m x = some v := by
  rcases b with ⟨_,m',hn',e⟩ | ⟨k,_⟩
  · (refine ob_EEEAAA hn fun o es ep e1 e2 _ e3 => ?_; try clear hn)
    (refine ob_EEEAAA hn' fun o' es' ep' f1 f2 _ f3 => ?_; try clear hn')
    rw [show h.get? L = some o' from f1] at e1
    cases e1
    rw [e2] at f2
    cases f2
    rw [← e3,f3,e]
  · have : (lawEnv L fa cd).kindOf x = some .local := by show (lawEnv L fa cd).scope.names.lookup x = _; rw [t77_env]; exact t77_local x hx
    rw [this] at k
    cases k
theorem body77 : bodyAt 77 = stmtAt 77 0 :: stmtAt 77 1 :: stmtAt 77 2 :: st3 :: st4 :: (bodyAt 77).drop 5 := by kernel_rfl
theorem all1 {P : Nat → Str → Prop} {x0 : Str} {l : List Str} (h0 : P 0 x0) (h : ∀ i x,l[i]? = some x → P (i + 1) x) : ∀ i x,(x0 :: l)[i]? = some x → P i x := fun i x e => by
  cases i with
  | zero => exact Option.some.inj e ▸ h0
  | succ i => exact h i x e
theorem all7 {P : Nat → Str → Prop} {x0 x1 x2 x3 x4 x5 x6 : Str} (h0 : P 0 x0) (h1 : P 1 x1) (h2 : P 2 x2) (h3 : P 3 x3) (h4 : P 4 x4) (h5 : P 5 x5) (h6 : P 6 x6) : ∀ i x, [x0,x1,x2,x3,x4,x5,x6][i]? = some x → P i x :=
  all1 h0 (all1 (P := fun i => P (i + 1)) h1 (all1 (P := fun i => P (i + 2)) h2 (all1 (P := fun i => P (i + 3)) h3 (all1 (P := fun i => P (i + 4)) h4 (all1 (P := fun i => P (i + 5)) h5 (all1 (P := fun i => P (i + 6)) h6 fun _ _ e => no_nil e))))))
theorem law_walk {prog : Program} {w : World} {g base : Heap} {outer : List Env} {L fa : Addr} {cd : Value} {s : Shared} {mg mb : Str → Option Value} {p : Program} {loose : List Str} {mean : ExcName → Option Value} {Q : Flow → Shared → Prop} {E : Value → Shared → Prop} {Ag : Nat} {Ad : Option (List Code)} {Au : Nat} {a : Addr} {vs : List Value} {scr : List Int}
    {g0 g1 g2 gb : Sto → Option PF} {FN : List D → Option D} {σ1 σ2 σ3 : Sto} {draws hosts sizes : List Int} {names : List Str}
    (S0 : DS prog K0 8 T77 (stmtAt 77 0) g0) (S1 : DS prog K0 8 T77 (stmtAt 77 1) g1) (S2 : DS prog K0 8 T77 (stmtAt 77 2) g2) (SB : DB prog K0 8 T77 ((bodyAt 77).drop 5) gb) (hF : FnOk prog K0 3 197 FN)
    (B : Below ⟨none,Ag,some outer,Ad,Au⟩ base outer g) (F : Fr g L s.heap (fun y => [(Str.ofString "script",Value.ref a)].reverse.lookup y)) (X : (K0 w.params).In g) (T : Top p loose mean mg mb g) (N : News g L s.heap [(147,tabObj #[])]) (hC : CodeHd g 149 147) (hdp : Ag + 200 < recursionLimit) (hun : Au + 2000 < cLine)
    (gf : AllFin s.gens) (ha : g.IsList a vs.toArray) (hi : IntsAre vs scr)
    (e0 : g0 (entry 7 [.list (scr.map .int)]) = some (.next σ1)) (e1 : g1 σ1 = some (.next σ2)) (e2 : g2 σ2 = some (.next σ3)) (c1 : look σ3 1 = some (.fz (.list (draws.map .int)))) (c2 : look σ3 2 = some (.fz (.list (hosts.map .int)))) (c3 : look σ3 3 = some (.fz (.list (sizes.map .int)))) (hl : hosts.length = 5) (nok : NamesOk names)
    (hn : FN [.list (draws.map .int),.list (sizes.map .int)] = some (.list (names.map .str)))
    (eb : gb [none,some (.fz (.list (draws.map .int))),some (.fz (.list (hosts.map .int))),some (.fz (.list (sizes.map .int))),some (.ow ((toldP names hosts 5 0).map .str)),none,none] = some (.ret (.bool true)))
    (k : ∀ h' tk' gs,(∀ b o,g.get? b = some o → h'.get? b = some o) → AllFin gs → (∃ tps,h'.get? 147 = some (tabObj tps)) → Q (.ret (.bool true)) { s with heap := h',toks := tk',gens := gs }) :
    wpAny (model prog w) (Around.deeper ⟨none,Ag,some outer,Ad,Au⟩ (lawEnv L fa cd)) (execs (bodyAt 77) (lawEnv L fa cd)) Q E s := by
  rw [body77]
  let Ex : Addr → Prop := fun b => b = 147
  have aok : AOk 8 (Around.deeper ⟨none,Ag,some outer,Ad,Au⟩ (lawEnv L fa cd)) := ⟨rfl,by show Ag + 1 + 8 < recursionLimit; lia,by show Au + 3 + 8 * 8 + 8 < cLine; lia⟩
  have z147 := N _ (.head _)
  have gL : g.get? L = none := by
    cases e : g.get? L with
    | none => rfl
    | some o => exact absurd (Heap.lt_size e) (Nat.not_lt.mpr F.above)
  have tops : Tops (K0 w.params) g := ⟨_,_,_,_,_,T,X⟩
  have aN : a ≠ 147 ∧ a ≠ L := by
    (refine ob_EA ha fun o ho _ => ?_; try clear ha)
    exact ⟨fun q => (by rw [q,z147.2.2] at ho; cases ho),fun q => (by rw [q,gL] at ho; cases ho)⟩
  have fs0 : FS (K0 w.params) 8 T77 (Around.deeper ⟨none,Ag,some outer,Ad,Au⟩ (lawEnv L fa cd)) (lawEnv L fa cd) Ex [L] g (fun _ => none) s.heap (entry 7 [.list (scr.map .int)]) := by
    refine ⟨aok,rfl,rfl,law_fm F.ns,tops,F.keep,fun b hb => ?_,fun b hb => by rw [List.mem_singleton.mp hb]; exact gL,fun i b e => (by cases e),fun i j b e => (by cases e),fun i x hx => ?_⟩
    · rw [show b = 147 from hb]
      exact ⟨147,_,Nat.le_refl _,z147.1⟩
    · refine all7 (P := fun i x => VarOk _ _ _ _ i x (look (entry 7 [.list (scr.map .int)]) i)) ?_ trivial trivial trivial trivial trivial trivial i x hx
      refine ob_EA ha fun o ho r => ⟨.ref a,law_bound F.ns (by decide +kernel) rfl,.list (fun q => ?_) ⟨o,F.keep a o ho,r⟩ (ints_repD hi)⟩
      exact q.elim aN.1 fun q => q.elim (fun q => aN.2 (List.mem_singleton.mp q)) fun q => Exists.elim q fun _ q => nomatch q
  refine wpAny_execs_cons (wpAny_mono (S0 w _ s _ Ex [L] g _ _ _ fs0 e0) (fun fl s1 q => ?_) fun _ _ e => e.elim)
  (refine ob_EAA q fun ω1 a1 z1q fs1 => ?_; try clear q; obtain rfl := z1q)
  refine wpAny_execs_cons (wpAny_mono (S1 w _ s1 _ Ex [L] g _ _ _ fs1 e1) (fun fl s2 q => ?_) fun _ _ e => e.elim)
  (refine ob_EAA q fun ω2 a2 z2q fs2 => ?_; try clear q; obtain rfl := z2q)
  refine wpAny_execs_cons (wpAny_mono (S2 w _ s2 _ Ex [L] g _ _ _ fs2 e2) (fun fl s3 q => ?_) fun _ _ e => e.elim)
  (refine ob_EAA q fun ω3 a3 z3q fs3 => ?_; try clear q; obtain rfl := z3q)
  have aa := (a1.trans a2).trans a3
  clear a1 a2 a3 fs0 fs1 fs2
  (refine ob_AAA aa fun z4q kp _ _ => ?_; try clear aa; obtain ⟨h3,tk3,rfl⟩ := z4q)
  have k147 : h3.get? 147 = some (tabObj #[]) := kp 147 _ (fun q => z147.2.1 (List.mem_singleton.mp q)) (fun i q => by cases q) z147.1
  obtain ⟨m,hns⟩ := fs3.fm.ns
  have val : ∀ (i : Nat) (x : Str) (ns : List Int),T77.vars[i]? = some x → look σ3 i = some (.fz (.list (ns.map .int))) → ∃ (b : Nat) (us : List Value),m x = some (.ref b) ∧ b ≠ 147 ∧ b ≠ L ∧ h3.IsList b us.toArray ∧ IntsAre us ns := fun i x ns hx hc => by
    have V := fs3.vars i x hx
    rw [hc] at V
    (refine ob_EA V fun v bd r => ?_; try clear V)
    obtain ⟨b,us,rfl,nb,l,r⟩ := r.list_inv
    exact ⟨b,us,law_unbound hns bd (List.mem_of_getElem? hx),fun q => nb (.inl q),fun q => nb (.inr (.inl (List.mem_singleton.mpr q))),l,rep_ints r⟩
  refine ob_EEAAAA (val 1 _ _ rfl c1) fun dr dv md nd1 nd2 ld id => ?_
  refine ob_EEAAAA (val 2 _ _ rfl c2) fun ho hv mh nh1 nh2 lh ih => ?_
  refine ob_EEAAAA (val 3 _ _ rfl c3) fun si sv ms ns1 ns2 ls is => ?_
  have em : m = mLaw2 dr ho si m := by
    funext y
    unfold mLaw2
    split
    · rename_i e; rw [e]; exact md
    split
    · rename_i e; rw [e]; exact mh
    split
    · rename_i e; rw [e]; exact ms
    · rfl
  have F3 : Fr g L h3 (mLaw2 dr ho si m) := ⟨em ▸ hns,fs3.up,F.above⟩
  (refine ob_EA ld fun od hod rd => ?_; try clear ld)
  (refine ob_EA lh fun oh hoh rh => ?_; try clear lh)
  (refine ob_EA ls fun os hos rs => ?_; try clear ls)
  have inR : ∀ (b : Nat) o (l : List (Addr × Obj)),h3.get? b = some o → (b,o) ∈ l → g.get? b = some o ∨ (b,o) ∈ l.filter (fun q => (g.get? q.1).isNone) := fun b o l hb hm => by
    cases e : g.get? b with
    | none => exact .inr (List.mem_filter.mpr ⟨hm,by show (g.get? b).isNone = true; rw [show g.get? b = none from e]; rfl⟩)
    | some o' =>
      have := fs3.up b o' e
      rw [show h3.get? b = some o from hb] at this
      exact .inl this.symm
  have wR : ∀ q ∈ [((dr : Addr),od),(ho,oh),(si,os)],q.1 ≠ 147 ∧ q.1 ≠ L ∧ h3.get? q.1 = some q.2 := fun q hq => by
    simp only [List.mem_cons,List.not_mem_nil,or_false] at hq
    rcases hq with rfl | rfl | rfl
    · exact ⟨nd1,nd2,hod⟩
    · exact ⟨nh1,nh2,hoh⟩
    · exact ⟨ns1,ns2,hos⟩
  have i1 := inR dr od [(dr,od),(ho,oh),(si,os)] hod (.head _)
  have i2 := inR ho oh [(dr,od),(ho,oh),(si,os)] hoh (.tail _ (.head _))
  have i3 := inR si os [(dr,od),(ho,oh),(si,os)] hos (.tail _ (.tail _ (.head _)))
  generalize hrest : [((dr : Addr),od),(ho,oh),(si,os)].filter (fun q => (g.get? q.1).isNone) = rest at i1 i2 i3
  have memR : ∀ q ∈ rest,(q.1 ≠ 147 ∧ q.1 ≠ L ∧ h3.get? q.1 = some q.2) ∧ g.get? q.1 = none := fun q hq => by
    rw [← hrest] at hq
    refine ob_A (List.mem_filter.mp hq) fun h1 h2 => ?_
    refine ⟨wR q h1,?_⟩
    cases e : g.get? q.1 with
    | none => rfl
    | some o => rw [show g.get? q.1 = some o from e] at h2; cases h2
  have N3 : News g L h3 ((147,tabObj #[]) :: rest) := fun q hq => by
    rcases List.mem_cons.mp hq with rfl | hq
    · exact ⟨k147,z147.2⟩
    · (refine ob_A (memR q hq) fun z5q x4 => ?_; obtain ⟨x1,x2,x3⟩ := z5q)
      exact ⟨x3,x2,x4⟩
  have one : ∀ {b : Nat} {o o' : Obj} {P : Obj → Prop},h3.get? b = some o → P o → h3.get? b = some o' → P o' := fun h p h' => by
    rw [h] at h'
    cases h'
    exact p
  refine law_mid (s := { s with heap := h3,toks := tk3 }) B F3 X T N3 hC hdp hun (fun q hq => (memR q hq).1.1) gf ⟨od,hod,rd⟩ id ⟨oh,hoh,rh⟩ ih ⟨os,hos,rs⟩ is (fun o e => one (P := fun o => g.get? dr = some o ∨ (dr,o) ∈ rest) hod i1 e) (fun o e => one (P := fun o => g.get? ho = some o ∨ (ho,o) ∈ rest) hoh i2 e) (fun o e => one (P := fun o => g.get? si = some o ∨ (si,o) ∈ rest) hos i3 e) hF hn nok hl ?_
  intro pc n ps tps h7 tk7 gs7 gf7 F7 N7 sp hpr hp147
  have zp := N7 _ (.head _)
  have zt := N7 _ (.tail _ (.head _))
  have kR : ∀ (b : Nat) o,g.get? b = some o ∨ (b,o) ∈ rest → h7.get? b = some o ∧ b ≠ pc := fun b o hb => by
    rcases hb with hb | hb
    · exact ⟨F7.keep b o hb,fun q => (by rw [q] at hb; rw [show g.get? pc = none from zp.2.2] at hb; cases hb)⟩
    · exact ⟨(N7 _ (.tail _ (.tail _ hb))).1,hpr _ hb⟩
  have rep : ∀ (b : Nat) o (us : List Value) (ns : List Int),(g.get? b = some o ∨ (b,o) ∈ rest) → (o.cls = .type "list" ∧ ∃ n,o.data = .seq us.toArray n) → b ≠ 147 → b ≠ L → IntsAre us ns → Rep h7 (Exf Ex [L] fun i => if i = 4 then some pc else none) (.ref b) (.list (ns.map .int)) := fun b o us ns hb r b1 b2 hus => by
    refine .list (fun q => ?_) ⟨o,(kR b o hb).1,r⟩ (ints_repD hus)
    rcases q with q | q | ⟨j,q⟩
    · exact b1 q
    · exact b2 (List.mem_singleton.mp q)
    · dsimp only at q
      split at q
      · exact (kR b o hb).2 (Option.some.inj q).symm
      · cases q
  have fs7 : FS (K0 w.params) 8 T77 (Around.deeper ⟨none,Ag,some outer,Ad,Au⟩ (lawEnv L fa cd)) (lawEnv L fa cd) Ex [L] g (fun i => if i = 4 then some pc else none) h7 [none,some (.fz (.list (draws.map .int))),some (.fz (.list (hosts.map .int))),some (.fz (.list (sizes.map .int))),some (.ow ((toldP names hosts 5 0).map .str)),none,none] := by
    refine ⟨aok,rfl,rfl,law_fm F7.ns,tops,F7.keep,fun b hb => ?_,fun b hb => by rw [List.mem_singleton.mp hb]; exact gL,fun i b e => ?_,fun i j b e f => ?_,fun i x hx => ?_⟩
    · rw [show b = 147 from hb]
      exact ⟨147,_,Nat.le_refl _,zt.1⟩
    · try dsimp only at e
      split at e
      · cases e
        exact ⟨zp.2.2,hp147,fun q => zp.2.1 (List.mem_singleton.mp q),_,zp.1⟩
      · cases e
    · try dsimp only at e f
      split at e
      · split at f
        · rename_i h1 h2; rw [h1,h2]
        · cases f
      · cases e
    · exact all7 (P := fun i x => VarOk _ _ _ _ i x (look [none,some (.fz (.list (draws.map .int))),some (.fz (.list (hosts.map .int))),some (.fz (.list (sizes.map .int))),some (.ow ((toldP names hosts 5 0).map .str)),none,none] i)) trivial ⟨_,law_bound F7.ns (by decide +kernel) rfl,rep _ _ _ _ i1 rd nd1 nd2 id⟩ ⟨_,law_bound F7.ns (by decide +kernel) rfl,rep _ _ _ _ i2 rh nh1 nh2 ih⟩
        ⟨_,law_bound F7.ns (by decide +kernel) rfl,rep _ _ _ _ i3 rs ns1 ns2 is⟩ ⟨pc,ps.toList,rfl,law_bound F7.ns (by decide +kernel) rfl,⟨n,zp.1⟩,strs_rep sp⟩ trivial trivial i x hx
  refine wpAny_mono (SB w _ { s with heap := h7,toks := tk7,gens := gs7 } _ Ex [L] g _ _ _ fs7 eb) (fun fl s8 q => ?_) fun _ _ e => e.elim
  (refine ob_EAEA q fun ω8 z6q v z7q rv => ?_; try clear q; obtain ⟨⟨h8,tk8,rfl⟩,kp8,_,_⟩ := z6q; obtain rfl := z7q)
  obtain rfl := rv.bool_inv
  have keep8 : ∀ (b : Nat) o,b ≠ L → b ≠ pc → h7.get? b = some o → h8.get? b = some o := fun b o b1 b2 e => kp8 b o (fun q => b1 (List.mem_singleton.mp q)) (fun i q => by
    dsimp only at q
    split at q
    · exact b2 (Option.some.inj q).symm
    · cases q) e
  refine k h8 tk8 gs7 (fun b o e => keep8 b o (fun q => by rw [q,gL] at e; cases e) (kR b o (.inl e)).2 (F7.keep b o e)) gf7 ⟨tps,keep8 147 _ zt.2.1 (fun q => hp147 q.symm) zt.1⟩
theorem kn_postG {M : Model} {A : Around} {cd : Code} {s s₁ : Shared} {cw : ClaimW} {cl : Str → Option Addr} {mean : ExcName → Option Value} {args : List WData} {tabs : List (Addr × Addr)} (hT : TabsAt tabs s₁.heap) (hr : ∀ a x,cw.raises a x = false) (hp : cw.post args (.bool true) args = true)
    (h : codeAny M A cd (fun r s' => r = .ok (.ret (.bool true)) ∧ (∀ b o,(ghostOf s₁.heap tabs).get? b = some o → s'.heap.get? b = some o) ∧ s'.os = s₁.os ∧ AllBare s'.gens ∧ GrownAll tabs s'.heap) s) : codeAny M A cd (GoodWG cw cl mean args s₁) s :=
  codeAny_mono h fun r s' ⟨hc,hk,hos,hg,hgr⟩ => by
    have keep : ∀ b o,b ∉ tabs.map (·.2) → s₁.heap.get? b = some o → s'.heap.get? b = some o := fun b o hb e => hk b o (ghost_ne e hb)
    have grown : ∀ b o,b ∈ tabs.map (·.2) → s₁.heap.get? b = some o → isCodeTable s₁.heap b ∧ o = tabObj #[] ∧ ∃ ps,s'.heap.get? b = some (tabObj ps) := fun b o hb e => by
      (refine ob_EA (List.mem_map.mp hb) fun q hq z1q => ?_; obtain rfl := z1q)
      have e2 := (hT q hq).2
      rw [e] at e2
      exact ⟨((hT q hq).1.tab (hT q hq).2).isCodeTable,Option.some.inj e2,hgr.get q hq⟩
    refine ⟨.inl ⟨_,.bool true, [],hc,hr args,.bool true,hp,fun _ => ⟨.nil,fun _ ha => nomatch ha⟩⟩,⟨fun b o e => ?_,fun b o e => ?_⟩,hos,hg⟩
    · by_cases hb : b ∈ tabs.map (·.2)
      · (refine ob_AAE (grown b o hb e) fun ht z2q ps hP => ?_; obtain rfl := z2q)
        exact .inr (.inl ⟨ht,rfl, #[],ps,rfl,by rw [Array.empty_append]; exact hP⟩)
      · exact .inl (keep b o hb e)
    · by_cases hb : b ∈ tabs.map (·.2)
      · refine ob_AAE (grown b o hb e) fun _ _ ps hP => ?_
        exact ⟨_,hP⟩
      · exact ⟨o,keep b o hb e⟩
theorem scr_ev (plain : ∀ scr : List Int,scr.length ≤ 63 → LawEv scr) {vs : List Value} {scr : List Int} (_hI : IntsAre vs scr) (h : ¬ ((63 : Int) < (scr.length : Int))) : LawEv scr := plain scr (by lia)
section
open PySem.Builtin.Str (strSliceIndices)
namespace L
noncomputable abbrev Tx := List Nat
noncomputable def S (l : Tx) : Str := ⟨l.toArray⟩
noncomputable def dS (l : Tx) : D := .str (S l)
theorem S_len (l : Tx) : (S l).length = l.length := List.size_toArray ..
theorem S_app (a b : Tx) : S a ++ S b = S (a ++ b) := by
  show (⟨a.toArray ++ b.toArray⟩ : Str) = _
  rw [List.append_toArray]; rfl
theorem S_inj {a b : Tx} : S a = S b ↔ a = b := by
  constructor
  · intro h
    have := congrArg (fun s : Str => s.cps.toList) h
    simpa [S] using this
  · rintro rfl; rfl
theorem S_beq (a b : Tx) : (S a == S b) = (a == b) := by
  by_cases h : a = b
  · subst h; simp
  · rw [beq_eq_false_iff_ne.mpr h,beq_eq_false_iff_ne.mpr fun q => h (S_inj.mp q)]
noncomputable def clipN (n : Nat) (i : Int) : Nat := if i < 0 then ((i + n).toNat) else min i.toNat n
theorem clip_eq (n : Nat) (i : Int) : max 0 (min (if i < 0 then i + (n : Int) else i) (n : Int)) = ((clipN n i : Nat) : Int) := by
  unfold clipN
  split
  · rename_i h
    rw [Int.min_eq_left (Int.le_trans (Int.add_le_add_right (Int.le_of_lt h) n) (Int.le_of_eq (Int.zero_add _))),Int.max_comm]
    exact (Int.ofNat_toNat _).symm
  · rename_i h
    obtain ⟨k,rfl⟩ := Int.eq_ofNat_of_zero_le (Int.not_lt.mp h)
    rcases Nat.le_total k n with q | q
    · rw [Int.toNat_natCast,Nat.min_eq_left q,Int.min_eq_left (Int.ofNat_le.mpr q)]; exact Int.max_eq_right (Int.natCast_nonneg _)
    · rw [Int.toNat_natCast,Nat.min_eq_right q,Int.min_eq_right (Int.ofNat_le.mpr q)]; exact Int.max_eq_right (Int.natCast_nonneg _)
noncomputable def loN (n : Nat) : Option Int → Nat
  | none => 0
  | some i => clipN n i
noncomputable def hiN (n : Nat) : Option Int → Nat
  | none => n
  | some i => clipN n i
theorem strIdx (lo hi : Option Int) (n : Nat) : strSliceIndices lo hi 1 n = (List.range (hiN n hi - loN n lo)).map (loN n lo + ·) := by
  rw [← sliceRange_one]
  unfold strSliceIndices
  cases lo <;> cases hi <;> simp only [show (1 : Int) > 0 by decide,if_true,loN,hiN,clip_eq] <;> rfl
theorem clip_le (n : Nat) (i : Int) : clipN n i ≤ n := by
  unfold clipN
  split
  · rename_i h; exact Int.toNat_le.mpr (Int.le_trans (Int.add_le_add_right (Int.le_of_lt h) n) (Int.le_of_eq (Int.zero_add _)))
  · exact Nat.min_le_right _ _
theorem hi_le (n : Nat) (i : Option Int) : hiN n i ≤ n := by cases i with
  | none => exact Nat.le_refl _
  | some i => exact clip_le n i
theorem slice_S (l : Tx) (lo hi : Option Int) : Txt.slice (S l) lo hi = S ((l.drop (loN l.length lo)).take (hiN l.length hi - loN l.length lo)) := by
  unfold Txt.slice
  rw [S_len,strIdx]
  have hp : ((List.range (hiN l.length hi - loN l.length lo)).map (loN l.length lo + ·)).filterMap ((S l).cps[·]?) = (l.drop (loN l.length lo)).take (hiN l.length hi - loN l.length lo) := by
    rw [pick_run]; rfl
  rw [hp]
  split
  · rename_i h
    simp only [beq_self_eq_true,Bool.true_and,List.length_map,List.length_range,beq_iff_eq] at h
    have h1 := hi_le l.length hi
    by_cases z : l.length = 0
    · have : l = [] := List.length_eq_zero_iff.mp z
      subst this
      simp
    · have h2 : loN l.length lo = 0 := by lia
      rw [h2,show hiN l.length hi = l.length by lia]
      simp
  · rfl
theorem slice_take (l : Tx) (k : Nat) : Txt.slice (S l) none (some k) = S (l.take k) := by
  rw [slice_S]
  show S ((l.drop 0).take (clipN l.length k - 0)) = _
  unfold clipN
  rw [if_neg (by exact Int.not_lt.mpr (Int.natCast_nonneg _)),List.drop_zero,Nat.sub_zero,Int.toNat_natCast]
  congr 1
  by_cases h : k ≤ l.length
  · rw [Nat.min_eq_left h]
  · rw [Nat.min_eq_right (by lia),List.take_of_length_le (Nat.le_refl _),List.take_of_length_le (by omega)]
theorem slice_drop (l : Tx) (k : Nat) : Txt.slice (S l) (some k) none = S (l.drop k) := by
  rw [slice_S]
  show S ((l.drop (clipN l.length k)).take (l.length - clipN l.length k)) = _
  unfold clipN
  rw [if_neg (Int.not_lt.mpr (Int.natCast_nonneg k)),Int.toNat_natCast]
  congr 1
  rw [List.take_of_length_le (by rw [List.length_drop]; exact Nat.le_refl _)]
  by_cases h : k ≤ l.length
  · rw [Nat.min_eq_left h]
  · rw [Nat.min_eq_right (Nat.le_of_lt (Nat.lt_of_not_le h)),List.drop_eq_nil_of_le (Nat.le_refl _),List.drop_eq_nil_of_le (Nat.le_of_lt (Nat.lt_of_not_le h))]
theorem slice_neg (l : Tx) (k : Nat) : Txt.slice (S l) none (some (-((k + 1 : Nat) : Int))) = S (l.take (l.length - (k + 1))) := by
  rw [slice_S]
  show S ((l.drop 0).take (clipN l.length _ - 0)) = _
  unfold clipN
  rw [if_pos (by exact Int.negSucc_lt_zero _),List.drop_zero,Nat.sub_zero]
  congr 2
  rw [Int.add_comm, ← Int.sub_eq_add_neg]; exact Int.toNat_sub _ _
theorem slice_all (l : Tx) : Txt.slice (S l) none none = S l := by
  rw [slice_S]
  show S ((l.drop 0).take (l.length - 0)) = _
  simp
theorem pick_take {α : Type} (xs : List α) (k : Nat) : pick xs none (some k) = xs.take k := by
  unfold pick sliceBounds
  simp only [Option.getD_none,show (1 : Int) > 0 by decide,if_true]
  rw [clip_eq,show (0 : Int) = ((0 : Nat) : Int) from rfl,sliceRange_one]
  have := pick_run xs.toArray 0 (clipN xs.length k - 0)
  simp only [List.getElem?_toArray,List.drop_zero] at this
  rw [this]
  unfold clipN
  rw [if_neg (Int.not_lt.mpr (Int.natCast_nonneg k)),Nat.sub_zero,Int.toNat_natCast]
  by_cases h : k ≤ xs.length
  · rw [Nat.min_eq_left h]
  · rw [Nat.min_eq_right (by lia),List.take_of_length_le (Nat.le_refl _),List.take_of_length_le (by omega)]
theorem pick_drop {α : Type} (xs : List α) (k : Nat) : pick xs (some k) none = xs.drop k := by
  unfold pick sliceBounds
  simp only [Option.getD_none,show (1 : Int) > 0 by decide,if_true]
  rw [clip_eq,sliceRange_one]
  have := pick_run xs.toArray (clipN xs.length k) (xs.length - clipN xs.length k)
  simp only [List.getElem?_toArray] at this
  rw [this]
  unfold clipN
  rw [if_neg (Int.not_lt.mpr (Int.natCast_nonneg k)),Int.toNat_natCast]
  rw [List.take_of_length_le (by rw [List.length_drop]; exact Nat.le_refl _)]
  by_cases h : k ≤ xs.length
  · rw [Nat.min_eq_left h]
  · rw [Nat.min_eq_right (by omega),List.drop_eq_nil_of_le (Nat.le_refl _),List.drop_eq_nil_of_le (by omega)]
theorem has_one (l : Tx) (c : Nat) : hasStr (S l) (S [c]) = l.contains c := by
  unfold hasStr
  show (!(Builtin.Str.occurrences (S l) ⟨#[c]⟩ 0 (S l).length 1).isEmpty) = _
  rw [PySem.StrLaws.found_one]
  show decide (c ∈ l) = _
  rw [List.contains_eq_mem]
theorem item_S (l : Tx) (k : Nat) (h : k < l.length) : Txt.item (S l) (k : Int) = S [l[k]] := by
  unfold Txt.item Txt.charAt seqIndex?
  rw [S_len]
  simp only [show ¬ ((k : Int) < 0) by exact Int.not_lt.mpr (Int.natCast_nonneg _),if_false]
  have h1 : (0 : Int) ≤ k := by exact Int.natCast_nonneg _
  have h2 : (k : Int) < (l.length : Nat) := by exact Int.ofNat_lt.mpr (by assumption)
  simp [h,S]
theorem item_last (l : Tx) (c : Nat) (k : Nat) (h : k + 1 ≤ l.length) (e : l[l.length - (k + 1)]? = some c) : Txt.item (S l) (-((k + 1 : Nat) : Int)) = S [c] := by
  unfold Txt.item Txt.charAt seqIndex?
  rw [S_len]
  have h1 : (-((k + 1 : Nat) : Int)) < 0 := by exact Int.negSucc_lt_zero _
  have h2 : (-((k + 1 : Nat) : Int) + (l.length : Nat)) = ((l.length - (k + 1) : Nat) : Int) := by rw [Int.ofNat_sub h,Int.add_comm]; rfl
  simp only [h1,if_true,h2]
  have h3 : l.length - (k + 1) < l.length := by exact Nat.sub_lt (Nat.lt_of_le_of_lt (Nat.zero_le _) (by assumption)) (Nat.succ_pos _)
  rw [List.getElem?_eq_getElem h3] at e
  simp [h3,S,Option.some.inj e]
theorem join_S : ∀ xs : List Tx,Txt.join (S []) (xs.map S) = S xs.flatten := fun xs => by
  show PySem.Builtin.Str.glued (S []) (xs.map S) = _
  rw [PySem.StrLaws.glued_eq_join]
  induction xs with
  | nil => rfl
  | cons x r ih =>
    cases r with
    | nil => show S x = _; simp
    | cons y r =>
      show S x ++ S [] ++ Str.join (S []) ((y :: r).map S) = _
      rw [ih,S_app,S_app,List.append_nil]
      rfl
theorem joinOk_S (xs : List Tx) (h : xs.flatten.length ≤ sizeLine) : JoinOk (S []) (xs.map S) = true := by
  unfold JoinOk
  rw [PySem.StrLaws.joinTotal]
  have e : ((xs.map S).map (·.length)).sum = xs.flatten.length := by
    rw [List.length_flatten,List.map_map]
    exact congrArg List.sum (List.map_congr_left fun x _ => S_len x)
  rw [show (List.map (fun x => x.length) (List.map S xs)).sum = xs.flatten.length from e]
  unfold PySem.Builtin.Str.tooLong
  have z : (S []).length = 0 := rfl
  rw [z]
  rw [Nat.mul_zero,Nat.add_zero]
  simp only [Bool.not_eq_true',decide_eq_false_iff_not]
  exact Nat.not_lt_of_le (by assumption)
end L
end
namespace L
theorem sz {n : Nat} (h : n ≤ 10000) : n ≤ sizeLine := Nat.le_trans h (by decide)
theorem forF_run {bnd : D → Sto → Option Sto} {body : Sto → Option PF} {α β : Type} (I : α → Sto) (w : β → D) (step : α → β → α) (ok : α → List β → Prop)
    (hb : ∀ a b r,ok a (b :: r) → (bnd (w b) (I a)).bind body = some (.next (I (step a b))) ∧ ok (step a b) r) : ∀ (bs : List β) (a : α),ok a bs → forF bnd body (bs.map w) (I a) = some (.next (I (bs.foldl step a)))
  | [],a,_ => rfl
  | b :: bs,a,h => by
    refine ob_A (hb a b bs h) fun h1 h2 => ?_
    show (bnd (w b) (I a)).bind (fun σ₁ => (body σ₁).bind _) = _
    rw [← Option.bind_assoc,h1]
    exact forF_run I w step ok hb bs (step a b) h2
theorem whileF_stop {t : Sto → Option Bool} {g : Sto → Option PF} {k : Nat} {σ : Sto} (h : t σ = some false) : whileF t g (k + 1) σ = some (.next σ) := by
  show (t σ).bind _ = _; rw [h]; rfl
theorem whileF_next {t : Sto → Option Bool} {g : Sto → Option PF} {k : Nat} {σ σ' : Sto} (h : t σ = some true) (h' : g σ = some (.next σ')) : whileF t g (k + 1) σ = whileF t g k σ' := by
  show (t σ).bind _ = _
  rw [h]; show (g σ).bind _ = _; rw [h']; rfl
theorem whileF_run {t : Sto → Option Bool} {g : Sto → Option PF} {α β : Type} (I : α → List β → Sto) (ok : α → List β → Prop)
    (h0 : ∀ a,ok a [] → t (I a []) = some false)
    (hb : ∀ a b r,ok a (b :: r) → t (I a (b :: r)) = some true ∧ ∃ a',g (I a (b :: r)) = some (.next (I a' r)) ∧ ok a' r) : ∀ (bs : List β) (a : α) (k : Nat),bs.length < k → ok a bs → ∃ a',whileF t g k (I a bs) = some (.next (I a' [])) ∧ ok a' []
  | [],a,k + 1,_,h => ⟨a,whileF_stop (h0 a h),h⟩
  | b :: bs,a,k + 1,hk,h => by
    refine ob_AEA (hb a b bs h) fun h1 a₁ h2 h3 => ?_
    refine ob_EA (whileF_run I ok h0 hb bs a₁ k (by simpa using hk) h3) fun a' e ok' => ?_
    exact ⟨a',by rw [whileF_next h1 h2]; exact e,ok'⟩
theorem seq_wh {t : Sto → Option Bool} {g K : Sto → Option PF} {α β : Type} {R : Option PF} {N : Sto → Nat} (I : α → List β → Sto) (ok : α → List β → Prop) (bs : List β) (a : α) (hk : bs.length < N (I a bs)) (hok : ok a bs)
    (h0 : ∀ a,ok a [] → t (I a []) = some false)
    (hb : ∀ a b r,ok a (b :: r) → t (I a (b :: r)) = some true ∧ ∃ a',g (I a (b :: r)) = some (.next (I a' r)) ∧ ok a' r) (fin : ∀ a',ok a' [] → K (I a' []) = R) : seqF (fun σ => whileF t g (N σ) σ) K (I a bs) = R := by
  refine ob_EA (whileF_run I ok h0 hb bs a _ hk hok) fun a' e ok' => ?_
  show (whileF t g (N (I a bs)) (I a bs)).bind _ = _
  rw [e]
  exact fin a' ok'
theorem seqF_next {f g : Sto → Option PF} {σ σ' : Sto} {R : Option PF} (h : f σ = some (.next σ')) (k : g σ' = R) : seqF f g σ = R := by unfold seqF; rw [h]; exact k
theorem seqF_ret {f g : Sto → Option PF} {σ : Sto} {d : D} (h : f σ = some (.ret d)) : seqF f g σ = some (.ret d) := by unfold seqF; rw [h]; rfl
theorem seq_for {bnd : D → Sto → Option Sto} {body K : Sto → Option PF} {f : Sto → Option (List D)} {α β : Type} {R : Option PF} {σ : Sto} (I : α → Sto) (w : β → D) (step : α → β → α) (ok : α → List β → Prop) (bs : List β) (a : α) (hσ : σ = I a) (hf : f σ = some (bs.map w)) (hok : ok a bs)
    (hb : ∀ a b r,ok a (b :: r) → (bnd (w b) (I a)).bind body = some (.next (I (step a b))) ∧ ok (step a b) r) (fin : K (I (bs.foldl step a)) = R) : seqF (fun σ => (f σ).bind fun ds => forF bnd body ds σ) K σ = R := by
  refine seqF_next (σ' := I (bs.foldl step a)) ?_ fin
  show (f σ).bind _ = _
  rw [hf,hσ]
  exact forF_run I w step ok hb bs a hok
theorem asgS_ok {i : Nat} {f : Sto → Option D} {σ : Sto} {d : D} (h : f σ = some d) (hf : d.flat = true) : asgS i f σ = some (.next (put σ i (some (.fz d)))) := by
  unfold asgS; rw [h]; show (if _ then _ else _) = _; rw [if_pos hf]
theorem asgF_ok {i : Nat} {f : Sto → Option D} {σ : Sto} {d : D} (h : f (fzs σ) = some d) : asgF i f σ = some (.next (put σ i (some (.fz d)))) := by
  unfold asgF; rw [h]; rfl
theorem asgO_ok {i : Nat} {f : Sto → Option (List D)} {σ : Sto} {d : List D} (h : f (fzs σ) = some d) : asgO i f σ = some (.next (put σ i (some (.ow d)))) := by
  unfold asgO; rw [h]; rfl
theorem appS_ok {i : Nat} {f : Sto → Option D} {σ : Sto} {ds : List D} {d : D} (hl : look σ i = some (.ow ds)) (h : f σ = some d) (hf : d.flat = true) (hn : ds.length ≤ 10000) : appS i f σ = some (.next (put σ i (some (.ow (ds ++ [d]))))) := by
  unfold appS; rw [hl]; dsimp only; rw [h]; show (if _ then _ else _) = _; rw [if_pos ⟨hf,sz hn⟩]
theorem appF_ok {i : Nat} {f : Sto → Option D} {σ : Sto} {ds : List D} {d : D} (hl : look σ i = some (.ow ds)) (h : f (fzs σ) = some d) (hn : ds.length ≤ 10000) : appF i f σ = some (.next (put σ i (some (.ow (ds ++ [d]))))) := by
  unfold appF; rw [hl]; dsimp only; rw [h]; show (if _ then _ else _) = _; rw [if_pos (sz hn)]
theorem augS_ok {i : Nat} {G : D → D → Option D} {f : Sto → Option D} {σ : Sto} {x y d : D} (hx : σ.get i = some x) (h : f σ = some y) (hG : G x y = some d) : augS i G f σ = some (.next (put σ i (some (.fz d)))) := by
  unfold augS; rw [hx]; show (f σ).bind _ = _; rw [h]; show (G x y).map _ = _; rw [hG]; rfl
theorem ifF_t {t : Sto → Option Bool} {f g : Sto → Option PF} {σ : Sto} {R : Option PF} (h : t σ = some true) (k : f σ = R) : ifF t f g σ = R := by unfold ifF; rw [h]; exact k
theorem ifF_f {t : Sto → Option Bool} {f g : Sto → Option PF} {σ : Sto} {R : Option PF} (h : t σ = some false) (k : g σ = R) : ifF t f g σ = R := by unfold ifF; rw [h]; exact k
theorem retF_of {g : Sto → Option PF} {σ : Sto} {d : D} (h : g σ = some (.ret d)) : retF g σ = some d := by
  unfold retF; rw [h]; rfl
noncomputable def sgn : List Nat := [60,47,62,65,66,67,68,69,70,71,72,73,74]
noncomputable def symD (c : Nat) : D := if c = 60 then .int 20 else if c = 47 then .int 17 else if c = 62 then .int 21 else dS [c]
noncomputable def tokN : List (Tx × Int) := [([33],54),([33,61],28),([37],24),([37,61],40),([38],19),([38,61],41),([40],7),([41],8),([42],16),([42,42],35),([42,42,61],46),([42,61],38),([43],14),([43,61],36),([44],12),([45],15),([45,61],37),([45,62],51),([46],23),([46,46,46],52),([47],17),([47,47],47),([47,47,61],48),([47,61],39),([58],11),([58,61],53),([59],13),([60],20),([60,60],33),([60,60,61],44),([60,61],29),([61],22),([61,61],27),([62],21),([62,61],30),([62,62],34),([62,62,61],45),([64],49),([64,61],50),([91],9),([93],10),([94],32),([94,61],43),([123],25),([124],18),([124,61],42),([125],26),([126],31)]
theorem tokN_eq : tokTab = tokN.map fun p => (S p.1,p.2) := by decide +kernel
noncomputable def eqT : Tx → Tx → Bool
  | [], [] => true
  | a :: r,b :: q => Nat.beq a b && eqT r q
  | _,_ => false
theorem eqT_eq : ∀ a b,eqT a b = true → a = b
  | [], [],_ => rfl
  | a :: r,b :: q,h => by
    have h : (Nat.beq a b && eqT r q) = true := h
    rw [Bool.and_eq_true] at h
    rw [Nat.eq_of_beq_eq_true h.1,eqT_eq r q h.2]
theorem eqT_self : ∀ a,eqT a a = true
  | [] => rfl
  | a :: r => by show (Nat.beq a a && eqT r r) = true; rw [Nat.beq_refl,eqT_self r]; rfl
noncomputable def lk : List (Tx × Int) → Tx → Option Int
  | [],_ => none
  | p :: r,x => bif eqT p.1 x then some p.2 else lk r x
theorem lk_eq (x : Tx) : ∀ t : List (Tx × Int),tabAt (t.map fun p => (S p.1,p.2)) (S x) = lk t x
  | [] => rfl
  | p :: t => by
    show (if S p.1 = S x then _ else _) = _
    unfold lk
    cases h : eqT p.1 x with
    | true => rw [eqT_eq _ _ h,if_pos rfl]; rfl
    | false => rw [if_neg fun q => (by rw [S_inj.mp q,eqT_self] at h; cases h),lk_eq x t]; rfl
theorem tab_lk (x : Tx) : tabAt tokTab (S x) = lk tokN x := by rw [tokN_eq,lk_eq]
theorem tab1 : ∀ c ∈ sgn,lk tokN [c] = if c = 60 then some 20 else if c = 47 then some 17 else if c = 62 then some 21 else none := by decide +kernel
noncomputable def okPair (a b : Nat) : Bool := !(a == b && (a == 60 || a == 47 || a == 62))
theorem tab2 : ∀ a ∈ sgn,∀ b ∈ sgn,okPair a b = true → lk tokN [a,b] = none := by decide +kernel
theorem tok3 : (tokN.all fun p => !(Nat.beq p.1.length 3) || !(p.1.all fun c => sgn.contains c)) = true := by decide +kernel
theorem eqT_ne {a b : Tx} (h : a ≠ b) : eqT a b = false := by
  cases e : eqT a b with
  | false => rfl
  | true => exact absurd (eqT_eq _ _ e) h
theorem lk_none {x : Tx} : ∀ {t : List (Tx × Int)},(∀ p ∈ t,p.1 ≠ x) → lk t x = none
  | [],_ => rfl
  | p :: t,h => by
    unfold lk
    rw [eqT_ne (h p (.head _))]
    exact lk_none fun q hq => h q (.tail _ hq)
theorem tab3 (a : Nat) (ha : a ∈ sgn) (b : Nat) (hb : b ∈ sgn) (c : Nat) (hc : c ∈ sgn) : lk tokN [a,b,c] = none := lk_none fun p hp q => by
  have := List.all_eq_true.mp tok3 p hp
  rw [q] at this
  simp [ha,hb,hc] at this
noncomputable def okPage : Tx → Bool
  | [] => true
  | [a] => sgn.contains a
  | a :: b :: r => sgn.contains a && okPair a b && okPage (b :: r)
theorem okPage_mem : ∀ l,okPage l = true → ∀ c ∈ l,c ∈ sgn
  | [],_,c,h => nomatch h
  | [a],h,c,hc => by
    rw [List.mem_singleton.mp hc]
    unfold okPage at h
    simpa using h
  | a :: b :: r,h,c,hc => by
    unfold okPage at h
    simp only [Bool.and_eq_true] at h
    rcases List.mem_cons.mp hc with rfl | hc
    · simpa using h.1.1
    · exact okPage_mem (b :: r) h.2 c hc
theorem okPage_tl {a : Nat} {l : Tx} (h : okPage (a :: l) = true) : okPage l = true := by
  cases l with
  | nil => rfl
  | cons b r => unfold okPage at h; simp only [Bool.and_eq_true] at h; exact h.2
theorem okPage_sz {a : Nat} {l : Tx} (h : okPage (a :: l) = true) : lk tokN [a] = (if a = 60 then some 20 else if a = 47 then some 17 else if a = 62 then some 21 else none) ∧ (l ≠ [] → lk tokN ((a :: l).take 2) = none ∧ lk tokN ((a :: l).take 3) = none) := by
  have ha := okPage_mem _ h a (.head _)
  refine ⟨tab1 a ha,fun hn => ?_⟩
  match l,hn with
  | b :: r,_ =>
    have hb := okPage_mem _ h b (.tail _ (.head _))
    have hp : okPair a b = true := by unfold okPage at h; simp only [Bool.and_eq_true] at h; exact h.1.2
    have h2 := tab2 a ha b hb hp
    refine ⟨h2,?_⟩
    cases r with
    | nil => exact h2
    | cons c r => exact tab3 a ha b hb c (okPage_mem _ h c (.tail _ (.tail _ (.head _))))
theorem symD_eq {a : Nat} {l : Tx} (h : okPage (a :: l) = true) : getD2 tokTab (dS [a]) (dS [a]) = some (symD a) := by
  show some (match tabAt tokTab (S [a]) with | some i => D.int i | none => dS [a]) = _
  rw [tab_lk,(okPage_sz h).1]
  unfold symD
  by_cases h1 : a = 60
  · rw [if_pos h1,if_pos h1]
  by_cases h2 : a = 47
  · rw [if_neg h1,if_neg h1,if_pos h2,if_pos h2]
  by_cases h3 : a = 62
  · rw [if_neg h1,if_neg h1,if_neg h2,if_neg h2,if_pos h3,if_pos h3]
  · rw [if_neg h1,if_neg h1,if_neg h2,if_neg h2,if_neg h3,if_neg h3]
theorem sl_take {l : Tx} (hl : l.length ≤ 1000) (k : Nat) : sliceD (dS l) none (some (k : Int)) = some (dS (l.take k)) := by
  show (if _ then _ else _) = _
  rw [S_len,if_pos (sz (by exact Nat.le_trans (by assumption) (by decide))),slice_take]; rfl
theorem sl_drop {l : Tx} (hl : l.length ≤ 1000) (k : Nat) : sliceD (dS l) (some (k : Int)) none = some (dS (l.drop k)) := by
  show (if _ then _ else _) = _
  rw [S_len,if_pos (sz (by lia)),slice_drop]; rfl
theorem truth_S {l : Tx} (hl : l.length ≤ 1000) : truthD (dS l) = some (!l.isEmpty) := by
  show (if _ then _ else _) = _
  rw [S_len,if_pos (sz (by omega))]
  cases l <;> simp
  lia
theorem key_S (l : Tx) : keyD tokTab (dS l) = some (lk tokN l).isSome := by
  show some (tabAt tokTab (S l)).isSome = _
  rw [tab_lk]
theorem flat_sym (c : Nat) : (symD c).flat = true := by
  unfold symD
  repeat (split; · rfl)
  rfl
theorem f71_in {c : Nat} {r : Tx} {acc : Cell} (h : okPage (c :: r) = true) (hl : (c :: r).length ≤ 1000) : ∃ k : Nat,(c :: r).take k = [c] ∧ (c :: r).drop k = r ∧
    whileF (fun σ => ((σ.get 2).bind fun x => (gtD x (D.int 1)).bind truthD).bind fun b => bif b then (Option.map (fun x => !x) (((σ.get 0).bind fun x => ((σ.get 2).bind partD).bind fun b => sliceD x none b).bind (keyD tokTab))).bind fun b => bif b then some true else some false else some false)
      (seqF (augS 2 subD (fun _ => some (D.int 1))) fun σ => some (.next σ)) 2000 [some (.fz (dS (c :: r))),some acc,some (.fz (.int 3))] = some (.next [some (.fz (dS (c :: r))),some acc,some (.fz (.int k))]) := by
  have h3 := sl_take hl 3
  have h2 := sl_take hl 2
  have h1 := sl_take hl 1
  have hz := okPage_sz h
  by_cases hr : r = []
  · subst hr
    cases hc : lk tokN [c] with
    | some v =>
      refine ⟨3,rfl,rfl,whileF_stop ?_⟩
      simp only [Sto.get,look,Option.map_some,Cell.d,Option.bind_some,gtD_ii,truthD_b,truthD_i,partD_i]
      rw [show sliceD (dS [c]) none (some 3) = some (dS [c]) from h3]
      simp only [Option.bind_some,key_S,hc]
      rfl
    | none =>
      refine ⟨1,rfl,rfl,?_⟩
      rw [whileF_next (σ' := [some (.fz (dS [c])),some acc,some (.fz (.int 2))]),whileF_next (σ' := [some (.fz (dS [c])),some acc,some (.fz (.int 1))])]
      · exact whileF_stop rfl
      · simp only [Sto.get,look,Option.map_some,Cell.d,Option.bind_some,gtD_ii,truthD_b,truthD_i,partD_i]
        rw [show sliceD (dS [c]) none (some 2) = some (dS [c]) from h2]
        simp only [Option.bind_some,key_S,hc]
        rfl
      · rfl
      · simp only [Sto.get,look,Option.map_some,Cell.d,Option.bind_some,gtD_ii,truthD_b,truthD_i,partD_i]
        rw [show sliceD (dS [c]) none (some 3) = some (dS [c]) from h3]
        simp only [Option.bind_some,key_S,hc]
        rfl
      · rfl
  · refine ob_A (hz.2 hr) fun e2 e3 => ?_
    refine ⟨1,rfl,rfl,?_⟩
    rw [whileF_next (σ' := [some (.fz (dS (c :: r))),some acc,some (.fz (.int 2))]),whileF_next (σ' := [some (.fz (dS (c :: r))),some acc,some (.fz (.int 1))])]
    · exact whileF_stop rfl
    · simp only [Sto.get,look,Option.map_some,Cell.d,Option.bind_some,gtD_ii,truthD_b,truthD_i,partD_i]
      rw [show sliceD (dS (c :: r)) none (some 2) = some _ from h2]
      simp only [Option.bind_some,key_S,e2]
      rfl
    · rfl
    · simp only [Sto.get,look,Option.map_some,Cell.d,Option.bind_some,gtD_ii,truthD_b,truthD_i,partD_i]
      rw [show sliceD (dS (c :: r)) none (some 3) = some _ from h3]
      simp only [Option.bind_some,key_S,e3]
      rfl
    · rfl
theorem f71 (page : Tx) (h : okPage page = true) (hl : page.length ≤ 1000) : F71 [dS page] = some (.list (page.map symD)) := by
  show retF p71.1 (entry 3 [dS page]) = _
  refine retF_of ?_
  unfold p71
  dsimp only
  refine seqF_next (asgO_ok (d := []) rfl) ?_
  refine seq_wh (fun (a : Tx × Option Cell) (l : Tx) => [some (.fz (dS l)),some (.ow (a.1.map symD)),a.2]) (fun a l => okPage l = true ∧ a.1 ++ l = page) page ([],none) (by exact Nat.lt_of_le_of_lt (by assumption) (by decide)) ⟨h,rfl⟩ ?_ ?_ ?_
  · intro a _
    rfl
  · rintro ⟨acc,c₂⟩ c r ⟨ho,he⟩
    have hn : acc.length + (r.length + 1) = page.length := by rw [← he,List.length_append]; rfl
    have hl' : (c :: r).length ≤ 1000 := by rw [List.length_cons]; lia
    refine ⟨by show truthD (dS (c :: r)) = _; rw [truth_S hl']; rfl,?_⟩
    refine ob_EAA (f71_in (acc := .ow (acc.map symD)) ho hl') fun k e1 e2 e3 => ?_
    refine ⟨(acc ++ [c],some (.fz (.int k))),?_,okPage_tl ho,by rw [← he]; simp⟩
    refine seqF_next (asgS_ok rfl rfl) (seqF_next e3 (seqF_next (appS_ok (ds := acc.map symD) (d := symD c) rfl ?_ (flat_sym c) (by rw [List.length_map]; lia)) (seqF_next (asgS_ok (d := dS r) ?_ rfl) ?_)))
    · show ((sliceD (dS (c :: r)) none (some (k : Int))).bind fun p => (sliceD (dS (c :: r)) none (some (k : Int))).bind fun q => getD2 tokTab p q) = _
      rw [sl_take hl',e1]
      exact symD_eq ho
    · show sliceD (dS (c :: r)) (some (k : Int)) none = _
      rw [sl_drop hl',e2]
    · show some (PF.next [some (.fz (dS r)),some (.ow (acc.map symD ++ [symD c])),some (.fz (.int k))]) = _
      rw [List.map_append]
      rfl
  · rintro ⟨acc,c₂⟩ ⟨_,e'⟩
    rw [List.append_nil] at e'
    refine seqF_ret ?_
    show some (PF.ret (.list (acc.map symD))) = _
    rw [show acc = page from e']
theorem ofS0 : Str.ofString "" = S [] := by decide +kernel
theorem strsOf_S : ∀ ts : List Tx,strsOf (ts.map dS) = some (ts.map S)
  | [] => rfl
  | t :: r => by
    show (strsOf (r.map dS)).map _ = _
    rw [strsOf_S r]; rfl
theorem join_dS (ts : List Tx) (h : ts.flatten.length ≤ 10000) : joinD (.str (Str.ofString "")) (.list (ts.map dS)) = some (dS ts.flatten) := by
  show (strsOf (ts.map dS)).bind _ = _
  rw [strsOf_S,ofS0]
  show (if _ then _ else _) = _
  rw [if_pos (joinOk_S ts (sz h)),join_S]
  rfl
structure RS where
  roads : List Tx
  opened : List Tx
  name : Tx
  ending : Bool
noncomputable def RS.step (s : RS) (c : Nat) : RS :=
  bif Nat.beq c 60 then ⟨s.roads,s.opened, [],false⟩
  else bif Nat.beq c 47 then ⟨s.roads,s.opened,s.name,true⟩
  else bif Nat.beq c 62 then (bif s.ending then ⟨s.roads,s.opened.dropLast,s.name,s.ending⟩ else ⟨s.roads ++ [(s.opened ++ [s.name]).flatten],s.opened ++ [s.name],s.name,s.ending⟩)
  else ⟨s.roads,s.opened,s.name ++ [c],s.ending⟩
noncomputable def RS.fit (s : RS) (c : Nat) : Bool := Nat.ble s.roads.length 100 && (Nat.ble s.opened.length 100 && (Nat.ble s.name.length 100 && (Nat.ble (s.opened.flatten).length 1000 && (!Nat.beq c 62 || !s.ending || !s.opened.isEmpty))))
noncomputable def okR : RS → Tx → Bool
  | _, [] => true
  | s,c :: r => s.fit c && okR (s.step c) r
theorem beq_f {a b : Nat} (h : a ≠ b) : Nat.beq a b = false := by
  cases e : Nat.beq a b with
  | false => rfl
  | true => exact absurd (Nat.eq_of_beq_eq_true e) h
noncomputable def stR (pg : D) (a : RS × Option Cell) : Sto := [some (.fz pg),some (.ow (a.1.roads.map dS)),some (.ow (a.1.opened.map dS)),some (.fz (dS a.1.name)),some (.fz (.bool a.1.ending)),a.2]
theorem sym_ne {c : Nat} (h1 : c ≠ 60) (h2 : c ≠ 47) (h3 : c ≠ 62) : symD c = dS [c] := by
  unfold symD; rw [if_neg h1,if_neg h2,if_neg h3]
theorem f72 (page : Tx) (h : okPage page = true) (hl : page.length ≤ 1000) (hR : okR ⟨[], [], [],false⟩ page = true) : F72 [dS page] = some (.list ((page.foldl RS.step ⟨[], [], [],false⟩).roads.map dS)) := by
  show retF p72.1 (entry 6 [dS page]) = _
  refine retF_of ?_
  unfold p72
  dsimp only
  refine seqF_next (σ' := stR (dS page) (⟨[], [], [],false⟩,none)) ?_ ?_
  · rw [ofS0]; rfl
  refine seq_for (stR (dS page)) symD (fun a c => (a.1.step c,some (.fz (symD c)))) (fun a l => okR a.1 l = true) page (⟨[], [], [],false⟩,none) rfl ?_ hR ?_ ?_
  · show ((F71 [dS page]).bind seqD) = _
    rw [f71 page h hl]; rfl
  · rintro ⟨⟨rd,op,nm,en⟩,sy⟩ c r ho
    replace ho : (RS.fit ⟨rd,op,nm,en⟩ c && okR (RS.step ⟨rd,op,nm,en⟩ c) r) = true := ho
    rw [Bool.and_eq_true] at ho
    refine ⟨?_,ho.2⟩
    (refine ob_A ho fun hf _ => ?_; try clear ho)
    unfold RS.fit at hf
    simp only [Bool.and_eq_true,Nat.ble_eq] at hf
    (refine ob_AAAA hf fun f1 f2 f3 f4 f5 => ?_; try clear hf)
    show seqF _ _ [some (.fz (dS page)),some (.ow (rd.map dS)),some (.ow (op.map dS)),some (.fz (dS nm)),some (.fz (.bool en)),some (.fz (symD c))] = some (.next (stR (dS page) (RS.step ⟨rd,op,nm,en⟩ c,some (.fz (symD c)))))
    unfold RS.step
    by_cases h1 : c = 60
    · subst h1
      refine seqF_next (ifF_t rfl (seqF_next (σ' := [some (.fz (dS page)),some (.ow (rd.map dS)),some (.ow (op.map dS)),some (.fz (dS [])),some (.fz (.bool false)),some (.fz (symD 60))]) ?_ rfl)) rfl
      rw [ofS0]; rfl
    by_cases h2 : c = 47
    · subst h2
      exact seqF_next (ifF_f rfl (seqF_next (ifF_t rfl rfl) rfl)) rfl
    by_cases h3 : c = 62
    · subst h3
      cases en with
      | true =>
        have hne : op ≠ [] := by
          rintro rfl
          exact absurd f5 (by decide)
        refine seqF_next (ifF_f rfl (seqF_next (ifF_f rfl (seqF_next (ifF_f rfl (seqF_next (ifF_t rfl (seqF_next ?_ rfl)) rfl)) rfl)) rfl)) rfl
        rotate_left
        · show popEnd 2 [_,_,some (.ow (op.map dS)),_,_,_] = _
          unfold popEnd
          dsimp only [look]
          rw [if_pos (sz (by rw [List.length_map]; exact Nat.le_trans (by assumption) (by decide))),List.length_map,List.getElem?_map, ← List.getLast?_eq_getElem?,List.getLast?_eq_some_getLast hne]
          show some (PF.next [_,_,some (.ow ((op.map dS).eraseIdx (op.length - 1))),_,_,_]) = _
          rw [← List.length_map (f := dS) (as := op),List.eraseIdx_length_sub_one, ← List.map_dropLast]
          rfl
      | false =>
        refine seqF_next (ifF_f rfl (seqF_next (ifF_f rfl (seqF_next (ifF_f rfl (seqF_next (ifF_f rfl (seqF_next (appS_ok (ds := op.map dS) (d := dS nm) rfl rfl rfl (by rw [List.length_map]; lia)) (seqF_next (appS_ok (ds := rd.map dS) (d := dS (op ++ [nm]).flatten) rfl ?_ rfl (by rw [List.length_map]; exact Nat.le_trans (by assumption) (by decide))) rfl))) rfl)) rfl)) rfl)) ?_
        · show joinD (.str (Str.ofString "")) (.list (op.map dS ++ [dS nm])) = _
          have := join_dS (op ++ [nm]) (by rw [List.flatten_append,List.length_append,List.flatten_cons,List.flatten_nil,List.append_nil]; lia)
          rw [List.map_append] at this
          exact this
        · show some (PF.next [some (.fz (dS page)),some (.ow (rd.map dS ++ [dS (op ++ [nm]).flatten])),some (.ow (op.map dS ++ [dS nm])),_,_,_]) = some (.next [_,some (.ow ((rd ++ [(op ++ [nm]).flatten]).map dS)),some (.ow ((op ++ [nm]).map dS)),_,_,_])
          rw [List.map_append,List.map_append]
          rfl
    · rw [beq_f h1,beq_f h2,beq_f h3]
      rw [sym_ne h1 h2 h3]
      refine seqF_next (ifF_f rfl (seqF_next (ifF_f rfl (seqF_next (ifF_t rfl (seqF_next (augS_ok (x := dS nm) (y := dS [c]) (d := dS (nm ++ [c])) rfl rfl ?_) rfl)) rfl)) rfl)) rfl
      show (if _ then _ else _) = _
      rw [S_len,S_len,if_pos (sz (by simp; exact Nat.le_trans (by assumption) (by decide))),S_app]
      rfl
  · refine seqF_ret ?_
    have : ∀ (l : Tx) (a : RS × Option Cell),(l.foldl (fun a c => (a.1.step c,some (.fz (symD c)))) a).1 = l.foldl RS.step a.1 := fun l => by
      induction l with
      | nil => intro a; rfl
      | cons c l ih => intro a; exact ih _
    show some (PF.ret (.list ((List.foldl (fun (a : RS × Option Cell) c => (a.1.step c,some (.fz (symD c)))) _ page).1.roads.map dS))) = _
    rw [this]
noncomputable def caps : List Nat := [65,66,67,68,69,70,71,72,73,74]
theorem low1 : ∀ c ∈ caps,Txt.lower (S [c]) = S [c + 32] := by decide +kernel
theorem compL_map {tu : D → Option (Option D)} {β : Type} {w : β → D} {o : β → Option D} : ∀ {bs : List β},(∀ b ∈ bs,tu (w b) = some (o b)) → compL tu (bs.map w) = some (bs.filterMap o)
  | [],_ => rfl
  | b :: bs,h => by
    show (tu (w b)).bind _ = _
    rw [h b (.head _)]
    show (compL tu (bs.map w)).map _ = _
    rw [compL_map fun c hc => h c (.tail _ hc)]
    cases e : o b <;> simp [e]
theorem compF_ok {k : Nat} {js : List Nat} {f : Sto → Option (List D)} {bnd : D → Sto → Option Sto} {ts : Sto → Option Bool} {el : Sto → Option D} {σ σ₀ : Sto} {β : Type} {bs : List β} {w : β → D} {o : β → Option D} (hf : f σ = some (bs.map w)) (hn : bs.length ≤ 10000) (hσ : cpStore k js σ = some σ₀)
    (ht : ∀ b ∈ bs,turnF bnd ts el σ₀ (w b) = some (o b)) : compF k js f bnd ts el σ = some (bs.filterMap o) := by
  unfold compF
  rw [hf]
  show (if _ then _ else _) = _
  rw [List.length_map,if_pos (sz hn),hσ]
  exact compL_map ht
theorem seq_S (l : Tx) : seqD (dS l) = some (l.map fun c => dS [c]) := rfl
theorem one_map (l : Tx) : l.map (fun c => dS [c]) = (l.map fun c => [c]).map dS := by rw [List.map_map]; rfl
theorem flat_one (l : Tx) : (l.map fun c => [c]).flatten = l := by induction l with
  | nil => rfl
  | cons c l ih => rw [List.map_cons,List.flatten_cons,ih]; rfl
theorem join_one (l : Tx) (h : l.length ≤ 10000) : joinD (.str (Str.ofString "")) (.list (l.map fun c => dS [c])) = some (dS l) := by
  rw [one_map,join_dS _ (by rw [flat_one]; exact h),flat_one]
noncomputable def lets (ls road : Tx) : Tx := ls ++ road.filter fun c => !ls.contains c
noncomputable def wordOf (letters road : Tx) : Tx := letters.map fun c => bif road.contains c then c + 32 else c
theorem filterMap_if {α β : Type} (p : α → Bool) (g : α → β) (l : List α) : l.filterMap (fun c => if p c then some (g c) else none) = (l.filter p).map g := by
  induction l with
  | nil => rfl
  | cons c l ih =>
    rw [List.filterMap_cons,List.filter_cons]
    by_cases h : p c = true
    · rw [if_pos h,if_pos h]; dsimp only; rw [ih]; rfl
    · rw [if_neg h,if_neg h]; exact ih
theorem f73_aug {road ls : Tx} {rs : D} (hl : road.length ≤ 1000) : compF 1 [1] (fun σ => (σ.get 2).bind seqD) (bndName 0) (fun σ => (σ.get 0).bind fun x => (σ.get 1).bind fun y => (notInD x y).bind truthD) (fun σ => σ.get 0) [some (.fz rs),some (.fz (dS ls)),some (.fz (dS road))]
    = some ((road.filter fun c => !ls.contains c).map fun c => dS [c]) := by
  refine (compF_ok (σ₀ := [none,some (.fz (dS ls))]) (bs := road) (w := fun c => dS [c]) (o := fun c => if !ls.contains c then some (dS [c]) else none) (seq_S road) (by exact Nat.le_trans (by assumption) (by decide)) rfl fun c hc => ?_).trans ?_
  · show (((notInD (dS [c]) (dS ls)).bind truthD).bind fun b => if b then some (some (dS [c])) else some none) = _
    show (if (!hasStr (S ls) (S [c])) = true then _ else _) = _
    rw [has_one]
    by_cases h : (!ls.contains c) = true
    · rw [if_pos h,if_pos h]
    · rw [if_neg h,if_neg h]
  · rw [filterMap_if]
theorem f73_word {road ls : Tx} (hls : ls.length ≤ 1000) (hc : ∀ c ∈ ls,c ∈ caps) : compF 1 [0] (fun σ => (σ.get 1).bind seqD) (bndName 0) (fun _ => some true) (fun σ => ((σ.get 0).bind fun x => (σ.get 1).bind fun y => (inD x y).bind truthD).bind fun c => bif c then (σ.get 0).bind fun x => (match x with
    | D.str x => if x.length ≤ 5592405 then some (D.str (Txt.lower x)) else none
    | _ => none) else σ.get 0) [some (.fz (dS road)),some (.fz (dS ls))]
    = some ((wordOf ls road).map fun c => dS [c]) := by
  refine (compF_ok (σ₀ := [none,some (.fz (dS road))]) (bs := ls) (w := fun c => dS [c]) (o := fun c => some (dS [bif road.contains c then c + 32 else c])) (seq_S ls) (by lia) rfl fun c h => ?_).trans ?_
  · show (Option.map some (bif hasStr (S road) (S [c]) then (if (S [c]).length ≤ 5592405 then some (D.str (Txt.lower (S [c]))) else none) else some (dS [c]))) = _
    rw [has_one,S_len,if_pos (show [c].length ≤ 5592405 from Nat.le_of_ble_eq_true rfl),low1 c (hc c h)]
    cases road.contains c <;> rfl
  · unfold wordOf
    rw [List.map_map]
    exact congrArg some (congrFun List.filterMap_eq_map' ls)
theorem f73 (roads : List Tx) (hn : roads.length ≤ 100) (hr : ∀ r ∈ roads,r.length ≤ 100 ∧ ∀ c ∈ r,c ∈ caps) (hl : (roads.foldl lets []).length ≤ 1000) : F73 [.list (roads.map dS)] = some (.list ((roads.map (wordOf (roads.foldl lets []))).map dS)) := by
  show retF p73.1 (entry 3 [.list (roads.map dS)]) = _
  refine retF_of ?_
  unfold p73
  dsimp only
  refine seqF_next (σ' := [some (.fz (.list (roads.map dS))),some (.fz (dS [])),none]) (asgS_ok (by rw [ofS0]; rfl) rfl) ?_
  refine seq_for (fun (a : Tx × Option Cell) => [some (.fz (.list (roads.map dS))),some (.fz (dS a.1)),a.2]) dS (fun a r => (lets a.1 r,some (.fz (dS r)))) (fun a l => (∀ c ∈ a.1,c ∈ caps) ∧ (∀ r ∈ l,r.length ≤ 100 ∧ ∀ c ∈ r,c ∈ caps) ∧ a.1.length + 100 * l.length ≤ 10000) roads ([],none) rfl rfl ⟨fun _ h => (nomatch h),hr,by show 0 + _ ≤ _; lia⟩ ?_ ?_
  · rintro ⟨ls,x⟩ r rs ⟨h1,h2,h3⟩
    have hr' := h2 r (.head _)
    replace h3 : ls.length + 100 * (rs.length + 1) ≤ 10000 := h3
    have hf : (r.filter fun c => !ls.contains c).length ≤ r.length := List.length_filter_le ..
    refine ⟨?_,fun c hc => ?_,fun q hq => h2 q (.tail _ hq),?_⟩
    · show seqF _ _ [some (.fz (.list (roads.map dS))),some (.fz (dS ls)),some (.fz (dS r))] = _
      refine seqF_next (augS_ok (x := dS ls) (y := dS (r.filter fun c => !ls.contains c)) (d := dS (lets ls r)) rfl ?_ ?_) rfl
      · show (Option.map D.list (compF 1 [1] _ _ _ _ _)).bind _ = _
        refine (congrArg (fun o => (Option.map D.list o).bind fun y => joinD (.str (Str.ofString "")) y) (f73_aug (by lia))).trans ?_
        exact join_one _ (by lia)
      · show (if _ then _ else _) = _
        rw [S_len,S_len,if_pos (sz (by lia)),S_app]
        rfl
    · rcases List.mem_append.mp hc with h | h
      · exact h1 c h
      · exact hr'.2 c (List.mem_filter.mp h).1
    · show (ls ++ r.filter fun c => !ls.contains c).length + 100 * rs.length ≤ _
      rw [List.length_append]
      lia
  · have : ∀ (l : List Tx) (a : Tx × Option Cell),(l.foldl (fun a r => (lets a.1 r,some (.fz (dS r)))) a).1 = l.foldl lets a.1 := fun l => by
      induction l with
      | nil => intro a; rfl
      | cons c l ih => intro a; exact ih _
    have caps_fold : ∀ (l : List Tx) (a : Tx),(∀ c ∈ a,c ∈ caps) → (∀ r ∈ l,∀ c ∈ r,c ∈ caps) → ∀ c ∈ l.foldl lets a,c ∈ caps := fun l => by
      induction l with
      | nil => intro a h _; exact h
      | cons r l ih => exact fun a h h' => ih _ (fun c hc => (List.mem_append.mp hc).elim (h c) fun q => h' r (.head _) c (List.mem_filter.mp q).1) fun q hq => h' q (.tail _ hq)
    have hcap := caps_fold roads [] (fun _ h => nomatch h) fun r h => (hr r h).2
    refine seqF_ret ?_
    have e := this roads ([],none)
    generalize roads.foldl (fun a r => (lets a.1 r,some (.fz (dS r)))) (([],none) : Tx × Option Cell) = fin at e ⊢
    obtain ⟨ls,x⟩ := fin
    replace e : ls = roads.foldl lets [] := e
    rw [← e] at hl hcap ⊢
    refine congrArg (Option.map PF.ret) (a₂ := some (.list ((roads.map (wordOf ls)).map dS))) ?_
    show Option.map D.list (compF 1 [1] _ _ _ _ _) = _
    rw [compF_ok (σ₀ := [none,some (.fz (dS ls))]) (bs := roads) (w := dS) (o := fun r => some (dS (wordOf ls r))) rfl (by exact Nat.le_trans (by assumption) (by decide)) rfl fun r hr' => ?_]
    · rw [List.map_map]
      exact congrArg (fun l => some (D.list l)) (congrFun List.filterMap_eq_map' roads)
    · show Option.map some _ = _
      refine congrArg (Option.map some) (a₂ := some (dS (wordOf ls r))) ?_
      show (Option.map D.list (compF 1 [0] _ _ _ _ [some (.fz (dS r)),some (.fz (dS ls))])).bind _ = _
      refine (congrArg (fun o => (Option.map D.list o).bind fun y => joinD (.str (Str.ofString "")) y) (f73_word hl hcap)).trans ?_
      exact join_one _ (by unfold wordOf; rw [List.length_map]; exact Nat.le_trans (by assumption) (by decide))
noncomputable def both : List Nat := caps ++ caps.map (· + 32)
noncomputable def low (c : Nat) : Nat := if c < 97 then c + 32 else c
theorem low2 : ∀ c ∈ both,Txt.lower (S [c]) = S [low c] := by decide +kernel
noncomputable def costN (x y : Nat) : Nat := if x = y then 0 else if low x = low y then 1 else 2
theorem f6 {x y : Nat} (hx : x ∈ both) (hy : y ∈ both) : F6 [dS [x],dS [y]] = some (.int (costN x y)) := by
  show retF p6.1 (entry 2 [dS [x],dS [y]]) = _
  refine retF_of ?_
  unfold p6 costN
  dsimp only
  by_cases h : x = y
  · rw [if_pos h]
    subst h
    refine seqF_ret (ifF_t ?_ (seqF_ret rfl))
    show some (S [x] == S [x]) = _
    rw [beq_self_eq_true]
  · rw [if_neg h]
    refine seqF_next (ifF_f (?_) rfl) ?_
    · show some (S [x] == S [y]) = _
      rw [beq_eq_false_iff_ne.mpr fun q => h (List.head_eq_of_cons_eq (S_inj.mp q))]
    have e : ∀ z ∈ both,(if (S [z]).length ≤ 5592405 then some (D.str (Txt.lower (S [z]))) else none) = some (dS [low z]) := fun z hz => by
      rw [S_len,if_pos (show [z].length ≤ 5592405 from Nat.le_of_ble_eq_true rfl),low2 z hz]; rfl
    have t : ((if (S [x]).length ≤ 5592405 then some (D.str (Txt.lower (S [x]))) else none).bind fun a => (if (S [y]).length ≤ 5592405 then some (D.str (Txt.lower (S [y]))) else none).bind fun b => (eqD a b).bind truthD) = some (decide (low x = low y)) := by
      rw [e x hx,e y hy]
      show some (S [low x] == S [low y]) = _
      rw [S_beq]
      by_cases q : low x = low y
      · rw [q]; simp
      · simp [q]
    by_cases h2 : low x = low y
    · rw [if_pos h2]
      refine seqF_ret (ifF_t (t.trans ?_) (seqF_ret rfl))
      rw [decide_eq_true h2]
    · rw [if_neg h2]
      refine seqF_next (ifF_f (t.trans ?_) rfl) (seqF_ret rfl)
      rw [decide_eq_false h2]
theorem forF_idx {bnd : D → Sto → Option Sto} {body : Sto → Option PF} (P : Nat → Sto → Prop) : ∀ (ds : List D) (k : Nat) (σ : Sto),(∀ i d σ,ds[i]? = some d → P (k + i) σ → ∃ σ',(bnd d σ).bind body = some (.next σ') ∧ P (k + i + 1) σ') → P k σ → ∃ σ',forF bnd body ds σ = some (.next σ') ∧ P (k + ds.length) σ'
  | [],k,σ,_,h => ⟨σ,rfl,h⟩
  | d :: ds,k,σ,hb,h => by
    refine ob_EA (hb 0 d σ rfl h) fun σ₁ e h₁ => ?_
    refine ob_EA (forF_idx P ds (k + 1) σ₁ (fun i d' σ hd hP => by
      have := hb (i + 1) d' σ hd (by rw [show k + (i + 1) = k + 1 + i from (Nat.succ_add k i).symm]; exact hP)
      rw [show k + (i + 1) + 1 = k + 1 + i + 1 from congrArg Nat.succ (Nat.succ_add k i).symm] at this
      exact this) h₁) fun σ' e' h' => ?_
    refine ⟨σ',?_,?_⟩
    · show (bnd d σ).bind (fun σ₁ => (body σ₁).bind _) = _
      rw [← Option.bind_assoc,e]
      exact e'
    · rw [List.length_cons,show k + (ds.length + 1) = k + 1 + ds.length from (Nat.succ_add k ds.length).symm]; exact h'
theorem seq_idx {bnd : D → Sto → Option Sto} {body K : Sto → Option PF} {f : Sto → Option (List D)} {R : Option PF} {σ : Sto} {ds : List D} (P : Nat → Sto → Prop) (hf : f σ = some ds) (h0 : P 0 σ)
    (hb : ∀ i d σ,ds[i]? = some d → P i σ → ∃ σ',(bnd d σ).bind body = some (.next σ') ∧ P (i + 1) σ') (fin : ∀ σ',P ds.length σ' → K σ' = R) : seqF (fun σ => (f σ).bind fun ds => forF bnd body ds σ) K σ = R := by
  refine ob_EA (forF_idx P ds 0 σ (fun i d σ hd hP => by rw [Nat.zero_add] at hP ⊢; exact hb i d σ hd hP) h0) fun σ' e h => ?_
  rw [Nat.zero_add] at h
  refine seqF_next (σ' := σ') ?_ (fin σ' h)
  show (f σ).bind _ = _
  rw [hf]
  exact e
noncomputable def cnt : Tx → Tx → Nat
  | x :: a,y :: b => (if x = y then 0 else 1) + cnt a b
  | _,_ => 0
structure Sim (a b : Tx) : Prop where
  len : a.length = b.length
  ba : ∀ c ∈ a,c ∈ both
  bb : ∀ c ∈ b,c ∈ both
  eq : ∀ (i : Nat) (h : i < a.length) (h' : i < b.length),low b[i] = low a[i]
  ne : ∀ (i j : Nat) (h : j < a.length) (h' : i < b.length),i ≠ j → low b[i] ≠ low a[j]
theorem Sim.drop {a b : Tx} (s : Sim a b) (p : Nat) : Sim (a.drop p) (b.drop p) where
  len := by rw [List.length_drop,List.length_drop,s.len]
  ba := fun c h => s.ba c (List.mem_of_mem_drop h)
  bb := fun c h => s.bb c (List.mem_of_mem_drop h)
  eq := fun i h h' => by
    rw [List.length_drop] at h h'
    rw [List.getElem_drop,List.getElem_drop]
    exact s.eq (p + i) (Nat.add_lt_of_lt_sub' h) (Nat.add_lt_of_lt_sub' h')
  ne := fun i j h h' hn => by
    rw [List.length_drop] at h h'
    rw [List.getElem_drop,List.getElem_drop]
    exact s.ne (p + i) (p + j) (Nat.add_lt_of_lt_sub' h) (Nat.add_lt_of_lt_sub' h') (fun q => hn (Nat.add_left_cancel q))
theorem Sim.take {a b : Tx} (s : Sim a b) (p : Nat) : Sim (a.take p) (b.take p) where
  len := by rw [List.length_take,List.length_take,s.len]
  ba := fun c h => s.ba c (List.mem_of_mem_take h)
  bb := fun c h => s.bb c (List.mem_of_mem_take h)
  eq := fun i h h' => by
    rw [List.length_take] at h h'
    rw [List.getElem_take,List.getElem_take]
    exact s.eq i (Nat.le_trans h (Nat.min_le_right p (List.length a))) (Nat.le_trans h' (Nat.min_le_right p (List.length b)))
  ne := fun i j h h' hn => by
    rw [List.length_take] at h h'
    rw [List.getElem_take,List.getElem_take]
    exact s.ne i j (Nat.le_trans h (Nat.min_le_right p (List.length a))) (Nat.le_trans h' (Nat.min_le_right p (List.length b))) hn
theorem cnt_app : ∀ {a b c d : Tx},a.length = b.length → cnt (a ++ c) (b ++ d) = cnt a b + cnt c d
  | [], [],c,d,_ => (Nat.zero_add _).symm
  | x :: a,y :: b,c,d,h => by
    show (if x = y then 0 else 1) + cnt (a ++ c) (b ++ d) = (if x = y then 0 else 1) + cnt a b + cnt c d
    rw [cnt_app (by simpa using h)]
    exact (Nat.add_assoc _ _ _).symm
theorem cnt_self : ∀ a : Tx,cnt a a = 0
  | [] => rfl
  | x :: a => by show (if x = x then 0 else 1) + cnt a a = 0; rw [if_pos rfl,cnt_self a]
theorem cnt_le : ∀ a b : Tx,cnt a b ≤ a.length
  | [],_ => Nat.le_refl 0
  | x :: a, [] => Nat.zero_le _
  | x :: a,y :: b => by
    show (if x = y then 0 else 1) + cnt a b ≤ a.length + 1
    have := cnt_le a b
    split <;> lia
theorem cnt_succ {a b : Tx} {k : Nat} (h : k < a.length) (h' : k < b.length) : cnt (a.take (k + 1)) (b.take (k + 1)) = cnt (a.take k) (b.take k) + if a[k] = b[k] then 0 else 1 := by
  rw [List.take_add_one,List.take_add_one,List.getElem?_eq_getElem h,List.getElem?_eq_getElem h']
  rw [cnt_app (by rw [List.length_take,List.length_take]; exact (Nat.min_eq_left (Nat.le_of_lt h)).trans (Nat.min_eq_left (Nat.le_of_lt h')).symm)]
  show _ + ((if a[k] = b[k] then 0 else 1) + 0) = _
  rfl
theorem seq_scan {t : Sto → Option Bool} {g K : Sto → Option PF} {R : Option PF} {N : Sto → Nat} (A : Nat → Sto) (q : Nat → Bool) (n : Nat) (hN : n < N (A 0)) (hT : ∀ k,k < n → t (A k) = some (q k)) (h0 : t (A n) = some false) (hg : ∀ k,k < n → g (A k) = some (.next (A (k + 1))))
    (fin : ∀ p,p ≤ n → (∀ i,i < p → q i = true) → K (A p) = R) : seqF (fun σ => whileF t g (N σ) σ) K (A 0) = R := by
  have key : ∀ fuel k,n - k < fuel → k ≤ n → (∀ i,i < k → q i = true) → ∃ p,p ≤ n ∧ (∀ i,i < p → q i = true) ∧ whileF t g fuel (A k) = some (.next (A p)) := by
    intro fuel
    induction fuel with
    | zero => intro k h; exact absurd h (Nat.not_lt_zero _)
    | succ f ih =>
      intro k h1 h2 h3
      by_cases e : k = n
      · subst e
        exact ⟨k,Nat.le_refl _,h3,whileF_stop h0⟩
      · cases hq : q k with
        | false => exact ⟨k,h2,h3,whileF_stop (by rw [hT k (by exact Nat.lt_of_le_of_ne (by assumption) (by assumption)),hq])⟩
        | true =>
          refine ob_EAA (ih (k + 1) (Nat.lt_of_lt_of_le (Nat.sub_succ_lt_self _ _ (Nat.lt_of_le_of_ne h2 e)) (Nat.le_of_lt_succ h1)) (by exact Nat.lt_of_le_of_ne (by assumption) (by assumption)) (fun i hi => by
            by_cases e' : i = k
            · rw [e',hq]
            · exact h3 i (Nat.lt_of_le_of_ne (Nat.le_of_lt_succ hi) e'))) fun p p1 p2 p3 => ?_
          exact ⟨p,p1,p2,by rw [whileF_next (by rw [hT k (by exact Nat.lt_of_le_of_ne (by assumption) (by assumption)),hq]) (hg k (Nat.lt_of_le_of_ne h2 e))]; exact p3⟩
  refine ob_EAA (key (N (A 0)) 0 hN (Nat.zero_le _) (fun i h => absurd h (Nat.not_lt_zero _))) fun p p1 p2 p3 => ?_
  exact seqF_next p3 (fin p p1 p2)
theorem idx_S {l : Tx} (hl : l.length ≤ 1000) {k : Nat} (h : k < l.length) : idxD (dS l) (.int (k : Int)) = some (dS [l[k]]) := by
  show (if _ then _ else _) = _
  rw [S_len,if_pos ⟨⟨by exact Int.le_trans (Int.neg_nonpos_of_nonneg (Int.natCast_nonneg _)) (Int.natCast_nonneg _),by exact Int.ofNat_lt.mpr (by assumption)⟩,sz (by exact Nat.le_trans (by assumption) (by decide))⟩,item_S l k h]; rfl
theorem idx_neg {l : Tx} (hl : l.length ≤ 1000) {k : Nat} (h : k + 1 ≤ l.length) : idxD (dS l) (.int (-((k + 1 : Nat) : Int))) = some (dS [l[l.length - (k + 1)]'(Nat.sub_lt (Nat.zero_lt_of_lt h) (Nat.succ_pos k))]) := by
  show (if _ then _ else _) = _
  rw [S_len,if_pos ⟨⟨Int.neg_le_neg (Int.ofNat_le.mpr h),Int.lt_of_lt_of_le (Int.negSucc_lt_zero k) (Int.natCast_nonneg _)⟩,sz (Nat.le_trans hl (by decide))⟩,item_last l _ k h (List.getElem?_eq_getElem (Nat.sub_lt (Nat.zero_lt_of_lt h) (Nat.succ_pos k)))]; rfl
theorem sl_post {l : Tx} (hl : l.length ≤ 1000) {k : Nat} (_h : k ≤ l.length) : ((((truthD (.int (-(k : Int)))).bind fun b => bif b then some (D.int (-(k : Int))) else some D.none).bind partD).bind fun b => sliceD (dS l) none b) = some (dS (l.take (l.length - k))) := by
  cases k with
  | zero =>
    show sliceD (dS l) none none = _
    show (if _ then _ else _) = _
    rw [S_len,if_pos (sz (by exact Nat.le_trans (by assumption) (by decide))),slice_all,Nat.sub_zero,List.take_length]; rfl
  | succ k =>
    have : truthD (.int (-((k + 1 : Nat) : Int))) = some true := by
      show some (-((k + 1 : Nat) : Int) != 0) = _
      rw [bne_iff_ne.mpr (show -((k + 1 : Nat) : Int) ≠ 0 from Int.ne_of_lt (Int.negSucc_lt_zero k))]
    rw [this]
    show sliceD (dS l) none (some (-((k + 1 : Nat) : Int))) = _
    show (if _ then _ else _) = _
    rw [S_len,if_pos (sz (Nat.le_trans hl (by decide))),slice_neg]; rfl
theorem eq_one (x y : Nat) : (eqD (dS [x]) (dS [y])).bind truthD = some (x == y) := by
  show some (S [x] == S [y]) = _
  rw [S_beq]
  by_cases h : x = y
  · subst h; simp
  · have h2 : ([x] : Tx) ≠ [y] := fun q => h (List.head_eq_of_cons_eq q)
    rw [beq_eq_false_iff_ne.mpr h,beq_eq_false_iff_ne.mpr h2]
theorem len_S {l : Tx} (hl : l.length ≤ 1000) : fLen [dS l] = some (.int l.length) := by
  show (if _ then _ else _) = _
  rw [S_len,if_pos (sz (Nat.le_trans hl (by decide)))]
noncomputable def dN (a b : Tx) (i j : Nat) : Nat := 2 * (i - j) + 2 * (j - i) + cnt (a.take (min i j)) (b.take (min i j))
theorem dN_le {a b : Tx} {i j : Nat} (h : i ≤ j) : dN a b i j = 2 * (j - i) + cnt (a.take i) (b.take i) := by
  unfold dN; rw [Nat.min_eq_left h,Nat.sub_eq_zero_of_le h,Nat.mul_zero,Nat.zero_add]
theorem dN_ge {a b : Tx} {i j : Nat} (h : j ≤ i) : dN a b i j = 2 * (i - j) + cnt (a.take j) (b.take j) := by
  unfold dN; rw [Nat.min_eq_right h,Nat.sub_eq_zero_of_le h,Nat.mul_zero,Nat.add_zero]
theorem ar1 {d S c : Nat} (hc : c ≤ 1) : min (min (2 * d + (S + c)) (2 * (d + 2) + S) + 2) (2 * (d + 1) + S + 2) = 2 * (d + 1) + (S + c) := by
  have h : S + c ≤ 1 + S := Nat.le_trans (Nat.add_le_add_left hc S) (Nat.le_of_eq (Nat.add_comm S 1))
  show min (min (2 * d + (S + c)) (2 * d + 4 + S) + 2) (2 * d + 2 + S + 2) = _
  rw [Nat.min_eq_left (Nat.le_trans (Nat.add_le_add_left (Nat.le_trans h (Nat.add_le_add_right (by decide : 1 ≤ 4) S)) (2 * d)) (Nat.le_of_eq (Nat.add_assoc (2 * d) 4 S).symm)),Nat.min_eq_left (Nat.add_le_add_right (Nat.le_trans (Nat.add_le_add_left (Nat.le_trans h (Nat.add_le_add_right (by decide : 1 ≤ 2) S)) (2 * d)) (Nat.le_of_eq (Nat.add_assoc (2 * d) 2 S).symm)) 2)]
  exact Nat.add_right_comm (2 * d) (S + c) 2
theorem ar2 {S c r : Nat} (hc : c ≤ 1) (hr : S ≤ r + 1) : min (min r (2 + S) + 2) (S + c) = S + c :=
  Nat.min_eq_right (Nat.add_min_add_right r (2 + S) 2 ▸ Nat.le_min.mpr ⟨(Nat.add_le_add hr hc : S + c ≤ r + 1 + 1),Nat.le_trans (Nat.add_le_add_left hc S) (Nat.succ_le_succ (Nat.le_trans (Nat.le_add_left S 2) (Nat.le_succ _)))⟩)
theorem ar3 {d S c r : Nat} (hc : c ≤ 1) (hr : 2 * (d + 1) + S ≤ r) : min (min r (2 * d + (S + c)) + 2) (2 * (d + 1) + S + 2) = 2 * (d + 1) + (S + c) := by
  have h : S + c ≤ 2 + S := Nat.le_trans (Nat.add_le_add_left (Nat.le_trans hc (by decide : 1 ≤ 2)) S) (Nat.le_of_eq (Nat.add_comm S 2))
  have k : 2 * d + (S + c) ≤ 2 * (d + 1) + S := Nat.le_trans (Nat.add_le_add_left h (2 * d)) (Nat.le_of_eq (Nat.add_assoc (2 * d) 2 S).symm)
  rw [Nat.min_eq_right (Nat.le_trans k hr),Nat.min_eq_left (Nat.add_le_add_right k 2)]
  exact Nat.add_right_comm (2 * d) (S + c) 2
theorem ite1 {p : Prop} [Decidable p] : (if p then 0 else 1) ≤ 1 := by split <;> decide
theorem two (i d : Nat) : i + 1 + d + 1 - i = d + 2 := (congrArg (· + 1 - i) (Nat.add_right_comm i 1 d)).trans (Nat.add_sub_cancel_left i (d + 2))
theorem one (i d : Nat) : i + 1 + d - i = d + 1 := (congrArg (· - i) (Nat.add_right_comm i 1 d)).trans (Nat.add_sub_cancel_left i (d + 1))
theorem dstep {a b : Tx} {i j : Nat} (hi : i < a.length) (hj : j < a.length) (hb : a.length = b.length) {c r : Nat} (hc : c = if i = j then (if a[i]'hi = b[i]'(by exact Nat.lt_of_lt_of_le (by assumption) (Nat.le_of_eq (by assumption))) then 0 else 1) else 2) (hr : r = if j = 0 then 2 * i else dN a b (i + 1) j) :
    min (min r (dN a b i (j + 1)) + 2) (dN a b i j + c) = dN a b (i + 1) (j + 1) := by
  rcases Nat.lt_trichotomy i j with h | h | h
  · obtain ⟨d,rfl⟩ : ∃ d,j = i + 1 + d := ⟨j - (i + 1),(Nat.add_sub_of_le h).symm⟩
    have s1 := cnt_succ (a := a) (b := b) hi (hb ▸ hi)
    rw [if_neg (Nat.ne_of_lt h)] at hc
    rw [if_neg (by exact Nat.ne_zero_of_lt (by assumption)),dN_le (Nat.le_add_right _ _),Nat.add_sub_cancel_left,s1] at hr
    rw [hc,hr,dN_le (by solve_by_elim (maxDepth := 4) only [*,Nat.lt_of_le_of_lt,Nat.le_of_lt,Nat.le_of_eq,Internal.leq2]),dN_le (by exact Nat.le_of_lt (by assumption)),dN_le (by exact Nat.le_succ_of_le (by assumption)),s1,show i + 1 + d + 1 - i = d + 2 from two ..,show i + 1 + d - i = d + 1 from one ..,show i + 1 + d + 1 - (i + 1) = d + 1 from Nat.add_sub_cancel_left (i + 1) (d + 1)]
    exact ar1 ite1
  · subst h
    have s1 := cnt_succ (a := a) (b := b) hi (hb ▸ hi)
    rw [if_pos rfl] at hc
    rw [dN_le (Nat.le_add_right i 1),dN_le (Nat.le_refl i),dN_le (Nat.le_refl (i + 1)),s1,Nat.sub_self,Nat.sub_self,Nat.mul_zero,Nat.zero_add,Nat.zero_add,Nat.add_sub_cancel_left, ← hc]
    refine ar2 (hc ▸ ite1) ?_
    rw [hr]
    split
    · rename_i h0; subst h0; exact Nat.zero_le _
    · rw [dN_ge (Nat.le_add_right i 1),Nat.add_sub_cancel_left]; simp +arith
  · obtain ⟨d,rfl⟩ : ∃ d,i = j + 1 + d := ⟨i - (j + 1),(Nat.add_sub_of_le h).symm⟩
    have s2 := cnt_succ (a := a) (b := b) hj (hb ▸ hj)
    rw [if_neg (Nat.ne_of_gt h)] at hc
    rw [hc,dN_ge (by assumption),dN_ge (Nat.le_of_lt h),dN_ge (Nat.le.step h),s2,show j + 1 + d - (j + 1) = d by exact Nat.add_sub_cancel_left ..,show j + 1 + d - j = d + 1 from one ..,show j + 1 + d + 1 - (j + 1) = d + 1 from Nat.add_sub_cancel_left (j + 1) (d + 1)]
    refine ar3 ite1 ?_
    rw [hr]
    split
    · rename_i h0; subst h0; rw [List.take_zero,List.take_zero]; show 2 * (d + 1) + 0 ≤ _; simp +arith
    · rw [dN_ge (Nat.le_of_lt (Nat.le.step h))]; exact Nat.add_le_add_right (Nat.mul_le_mul_left 2 (Nat.le_trans (Nat.le_succ _) (Nat.le_of_eq (two j d).symm))) _
theorem bind_of {α β : Type} {o : Option α} {x : α} {f : α → Option β} {r : Option β} (h : o = some x) (h' : f x = r) : o.bind f = r := by subst h; exact h'
theorem map_of {α β : Type} {o : Option α} {x : α} {f : α → β} {r : β} (h : o = some x) (h' : f x = r) : o.map f = some r := by subst h; exact congrArg some h'
theorem idx_list {ds : List D} {k : Nat} (h : k ≤ 10000) : idxD (.list ds) (.int (k : Int)) = ds[k]? := by
  have h2 : (0 : Int) ≤ (k : Int) ∧ (k : Int) < 2 ^ 63 := ⟨Int.natCast_nonneg k,Int.lt_of_le_of_lt (Int.ofNat_le.mpr h) (by decide)⟩
  unfold idxD
  dsimp only
  rw [if_pos h2,Int.toNat_natCast]
theorem setS_ok {i : Nat} {fk fv : Sto → Option D} {σ : Sto} {ds : List D} {d : D} {k : Nat} (hv : fv σ = some d) (hl : look σ i = some (.ow ds)) (hk : fk σ = some (.int (k : Int))) (hf : d.flat = true) (h : k < ds.length) (hn : ds.length ≤ 10000) : setS i fk fv σ = some (.next (put σ i (some (.ow (ds.set k d))))) := by
  unfold setS
  rw [hv]
  show (match look σ i with | some (.ow ds) => _ | _ => _) = _
  rw [hl]
  dsimp only
  rw [hk]
  dsimp only [Option.bind_some]
  rw [if_pos ⟨hf,by exact Int.natCast_nonneg _,by rw [Int.toNat_natCast]; exact h,sz hn⟩,Int.toNat_natCast]
theorem costN_eq {a b : Tx} (s : Sim a b) {i j : Nat} (hi : i < a.length) (hj : j < a.length) : costN (b[i]'(s.len ▸ hi)) a[j] = if i = j then (if a[i] = b[i]'(s.len ▸ hi) then 0 else 1) else 2 := by
  have hb : i < b.length := s.len ▸ hi
  unfold costN
  by_cases e : i = j
  · subst e
    rw [if_pos rfl,if_pos (s.eq i hi hb)]
    by_cases q : a[i] = b[i]
    · rw [if_pos q,if_pos q.symm]
    · rw [if_neg q,if_neg fun h => q h.symm]
  · rw [if_neg e]
    have := s.ne i j hj hb e
    rw [if_neg fun q => this (congrArg low q),if_neg this]
noncomputable def rowM (a b : Tx) (m i j : Nat) : List D := (List.range m).map fun t => .int ((if t < j then dN a b (i + 1) (t + 1) else dN a b i (t + 1) : Nat) : Int)
theorem row_len (a b : Tx) (m i j : Nat) : (rowM a b m i j).length = m := by unfold rowM; simp
theorem row_get {a b : Tx} {m i j t : Nat} (h : t < m) : (rowM a b m i j)[t]? = some (.int ((if t < j then dN a b (i + 1) (t + 1) else dN a b i (t + 1) : Nat) : Int)) := by
  unfold rowM
  rw [List.getElem?_map,List.getElem?_range h]; rfl
theorem row_set {a b : Tx} {m i j : Nat} (h : j < m) : (rowM a b m i j).set j (.int ((dN a b (i + 1) (j + 1) : Nat) : Int)) = rowM a b m i (j + 1) := by
  apply List.ext_getElem?
  intro t
  rw [List.getElem?_set,row_len]
  by_cases ht : t < m
  · rw [row_get ht,row_get ht]
    by_cases e : j = t
    · subst e
      rw [if_pos rfl,if_pos h,if_pos (Nat.lt_succ_self j)]
    · rw [if_neg e]
      by_cases q : t < j
      · rw [if_pos q,if_pos (by exact Nat.le_succ_of_le (by assumption))]
      · rw [if_neg q,if_neg (by lia)]
  · rw [List.getElem?_eq_none (by rw [row_len]; exact Nat.le_of_not_lt (by assumption)),List.getElem?_eq_none (by rw [row_len]; exact Nat.le_of_not_lt ht)]
    split
    · rename_i e; subst e; exact absurd h ht
    · rfl
theorem row_end (a b : Tx) (m i : Nat) : rowM a b m i m = rowM a b m (i + 1) 0 := by
  unfold rowM
  apply List.map_congr_left
  intro t ht
  rw [List.mem_range] at ht
  rw [if_pos ht,if_neg (Nat.not_lt_zero _)]
theorem row_zero (a b : Tx) (m : Nat) (hm : m ≤ 40) : fLR [.int 2,.int (2 * ((m : Int) + 1)),.int 2] = some (rowM a b m 0 0) := by
  have hs : Builtin.Range.rangeSize 2 (2 * ((m : Int) + 1)) 2 = m := by
    unfold Builtin.Range.rangeSize
    simp only [show (2 : Int) > 0 by decide,if_true]
    split <;> lia
  have hsm : Builtin.Range.small 2 (2 * ((m : Int) + 1)) 2 = true := by
    have : ∀ m : Nat,m ≤ 40 → Builtin.Range.small 2 (2 * ((m : Int) + 1)) 2 = true := by
      intro m hm
      have : ∀ k : Fin 41,Builtin.Range.small 2 (2 * ((k.val : Int) + 1)) 2 = true := by decide +kernel
      exact this ⟨m,by exact Nat.lt_succ_of_le (by assumption)⟩
    exact this m hm
  unfold fLR
  dsimp only
  rw [if_pos ⟨by decide,by decide,hsm,by rw [hs]; exact Int.natCast_nonneg _,by rw [hs]; lia⟩,hs,Int.toNat_natCast]
  refine congrArg some (List.map_congr_left fun t _ => ?_)
  rw [if_neg (Nat.not_lt_zero _)]
  have z : dN a b 0 (t + 1) = 2 * (t + 1) := by
    unfold dN
    rw [Nat.zero_min,List.take_zero,List.take_zero,show cnt [] [] = 0 from rfl]
    simp
  rw [z]
  exact congrArg D.int (by simp +arith)
theorem range_at {m i : Nat} {d : D} (h : (rangeL 0 (m : Int))[i]? = some d) : i < m ∧ d = .int (i : Int) := by
  unfold rangeL at h
  rw [List.getElem?_map] at h
  (refine ob_EA (Option.map_eq_some_iff.mp h) fun k hk z1q => ?_; obtain rfl := z1q)
  have := List.getElem?_eq_some_iff.mp hk
  (refine ob_E this fun h1 h2 => ?_; try clear this)
  rw [List.getElem_range] at h2
  subst h2
  rw [List.length_range] at h1
  exact ⟨by assumption,by simp⟩
theorem range_len (m : Nat) : (rangeL 0 (m : Int)).length = m := by unfold rangeL; simp
theorem fmin (a b : Nat) : fMin [.int (a : Int),.int (b : Int)] = some (.int ((min a b : Nat) : Int)) := by
  show some (D.int (if (b : Int) < a then (b : Int) else a)) = _
  congr 2
  split <;> lia
noncomputable abbrev st7 (a b : Tx) (mx p q : Int) (rest : Sto) : Sto := some (.fz (dS a)) :: some (.fz (dS b)) :: some (.fz (.int mx)) :: some (.fz (.int p)) :: some (.fz (.int q)) :: rest
theorem f7_turn {a b : Tx} (s : Sim a b) (hm : a.length ≤ 40) {i j : Nat} (hi : i < a.length) (hj : j < a.length) {mx p q mn : Int} {r : Nat} (hr : r = if j = 0 then 2 * i else dN a b (i + 1) j) {c11 c12 c13 : Option Cell} {body : Sto → Option PF}
    (hb : body = seqF (asgS 12 fun σ => (σ.get 9).bind fun x => (((σ.get 8).bind fun d => Option.map (fun x => d :: x) (((σ.get 0).bind fun x => (σ.get 11).bind fun y => idxD x y).bind fun d => Option.map (fun x => d :: x) (some []))).bind F6).bind fun y => addD x y)
      (seqF (asgS 9 fun σ => (σ.get 5).bind fun x => (σ.get 11).bind fun y => idxD x y)
      (seqF (asgS 13 fun σ => (((σ.get 6).bind fun d => Option.map (fun x => d :: x) ((σ.get 9).bind fun d => Option.map (fun x => d :: x) (some []))).bind fMin).bind fun x => (some (D.int 2)).bind fun y => addD x y)
      (seqF (asgS 6 fun σ => ((σ.get 13).bind fun d => Option.map (fun x => d :: x) ((σ.get 12).bind fun d => Option.map (fun x => d :: x) (some []))).bind fMin)
      (seqF (setS 5 (fun σ => σ.get 11) fun σ => σ.get 6)
      (seqF (ifF (fun σ => (σ.get 6).bind fun x => (σ.get 10).bind fun y => (ltD x y).bind truthD) (seqF (asgS 10 fun σ => σ.get 6) fun σ => some (PF.next σ)) fun σ => some (PF.next σ)) fun σ => some (PF.next σ)))))))
    : ∃ mn' : Int,∃ c12' c13' : Option Cell,body (st7 a b mx p q [some (.ow (rowM a b a.length i j)),some (.fz (.int r)),some (.fz (.int i)),some (.fz (dS [b[i]'(s.len ▸ hi)])),some (.fz (.int (dN a b i j))),some (.fz (.int mn)),some (.fz (.int j)),c12,c13])
      = some (.next (st7 a b mx p q [some (.ow (rowM a b a.length i (j + 1))),some (.fz (.int (dN a b (i + 1) (j + 1)))),some (.fz (.int i)),some (.fz (dS [b[i]'(s.len ▸ hi)])),some (.fz (.int (dN a b i (j + 1)))),some (.fz (.int mn')),some (.fz (.int j)),c12',c13'])) ∧ mn' ≤ mn ∧ mn' ≤ (dN a b (i + 1) (j + 1) : Nat) := by
  have hbl : i < b.length := s.len ▸ hi
  subst hb
  have hal : a.length ≤ 1000 := by exact Nat.le_trans (by assumption) (by decide)
  have hc := costN_eq s hi hj
  have hst := dstep hi hj s.len hc hr
  refine ⟨if ((dN a b (i + 1) (j + 1) : Nat) : Int) < mn then ((dN a b (i + 1) (j + 1) : Nat) : Int) else mn,some (.fz (.int ((dN a b i j + costN b[i] a[j] : Nat) : Int))),some (.fz (.int ((min r (dN a b i (j + 1)) + 2 : Nat) : Int))),?_,by split <;> (first | exact Int.le_of_lt (by assumption) | simp | omega),by split <;> (first | simp | lia)⟩
  refine seqF_next (asgS_ok (d := .int ((dN a b i j + costN b[i] a[j] : Nat) : Int)) ?_ rfl) (seqF_next (asgS_ok (d := .int ((dN a b i (j + 1) : Nat) : Int)) ?_ rfl) (seqF_next (asgS_ok (d := .int ((min r (dN a b i (j + 1)) + 2 : Nat) : Int)) ?_ rfl)
    (seqF_next (asgS_ok (d := .int ((dN a b (i + 1) (j + 1) : Nat) : Int)) ?_ rfl) (seqF_next (σ' := st7 a b mx p q [some (.ow (rowM a b a.length i (j + 1))),some (.fz (.int (dN a b (i + 1) (j + 1)))),some (.fz (.int i)),some (.fz (dS [b[i]])),some (.fz (.int (dN a b i (j + 1)))),some (.fz (.int mn)),some (.fz (.int j)),some (.fz (.int ((dN a b i j + costN b[i] a[j] : Nat) : Int))),some (.fz (.int ((min r (dN a b i (j + 1)) + 2 : Nat) : Int)))]) ?_ ?_))))
  · simp only [Sto.get,look,put,Option.map_some,Cell.d,Option.bind_some]
    rw [idx_S hal hj]
    simp only [Option.map_some,Option.bind_some]
    rw [f6 (s.bb _ (List.getElem_mem _)) (s.ba _ (List.getElem_mem _))]
    simp only [Option.bind_some,addD_ii,Int.natCast_add]
  · exact bind_of (x := .list (rowM a b a.length i j)) rfl (bind_of (x := .int (j : Int)) rfl (by rw [idx_list (by lia),row_get hj,if_neg (Nat.lt_irrefl _)]))
  · simp only [Sto.get,look,put,Option.map_some,Cell.d,Option.bind_some]
    rw [fmin]
    simp only [Option.bind_some,addD_ii,Int.natCast_add]
    rfl
  · simp only [Sto.get,look,put,Option.map_some,Cell.d,Option.bind_some]
    rw [fmin,hst]
  · refine (setS_ok (ds := rowM a b a.length i j) (k := j) (d := .int ((dN a b (i + 1) (j + 1) : Nat) : Int)) rfl rfl rfl rfl (by rw [row_len]; exact hj) (by rw [row_len]; exact Nat.le_trans (by assumption) (by decide))).trans ?_
    rw [row_set hj]
    rfl
  · by_cases h : ((dN a b (i + 1) (j + 1) : Nat) : Int) < mn
    · rw [if_pos h]
      refine seqF_next (ifF_t (?_ : some _ = _) rfl) rfl
      rw [decide_eq_true h]
    · rw [if_neg h]
      refine seqF_next (ifF_f (?_ : some _ = _) rfl) rfl
      rw [decide_eq_false h]
theorem take_eq_of {a b : Tx} (hl : a.length = b.length) : ∀ p,p ≤ a.length → (∀ i (h : i < a.length),i < p → a[i] = b[i]'(hl ▸ h)) → a.take p = b.take p := fun p hp h => by
  apply List.ext_getElem
  · rw [List.length_take,List.length_take,hl]
  · intro i h1 h2
    rw [List.length_take] at h1
    rw [List.getElem_take,List.getElem_take]
    exact h i (by exact Nat.lt_of_lt_of_le (by assumption) (Nat.min_le_right _ _)) (by exact Nat.lt_of_lt_of_le (by assumption) (Nat.min_le_left _ _))
theorem drop_eq_of {a b : Tx} (hl : a.length = b.length) : ∀ p,p ≤ a.length → (∀ i (h : i < a.length),p ≤ i → a[i] = b[i]'(hl ▸ h)) → a.drop p = b.drop p := fun p hp h => by
  apply List.ext_getElem
  · rw [List.length_drop,List.length_drop,hl]
  · intro i h1 h2
    rw [List.length_drop] at h1
    rw [List.getElem_drop,List.getElem_drop]
    exact h (p + i) (Nat.add_lt_of_lt_sub' h1) (by exact Nat.le_add_right _ _)
theorem empty_drop (l : Tx) (k : Nat) : (!(l.drop k).isEmpty) = decide (k < l.length) := by
  rw [Bool.eq_iff_iff,Bool.not_eq_true',List.isEmpty_eq_false_iff,ne_eq,List.drop_eq_nil_iff,decide_eq_true_eq]
  simp
theorem empty_take (l : Tx) (k : Nat) (h : k ≤ l.length) : (!(l.take (l.length - k)).isEmpty) = decide (k < l.length) := by
  rw [Bool.eq_iff_iff,Bool.not_eq_true',List.isEmpty_eq_false_iff,ne_eq,List.take_eq_nil_iff,decide_eq_true_eq, ← List.length_eq_zero_iff]
  exact ⟨fun q => Nat.lt_of_le_of_ne h fun e => q (.inl (Nat.sub_eq_zero_of_le (Nat.le_of_eq e.symm))),fun q r => r.elim (fun e => Nat.not_le_of_lt q (Nat.le_of_sub_eq_zero e)) fun e => Nat.not_lt_zero k (e ▸ q)⟩
theorem small_of {a : Int} {k : Nat} (hk : k ≤ 2000) (h : a.natAbs < 2 ^ k) : small a = true := decide_eq_true (Nat.lt_of_lt_of_le h (Nat.pow_le_pow_right (by decide) hk))
theorem mul_is {a b : Int} (h1 : small a = true) (h2 : small b = true) : mulD (.int a) (.int b) = some (.int (a * b)) := by
  rw [mulD_ii]; rw [h1,h2]; rfl
theorem frange1 {m : Nat} (h : m ≤ 10000) : fRange [.int (m : Int)] = some (rangeL 0 (m : Int)) := by
  have h2 : -(2 ^ 31) ≤ (m : Int) ∧ (m : Int) < 2 ^ 31 := ⟨Int.le_trans (by decide) (Int.natCast_nonneg m),Int.lt_of_le_of_lt (Int.ofNat_le.mpr h) (by decide)⟩
  unfold fRange
  dsimp only
  rw [if_pos h2]
theorem ex_next {f g : Sto → Option PF} {σ σ₁ : Sto} {P : Sto → Prop} (h : f σ = some (.next σ₁)) (k : ∃ σ',g σ₁ = some (.next σ') ∧ P σ') : ∃ σ',seqF f g σ = some (.next σ') ∧ P σ' := by
  (refine ob_EA k fun σ' e hp => ?_; try clear k)
  exact ⟨σ',seqF_next h e,hp⟩
theorem ex_idx {bnd : D → Sto → Option Sto} {body K : Sto → Option PF} {f : Sto → Option (List D)} {σ : Sto} {ds : List D} {Q : Sto → Prop} (P : Nat → Sto → Prop) (hf : f σ = some ds) (h0 : P 0 σ)
    (hb : ∀ i d σ,ds[i]? = some d → P i σ → ∃ σ',(bnd d σ).bind body = some (.next σ') ∧ P (i + 1) σ') (fin : ∀ σ',P ds.length σ' → ∃ σ'',K σ' = some (.next σ'') ∧ Q σ'') : ∃ σ'',seqF (fun σ => (f σ).bind fun ds => forF bnd body ds σ) K σ = some (.next σ'') ∧ Q σ'' := by
  refine ob_EA (forF_idx P ds 0 σ (fun i d σ hd hP => by rw [Nat.zero_add] at hP ⊢; exact hb i d σ hd hP) h0) fun σ' e h => ?_
  rw [Nat.zero_add] at h
  refine ex_next (σ₁ := σ') ?_ (fin σ' h)
  show (f σ).bind _ = _
  rw [hf]
  exact e
theorem asg2_ok {i j : Nat} {f : Sto → Option D} {σ : Sto} {d : D} (h : f σ = some d) (hf : d.flat = true) : asg2F i j f σ = some (.next (put (put σ i (some (.fz d))) j (some (.fz d)))) := by
  unfold asg2F; rw [h]; show (if _ then _ else _) = _; rw [if_pos hf]
theorem bif_tf (b : Bool) : (bif b then some true else some false) = some b := by cases b <;> rfl
theorem f7 {a b : Tx} (s : Sim a b) (hm : a.length ≤ 40) : F7 [dS a,dS b,.int (a.length : Int)] = some (.int ((cnt a b : Nat) : Int)) := by
  show retF p7.1 (entry 14 [dS a,dS b,.int (a.length : Int)]) = _
  refine retF_of ?_
  unfold p7
  dsimp only
  generalize hmx : (a.length : Int) = mx
  by_cases hab : a = b
  · subst hab
    refine seqF_ret (ifF_t ?_ (seqF_ret ?_))
    · show some (S a == S a) = _
      rw [beq_self_eq_true]
    · rw [cnt_self]; rfl
  refine seqF_next (ifF_f ?_ rfl) ?_
  · show some (S a == S b) = _
    rw [S_beq,beq_eq_false_iff_ne.mpr hab]
  refine seqF_next (asgS_ok rfl rfl) ?_
  have hl : a.length = b.length := s.len
  have ha : a.length ≤ 1000 := by exact Nat.le_trans (by assumption) (by decide)
  have hb : b.length ≤ 1000 := by exact Nat.le_trans (Internal.leq2 (by assumption)) (by assumption)
  have hq : ∀ k,k < a.length → k < b.length := fun k h => hl ▸ h
  -- the common front
  refine seq_scan (fun k => [some (.fz (dS a)),some (.fz (dS b)),some (.fz (.int mx)),some (.fz (.int (k : Int))),none,none,none,none,none,none,none,none,none,none]) (fun k => if h : k < a.length then a[k] == b[k]'(hq k h) else false) a.length (by show a.length < 2000; exact Nat.lt_of_le_of_lt (by assumption) (by decide)) ?_ ?_ ?_ ?_
  · intro k hk
    refine bind_of (x := true) (bind_of (x := dS (a.drop k)) (sl_drop ha k) ((truth_S (by rw [List.length_drop]; exact Nat.le_trans (Nat.sub_le _ _) (by assumption))).trans (by rw [empty_drop,decide_eq_true hk]))) ?_
    refine bind_of (x := true) (bind_of (x := dS (b.drop k)) (sl_drop hb k) ((truth_S (by rw [List.length_drop]; exact Nat.le_trans (Nat.sub_le _ _) (by assumption))).trans (by rw [empty_drop,decide_eq_true (hq k hk)]))) ?_
    refine bind_of (x := a[k] == b[k]'(hq k hk)) (bind_of (x := dS [a[k]]) (idx_S ha hk) (bind_of (x := dS [b[k]'(hq k hk)]) (idx_S hb (hq k hk)) (eq_one _ _))) ?_
    rw [bif_tf,dif_pos hk]
  · exact bind_of (x := false) (bind_of (x := dS (a.drop a.length)) (sl_drop ha _) ((truth_S (by rw [List.length_drop]; exact Nat.le_trans (Nat.sub_le _ _) (by assumption))).trans (by rw [empty_drop,decide_eq_false (Nat.lt_irrefl _)]))) rfl
  · intro k hk
    exact seqF_next (augS_ok (x := .int (k : Int)) (y := .int 1) (d := .int ((k + 1 : Nat) : Int)) rfl rfl rfl) rfl
  intro p hp hpre
  have hpre' : a.take p = b.take p := take_eq_of hl p hp fun i h hi => by
    have := hpre i hi
    rw [dif_pos h] at this
    exact eq_of_beq this
  refine seqF_next (asgS_ok (d := dS (a.drop p)) (sl_drop ha p) rfl) (seqF_next (asgS_ok (d := dS (b.drop p)) (sl_drop hb p) rfl) (seqF_next (asgS_ok rfl rfl) ?_))
  have s1 := s.drop p
  have c1 : cnt (a.drop p) (b.drop p) = cnt a b := by
    have := cnt_app (a := a.take p) (b := b.take p) (c := a.drop p) (d := b.drop p) (by rw [hpre'])
    rw [List.take_append_drop,List.take_append_drop] at this
    rw [this,hpre',cnt_self,Nat.zero_add]
  have hm1 : (a.drop p).length ≤ a.length := by rw [List.length_drop]; exact Nat.sub_le _ _
  rw [← c1]
  generalize a.drop p = a1 at *
  generalize b.drop p = b1 at *
  clear hpre hpre' c1
  have hl1 : a1.length = b1.length := s1.len
  have ha1 : a1.length ≤ 1000 := by exact Nat.le_trans (by assumption) (by assumption)
  have hb1 : b1.length ≤ 1000 := by exact Nat.le_trans (Internal.leq2 (by assumption)) (by assumption)
  have hq1 : ∀ k,k < a1.length → a1.length - (k + 1) < b1.length := fun k h => Nat.lt_of_lt_of_eq (Nat.sub_lt (Nat.zero_lt_of_lt h) (Nat.succ_pos k)) hl1
  have hneg : ∀ k : Nat,subD (.int (-(k : Int))) (.int 1) = some (.int (-((k + 1 : Nat) : Int))) := fun k => congrArg (fun z => some (D.int z)) (by simp +arith)
  -- the common end
  refine seq_scan (fun k => [some (.fz (dS a1)),some (.fz (dS b1)),some (.fz (.int mx)),some (.fz (.int (p : Int))),some (.fz (.int (-(k : Int)))),none,none,none,none,none,none,none,none,none]) (fun k => if h : k < a1.length then a1[a1.length - (k + 1)]'(by exact Nat.sub_lt (Nat.lt_of_le_of_lt (Nat.zero_le _) (by assumption)) (Nat.succ_pos _)) == b1[a1.length - (k + 1)]'(hq1 k h) else false) a1.length (by show a1.length < 2000; exact Nat.lt_of_le_of_lt (by assumption) (by decide)) ?_ ?_ ?_ ?_
  · intro k hk
    refine bind_of (x := true) (bind_of (x := dS (a1.take (a1.length - k))) (sl_post ha1 (by exact Nat.le_of_lt (by assumption))) ((truth_S (by rw [List.length_take]; exact Nat.le_trans (Nat.min_le_right (a1.length - k) a1.length) ha1)).trans (by rw [empty_take _ _ (Nat.le_of_lt hk),decide_eq_true hk]))) ?_
    refine bind_of (x := true) (bind_of (x := dS (b1.take (b1.length - k))) (sl_post hb1 (Nat.le_of_lt (Nat.lt_of_lt_of_eq hk hl1))) ((truth_S (by rw [List.length_take]; exact Nat.le_trans (Nat.min_le_right (b1.length - k) b1.length) hb1)).trans (by rw [empty_take _ _ (Nat.le_of_lt (Nat.lt_of_lt_of_eq hk hl1)),decide_eq_true (Nat.lt_of_lt_of_eq hk hl1)]))) ?_
    refine bind_of (x := a1[a1.length - (k + 1)]'(Nat.sub_lt (Nat.zero_lt_of_lt hk) (Nat.succ_pos k)) == b1[a1.length - (k + 1)]'(hq1 k hk)) (bind_of (x := dS [a1[a1.length - (k + 1)]'(Nat.sub_lt (Nat.zero_lt_of_lt hk) (Nat.succ_pos k))]) (bind_of (x := dS a1) rfl (bind_of (x := .int (-((k + 1 : Nat) : Int))) (bind_of (x := .int (-(k : Int))) rfl (bind_of (x := .int 1) rfl (hneg k))) (idx_neg ha1 hk))) (bind_of (x := dS [b1[a1.length - (k + 1)]'(hq1 k hk)]) (bind_of (x := dS b1) rfl (bind_of (x := .int (-((k + 1 : Nat) : Int))) (bind_of (x := .int (-(k : Int))) rfl (bind_of (x := .int 1) rfl (hneg k))) ?_)) (eq_one _ _))) ?_
    · rw [idx_neg hb1 (Nat.lt_of_lt_of_eq hk hl1)]
      simp only [hl1]
    · rw [bif_tf,dif_pos hk]
  · refine bind_of (x := false) (bind_of (x := dS (a1.take (a1.length - a1.length))) (sl_post ha1 (Nat.le_refl _)) ((truth_S (by rw [List.length_take]; exact Nat.le_trans (Nat.min_le_right (a1.length - a1.length) a1.length) ha1)).trans (by rw [empty_take _ _ (Nat.le_refl _),decide_eq_false (Nat.lt_irrefl _)]))) rfl
  · intro k hk
    exact seqF_next (augS_ok (x := .int (-(k : Int))) (y := .int 1) (d := .int (-((k + 1 : Nat) : Int))) rfl rfl (hneg k)) rfl
  intro q hqn hpost
  have hpost' : a1.drop (a1.length - q) = b1.drop (a1.length - q) := drop_eq_of hl1 _ (Nat.sub_le a1.length q) fun i h hi => by
    have := hpost (a1.length - (i + 1)) (Nat.sub_lt_left_of_lt_add h (Nat.lt_of_le_of_lt (Nat.le_add_of_sub_le hi) (Nat.add_lt_add_right (Nat.lt_succ_self i) q)))
    rw [dif_pos (Nat.sub_lt (Nat.zero_lt_of_lt h) (Nat.succ_pos i))] at this
    have := eq_of_beq this
    simpa only [show a1.length - (a1.length - (i + 1) + 1) = i from (congrArg (a1.length - ·) (Nat.succ_pred_eq_of_pos (Nat.sub_pos_of_lt h))).trans (Nat.sub_sub_self (Nat.le_of_lt h))] using this
  refine seqF_next (asgS_ok (d := dS (a1.take (a1.length - q))) (sl_post ha1 hqn) rfl) (seqF_next (asgS_ok (d := dS (b1.take (b1.length - q))) (sl_post hb1 (Nat.le_trans hqn (Nat.le_of_eq hl1))) rfl) ?_)
  have s2 := s1.take (a1.length - q)
  have c2 : cnt (a1.take (a1.length - q)) (b1.take (a1.length - q)) = cnt a1 b1 := by
    have := cnt_app (a := a1.take (a1.length - q)) (b := b1.take (a1.length - q)) (c := a1.drop (a1.length - q)) (d := b1.drop (a1.length - q)) (by rw [List.length_take,List.length_take,hl1])
    rw [List.take_append_drop,List.take_append_drop] at this
    rw [this,hpost',cnt_self,Nat.add_zero]
  have hm2 : (a1.take (a1.length - q)).length ≤ a.length := by rw [List.length_take]; exact Nat.le_trans (Nat.min_le_right (a1.length - q) a1.length) hm1
  rw [← c2, ← hl1]
  generalize a1.take (a1.length - q) = a2 at *
  generalize b1.take (a1.length - q) = b2 at *
  clear hpost hpost' c2 s1 hneg hq1
  have hl2 : a2.length = b2.length := s2.len
  have hm3 : a2.length ≤ 40 := Nat.le_trans hm2 hm
  have ha2 : a2.length ≤ 1000 := by exact Nat.le_trans hm2 ha
  have hb2 : b2.length ≤ 1000 := by exact Nat.le_trans (Nat.le_of_eq hl2.symm) ha2
  have hlen : ∀ {l : Tx},l.length ≤ 1000 → ∀ (z : Option D),z = some (dS l) → (z.bind fun d => Option.map (fun x => d :: x) (some [])).bind fLen = some (.int (l.length : Int)) := fun hl z hz => by
    rw [hz]; exact len_S hl
  by_cases he : a2 = []
  · subst he
    have : b2 = [] := List.length_eq_zero_iff.mp hl2.symm
    subst this
    exact seqF_ret (ifF_t rfl (seqF_ret rfl))
  have hpos : 0 < a2.length := List.length_pos_iff.mpr he
  have hpos2 : 0 < b2.length := by exact Nat.lt_of_lt_of_eq hpos hl2
  refine seqF_next (ifF_f ?_ rfl) ?_
  · refine bind_of (x := false) (map_of (x := true) ((truth_S ha2).trans ?_) rfl) (bind_of (x := false) (map_of (x := true) ((truth_S hb2).trans ?_) rfl) rfl)
    · cases a2 with
      | nil => exact absurd rfl he
      | cons => rfl
    · cases b2 with
      | nil => exact absurd hpos2 (by decide)
      | cons => rfl
  refine seqF_next (ifF_f ?_ rfl) ?_
  · refine bind_of (x := false) (bind_of (hlen ha2 _ rfl) ?_) (bind_of (x := false) (bind_of (hlen hb2 _ rfl) ?_) rfl)
    · exact congrArg some (decide_eq_false (Int.not_lt.mpr (Int.ofNat_le.mpr hm3)))
    · exact congrArg some (decide_eq_false (Int.not_lt.mpr (Int.ofNat_le.mpr (Nat.le_trans (Nat.le_of_eq hl2.symm) hm3))))
  refine seqF_next (ifF_f ?_ rfl) ?_
  · refine bind_of (hlen hb2 _ rfl) (bind_of (hlen ha2 _ rfl) ?_)
    exact congrArg some (decide_eq_false (Int.not_lt.mpr (Int.ofNat_le.mpr (Nat.le_of_eq hl2))))
  refine seqF_next (ifF_f ?_ rfl) ?_
  · refine bind_of (x := .int 0) (bind_of (x := .int 0) (bind_of (hlen hb2 _ rfl) (bind_of (hlen ha2 _ rfl) ?_)) (bind_of (x := .int 2) rfl (mul_is (small_of (k := 1) (by decide) (by decide)) (small_of (k := 2) (by decide) (by decide))))) ?_
    · exact congrArg (fun z => some (D.int z)) (Int.sub_eq_zero.mpr (congrArg Int.ofNat hl2.symm))
    · exact congrArg some (decide_eq_false (hmx ▸ Int.not_lt.mpr (Int.natCast_nonneg _)))
  have sm : ∀ n : Nat,n ≤ 41 → small (n : Int) = true := fun n hn => small_of (k := 6) (by decide) (Nat.lt_of_le_of_lt hn (by decide : 41 < 64))
  refine seqF_next (asgO_ok (d := rowM a2 b2 a2.length 0 0) ?_) (seqF_next (asgS_ok rfl rfl) ?_)
  · refine bind_of (x := [.int 2,.int (2 * ((a2.length : Int) + 1)),.int 2]) (bind_of (x := .int 2) rfl (map_of (x := [.int (2 * ((a2.length : Int) + 1)),.int 2]) (bind_of (x := .int (2 * ((a2.length : Int) + 1))) (bind_of (x := .int 2) rfl (bind_of (x := .int ((a2.length : Int) + 1)) (bind_of (hlen ha2 _ rfl) rfl) (mul_is (small_of (k := 2) (by decide) (by decide)) (sm (a2.length + 1) (Nat.lt_succ_of_le hm3))))) rfl) rfl)) (row_zero a2 b2 _ hm3)
  refine seq_idx (ds := rangeL 0 (b2.length : Int)) (fun i σ => ∃ (r : Nat) (c7 c8 c9 c10 c11 c12 c13 : Option Cell),(i = b2.length → r = dN a2 b2 i a2.length) ∧ σ = st7 a2 b2 mx p (-(q : Int)) [some (.ow (rowM a2 b2 a2.length i 0)),some (.fz (.int (r : Int))),c7,c8,c9,c10,c11,c12,c13]) ?_ ⟨0,none,none,none,none,none,none,none,fun h => absurd h (Nat.ne_of_lt hpos2),rfl⟩ ?_ ?_
  · refine bind_of (x := [.int (b2.length : Int)]) (bind_of (x := .int (b2.length : Int)) (hlen hb2 _ ?_) rfl) ?_
    · rfl
    · exact frange1 (m := b2.length) (Nat.le_trans hb2 (by decide))
  · rintro i d σ hd ⟨r,c7,c8,c9,c10,c11,c12,c13, -,rfl⟩
    (refine ob_A (range_at hd) fun hi z1q => ?_; obtain rfl := z1q)
    have hia : i < a2.length := by exact Nat.lt_of_lt_of_eq hi (id (Eq.symm hl2))
    show ∃ σ',seqF _ _ (st7 a2 b2 mx p (-(q : Int)) [some (.ow (rowM a2 b2 a2.length i 0)),some (.fz (.int (r : Int))),some (.fz (.int (i : Int))),c8,c9,c10,c11,c12,c13]) = _ ∧ _
    have hib : i < b2.length := by exact hi
    refine ex_next (asgS_ok (d := dS [b2[i]]) (bind_of (x := dS b2) rfl (bind_of (x := .int (i : Int)) rfl (idx_S hb2 hib))) rfl) ?_
    refine ex_next (asg2_ok (d := .int ((i : Int) * 2)) (bind_of (x := .int (i : Int)) rfl (bind_of (x := .int 2) rfl (mul_is (sm i (Nat.le_trans (Nat.le_of_lt hia) (Nat.le_trans hm3 (by decide)))) (small_of (k := 2) (by decide) (by decide))))) rfl) ?_
    refine ex_next (asgS_ok rfl rfl) ?_
    refine ex_idx (ds := rangeL 0 (a2.length : Int)) (fun j σ => ∃ (r : Nat) (mn : Int) (c11 c12 c13 : Option Cell),(r = if j = 0 then 2 * i else dN a2 b2 (i + 1) j) ∧ (i < j → mn ≤ ((dN a2 b2 (i + 1) (i + 1) : Nat) : Int)) ∧ σ = st7 a2 b2 mx p (-(q : Int)) [some (.ow (rowM a2 b2 a2.length i j)),some (.fz (.int (r : Int))),some (.fz (.int (i : Int))),some (.fz (dS [b2[i]])),some (.fz (.int ((dN a2 b2 i j : Nat) : Int))),some (.fz (.int mn)),c11,c12,c13]) ?_ ?_ ?_ ?_
    · refine bind_of (x := [.int (a2.length : Int)]) (bind_of (x := .int (a2.length : Int)) (hlen ha2 _ ?_) rfl) ?_
      · rfl
      · exact frange1 (m := a2.length) (Nat.le_trans ha2 (by decide))
    · have h0 : dN a2 b2 i 0 = 2 * i := by
        unfold dN
        rw [Nat.min_zero,List.take_zero,List.take_zero,show cnt [] [] = 0 from rfl]
        exact congrArg (fun z => 2 * i + 2 * z) (Nat.zero_sub i)
      refine ⟨2 * i,9223372036854775807,c11,c12,c13,rfl,fun h => absurd h (Nat.not_lt_zero _),?_⟩
      have e : ((2 * i : Nat) : Int) = (i : Int) * 2 := Int.mul_comm 2 i
      rw [h0,e]
      rfl
    · rintro j d σ hd ⟨r,mn,c11,c12,c13,hr,hmn,rfl⟩
      (refine ob_A (range_at hd) fun hj z2q => ?_; obtain rfl := z2q)
      refine ob_EEEAA (f7_turn (mx := mx) (p := p) (q := -(q : Int)) (mn := mn) (c11 := c11) (c12 := c12) (c13 := c13) s2 hm3 hia hj hr rfl) fun mn' c12' c13' e m1 m2 => ?_
      refine ⟨_,e,dN a2 b2 (i + 1) (j + 1),mn',_,c12',c13',?_,fun h => ?_,rfl⟩
      · rw [if_neg (Nat.succ_ne_zero j)]
      · by_cases q : i = j
        · subst q; exact m2
        · exact Int.le_trans m1 (hmn (Nat.lt_of_le_of_ne (Nat.le_of_lt_succ (by assumption)) q))
    · rintro σ ⟨r,mn,c11,c12,c13,hr,hmn,rfl⟩
      rw [range_len] at hr hmn ⊢
      have hcb : cnt (a2.take (i + 1)) (b2.take (i + 1)) ≤ i + 1 := Nat.le_trans (cnt_le _ _) (by rw [List.length_take]; exact Nat.min_le_left (i + 1) a2.length)
      have hmn' : mn ≤ mx := by
        refine Int.le_trans (hmn hia) ?_
        rw [← hmx]
        unfold dN
        rw [Nat.min_self,Nat.sub_self,Nat.mul_zero,Nat.zero_add]
        exact Int.ofNat_le.mpr (Nat.le_trans hcb (Nat.le_trans hia hm2))
      refine ex_next (ifF_f ?_ rfl) ⟨_,rfl,r,some (.fz (.int (i : Int))),some (.fz (dS [b2[i]])),some (.fz (.int ((dN a2 b2 i a2.length : Nat) : Int))),some (.fz (.int mn)),c11,c12,c13,fun hb => ?_,?_⟩
      · show some (decide (mx < mn)) = _
        rw [decide_eq_false (Int.not_lt.mpr hmn')]
      · rw [hr,if_neg (Nat.ne_of_gt hpos)]
      · rw [row_end]
  · rintro σ ⟨r,c7,c8,c9,c10,c11,c12,c13,hr,rfl⟩
    rw [range_len] at hr
    refine seqF_ret ?_
    show some (PF.ret (.int (r : Int))) = _
    rw [hr rfl]
    unfold dN
    rw [← hl2,Nat.min_self,List.take_of_length_le (Nat.le_refl _),List.take_of_length_le (Nat.le_of_eq (id (Eq.symm hl2)))]
    simp
end L
section
set_option exponentiation.threshold 300
namespace L
theorem word_get {ls r : Tx} {i : Nat} (h : i < (wordOf ls r).length) (h' : i < ls.length) : (wordOf ls r)[i] = bif r.contains ls[i] then ls[i] + 32 else ls[i] := by
  have : (wordOf ls r)[i]? = (ls.map fun c => bif r.contains c then c + 32 else c)[i]? := rfl
  rw [List.getElem?_eq_getElem h,List.getElem?_map,List.getElem?_eq_getElem h'] at this
  exact Option.some.inj this
theorem sim_words {ls : Tx} (hn : ls.Nodup) (hc : ∀ c ∈ ls,c ∈ caps) (r q : Tx) : Sim (wordOf ls r) (wordOf ls q) := by
  have lt : ∀ c ∈ ls,c < 91 := fun c h => (by decide : ∀ c ∈ caps,c < 91) c (hc c h)
  have mem : ∀ (r : Tx) (c : Nat),c ∈ wordOf ls r → c ∈ both := fun r c h => by
    (refine ob_EA (List.mem_map.mp h) fun d hd z1q => ?_; obtain rfl := z1q)
    cases r.contains d with
    | true => exact List.mem_append_right _ (List.mem_map_of_mem (hc d hd))
    | false => exact List.mem_append_left _ (hc d hd)
  have get : ∀ (r : Tx) (i : Nat) (h : i < (wordOf ls r).length),low (wordOf ls r)[i] = ls[i]'(by unfold wordOf at h; rw [List.length_map] at h; exact h) + 32 := fun r i h => by
    have h' : i < ls.length := by unfold wordOf at h; rw [List.length_map] at h; exact h
    have := lt ls[i] (List.getElem_mem _)
    rw [word_get h h']
    cases r.contains ls[i] with
    | true => show low (ls[i] + 32) = _; unfold low; have := (by decide : ∀ c ∈ caps,65 ≤ c) _ (hc ls[i] (List.getElem_mem _)); rw [if_neg (by simp [*])]
    | false => show low ls[i] = _; unfold low; rw [if_pos (by exact Nat.le_trans (by assumption) (by decide))]
  refine ⟨by unfold wordOf; rw [List.length_map,List.length_map],mem r,mem q,fun i h h' => ?_,fun i j h h' hne => ?_⟩
  · rw [get,get]
  · rw [get,get]
    intro e
    have e' := Nat.add_right_cancel e
    have inj : ∀ i j (hi : i < ls.length) (hj : j < ls.length),i < j → ls[i] ≠ ls[j] := fun i j hi hj h => (List.pairwise_iff_getElem.mp hn) i j hi hj h
    rcases Nat.lt_or_gt_of_ne hne with h | h
    · exact inj _ _ _ _ h e'
    · exact inj _ _ _ _ h e'.symm
noncomputable def dist (ws : List Tx) (i j : Nat) : Nat := if i = j then 0 else cnt (ws.getD (max i j) []) (ws.getD (min i j) [])
theorem enum_at {ds : List D} {m i : Nat} {d : D} (h : (enumD m ds)[i]? = some d) : ∃ x,ds[i]? = some x ∧ d = .tup [.int ((m + i : Nat) : Int),x] := by
  unfold enumD at h
  rw [List.getElem?_map] at h
  (refine ob_EA (Option.map_eq_some_iff.mp h) fun y hy z2q => ?_; obtain rfl := z2q)
  rw [List.getElem?_zipIdx] at hy
  (refine ob_EA (Option.map_eq_some_iff.mp hy) fun x hx z3q => ?_; obtain rfl := z3q)
  exact ⟨x,hx,rfl⟩
theorem enum_len (ds : List D) (m : Nat) : (enumD m ds).length = ds.length := by unfold enumD; rw [List.length_map,List.length_zipIdx]
theorem enum_map {β : Type} (w : β → D) (bs : List β) (m : Nat) : enumD m (bs.map w) = (bs.zipIdx m).map fun x => .tup [.int x.2,w x.1] := by
  unfold enumD
  rw [List.zipIdx_map,List.map_map]
  rfl
noncomputable def apartD (ws : List Tx) : List D := ws.zipIdx.map fun x => .list ((ws.take x.2).map fun m => .int ((cnt x.1 m : Nat) : Int))
theorem apart_get {ws : List Tx} {i : Nat} (h : i < ws.length) : (apartD ws)[i]? = some (.list ((ws.take i).map fun m => .int ((cnt ws[i] m : Nat) : Int))) := by
  unfold apartD
  rw [List.getElem?_map,List.getElem?_zipIdx,List.getElem?_eq_getElem h]
  show some (D.list ((ws.take (0 + i)).map _)) = _
  rw [Nat.zero_add]
theorem f74_apart {ws : List Tx} (hn : ws.length ≤ 100) (hS : ∀ u ∈ ws,∀ v ∈ ws,Sim u v) (hl : ∀ u ∈ ws,u.length ≤ 40) {σ : Sto} (hσ : σ.get 3 = some (.list (ws.map dS))) :
    compF 2 [3] (fun σ => ((σ.get 3).bind fun d => Option.map (fun x => d :: x) (some [])).bind fEnum) (bndTup 0 1) (fun _ => some true) (fun σ => Option.map D.list (compF 1 [1] (fun σ => ((σ.get 2).bind fun x => (some none).bind fun a => ((σ.get 0).bind partD).bind fun b => sliceD x a b).bind seqD) (bndName 0) (fun _ => some true)
      (fun σ => ((σ.get 1).bind fun d => Option.map (fun x => d :: x) ((σ.get 0).bind fun d => Option.map (fun x => d :: x) ((((σ.get 1).bind fun d => Option.map (fun x => d :: x) (some [])).bind fLen).bind fun d => Option.map (fun x => d :: x) (some [])))).bind F7) σ)) σ
    = some (apartD ws) := by
  refine (compF_ok (σ₀ := [none,none,some (.fz (.list (ws.map dS)))]) (bs := ws.zipIdx) (w := fun x => .tup [.int x.2,dS x.1]) (o := fun x => some (.list ((ws.take x.2).map fun m => .int ((cnt x.1 m : Nat) : Int)))) ?_ (by rw [List.length_zipIdx]; exact Nat.le_trans (by assumption) (by decide)) ?_ fun x hx => ?_).trans ?_
  · refine bind_of (x := [.list (ws.map dS)]) (bind_of hσ rfl) ?_
    show some (enumD 0 (ws.map dS)) = _
    rw [enum_map]
  · unfold cpStore
    have : [3].mapM σ.get = some [.list (ws.map dS)] := by
      rw [List.mapM_cons,hσ]; rfl
    rw [this]; rfl
  · obtain ⟨u,i⟩ := x
    have hi := List.mem_zipIdx hx
    have hu : u ∈ ws := by rw [hi.2.2]; exact List.getElem_mem _
    have hlu := hl u hu
    show Option.map some _ = _
    refine congrArg (Option.map some) (a₂ := some (D.list ((ws.take i).map fun m => .int ((cnt u m : Nat) : Int)))) ?_
    show Option.map D.list (compF 1 [1] _ _ _ _ [some (.fz (.int (i : Int))),some (.fz (dS u)),some (.fz (.list (ws.map dS)))]) = _
    rw [compF_ok (σ₀ := [none,some (.fz (dS u))]) (bs := ws.take i) (w := dS) (o := fun m => some (.int ((cnt u m : Nat) : Int))) ?_ (by rw [List.length_take]; exact Nat.le_trans (Nat.min_le_right _ _) (Nat.le_trans (by assumption) (by decide))) rfl fun m hm => ?_]
    · exact congrArg (fun l => some (D.list l)) (congrFun List.filterMap_eq_map' _)
    · refine bind_of (x := .list ((ws.take i).map dS)) (bind_of (x := .list (ws.map dS)) rfl (bind_of (x := none) rfl (bind_of (x := some (i : Int)) rfl ?_))) rfl
      show (if _ then _ else _) = _
      rw [List.length_map,if_pos (sz (by exact Nat.le_trans (by assumption) (by decide))),pick_take,List.map_take]
    · have hm' : m ∈ ws := List.mem_of_mem_take hm
      show Option.map some _ = _
      refine congrArg (Option.map some) (a₂ := some (D.int ((cnt u m : Nat) : Int))) ?_
      refine bind_of (x := [dS u,dS m,.int (u.length : Int)]) (bind_of (x := dS u) rfl (map_of (x := [dS m,.int (u.length : Int)]) (bind_of (x := dS m) rfl (map_of (x := [.int (u.length : Int)]) (bind_of (x := .int (u.length : Int)) (bind_of (x := [dS u]) rfl (len_S (by exact Nat.le_trans (by assumption) (by decide)))) rfl) rfl)) rfl)) (f7 (hS u hu m hm') hlu)
  · exact congrArg some (congrFun List.filterMap_eq_map' _)
end L
end
section
set_option exponentiation.threshold 300
namespace L
theorem fmax (a b : Nat) : fMax [.int (a : Int),.int (b : Int)] = some (.int ((max a b : Nat) : Int)) := by
  show some (D.int (if (b : Int) > a then (b : Int) else a)) = _
  congr 2
  split <;> lia
theorem pow_is {a : Int} {k : Nat} (hk : k ≤ 20) (h : small a = true) : powD (.int a) (.int (k : Int)) = some (.int (a ^ k)) := by
  have h2 : (0 : Int) ≤ (k : Int) ∧ (k : Int) ≤ 60000 ∧ small a = true := ⟨Int.natCast_nonneg k,Int.le_trans (Int.ofNat_le.mpr hk) (by decide),h⟩
  rw [powD_ii]
  rw [if_pos h2,Int.toNat_natCast]
theorem small_pow {a : Int} {k : Nat} (hk : k ≤ 20) (h : a.natAbs ≤ 8) : small (a ^ k) = true := by
  refine small_of (k := 61) (by decide) ?_
  rw [Int.natAbs_pow]
  refine Nat.lt_of_le_of_lt (Nat.pow_le_pow_left h k) (Nat.lt_of_le_of_lt (Nat.pow_le_pow_right (by decide) hk) (by decide))
theorem div2 (e : Nat) : divD (.int ((2 * e : Nat) : Int)) (.int 2) = some (.int (e : Int)) := by
  have h2 : (2 : Int) ≠ 0 ∧ small 2 = true := ⟨by decide,small_of (k := 2) (by decide) (by decide)⟩
  rw [divD_ii]
  rw [if_pos h2,Int.fdiv_eq_ediv_of_nonneg _ (by decide)]
  exact congrArg (fun z => some (D.int z)) (by simp)
theorem mod2 (e : Nat) : (modD (.int ((2 * e : Nat) : Int)) (.int 2)).bind truthD = some false := by
  rw [modD_ii]
  rw [if_pos (by decide : (2 : Int) ≠ 0),Int.fmod_eq_emod_of_nonneg _ (by decide),show (((2 * e : Nat) : Int) % 2) = 0 by simp]
  rfl
structure Lead (roads ws : List Tx) (E : Nat → Nat → Nat × Nat) : Prop where
  dst : ∀ i j,i < roads.length → j < roads.length → dist ws i j = (E i j).1 + (E i j).2
  ld : ∀ i j (hi : i < roads.length) (hj : j < roads.length),dist ws i j + roads[i].length = roads[j].length + 2 * (E i j).1
  le : ∀ i j,i < roads.length → j < roads.length → (E i j).1 ≤ 20 ∧ (E i j).2 ≤ 20
noncomputable def ent (up down : Int) (e : Nat × Nat) : Int := up ^ e.1 * down ^ e.2
noncomputable def rowE (up down : Int) (E : Nat → Nat → Nat × Nat) (i n : Nat) : List D := (List.range n).map fun j => .int (ent up down (E i j))
theorem rowE_succ (up down : Int) (E : Nat → Nat → Nat × Nat) (i n : Nat) : rowE up down E i (n + 1) = rowE up down E i n ++ [.int (ent up down (E i n))] := by
  unfold rowE
  rw [List.range_succ,List.map_append]; rfl
noncomputable def tabE (up down : Int) (E : Nat → Nat → Nat × Nat) (n m : Nat) : List D := (List.range m).map fun i => .list (rowE up down E i n)
theorem tabE_succ (up down : Int) (E : Nat → Nat → Nat × Nat) (n m : Nat) : tabE up down E n (m + 1) = tabE up down E n m ++ [.list (rowE up down E m n)] := by
  unfold tabE
  rw [List.range_succ,List.map_append]; rfl
theorem f74_dist {roads ws : List Tx} {E : Nat → Nat → Nat × Nat} (hw : ws.length = roads.length) (hn : roads.length ≤ 100) (L : Lead roads ws E) {i j : Nat} (hi : i < roads.length) (hj : j < roads.length) {σ : Sto} (h6 : σ.get 6 = some (.int (i : Int))) (h9 : σ.get 9 = some (.int (j : Int))) (h5 : σ.get 5 = some (.list (apartD ws))) :
    (((σ.get 6).bind fun x => (σ.get 9).bind fun y => (eqD x y).bind truthD).bind fun c => bif c then some (D.int 0) else
      ((σ.get 5).bind fun x => (((σ.get 6).bind fun d => Option.map (fun x => d :: x) ((σ.get 9).bind fun d => Option.map (fun x => d :: x) (some []))).bind fMax).bind fun y => idxD x y).bind fun x => (((σ.get 6).bind fun d => Option.map (fun x => d :: x) ((σ.get 9).bind fun d => Option.map (fun x => d :: x) (some []))).bind fMin).bind fun y => idxD x y)
    = some (.int ((dist ws i j : Nat) : Int)) := by
  have e : ((σ.get 6).bind fun x => (σ.get 9).bind fun y => (eqD x y).bind truthD) = some (decide (i = j)) := by
    refine bind_of h6 (bind_of h9 ?_)
    show some ((i : Int) == (j : Int)) = _
    congr 1
    by_cases q : i = j
    · subst q; simp
    · rw [decide_eq_false q,beq_eq_false_iff_ne]; exact fun e => q (Int.ofNat.inj e)
  have args : ((σ.get 6).bind fun d => Option.map (fun x => d :: x) ((σ.get 9).bind fun d => Option.map (fun x => d :: x) (some []))) = some [.int (i : Int),.int (j : Int)] := bind_of h6 (map_of (bind_of h9 rfl) rfl)
  unfold dist
  by_cases q : i = j
  · rw [if_pos q]
    exact bind_of (x := true) (e.trans (by rw [decide_eq_true q])) rfl
  · rw [if_neg q]
    have hM : max i j < ws.length := Nat.lt_of_lt_of_eq (Nat.max_lt.mpr ⟨by assumption,by assumption⟩) (Eq.symm (by assumption : ws.length = roads.length))
    have hm : min i j < max i j := (Nat.lt_or_gt_of_ne q).elim (fun q => by rw [Nat.min_eq_left (Nat.le_of_lt q),Nat.max_eq_right (Nat.le_of_lt q)]; exact q) (fun q => by rw [Nat.min_eq_right (Nat.le_of_lt q),Nat.max_eq_left (Nat.le_of_lt q)]; exact q)
    refine bind_of (x := false) (e.trans (by rw [decide_eq_false q])) ?_
    rw [cond_false]
    refine bind_of (x := .list ((ws.take (max i j)).map fun m => .int ((cnt ws[max i j] m : Nat) : Int))) (bind_of h5 ?_) ?_
    · refine bind_of (x := .int ((max i j : Nat) : Int)) (bind_of args (fmax i j)) ?_
      rw [idx_list (k := max i j) (by lia),apart_get hM]
    refine bind_of (x := .int ((min i j : Nat) : Int)) (bind_of args (fmin i j)) ?_
    rw [idx_list (k := min i j) (by lia)]
    rw [List.getElem?_map,List.getElem?_take_of_lt hm,List.getElem?_eq_getElem (by lia),List.getD_eq_getElem?_getD,List.getD_eq_getElem?_getD,List.getElem?_eq_getElem hM,List.getElem?_eq_getElem (by lia)]
    rfl
theorem f74_turn {roads ws : List Tx} {E : Nat → Nat → Nat × Nat} {up down : Int} (hu : up.natAbs ≤ 8) (hd : down.natAbs ≤ 8) (hw : ws.length = roads.length) (hn : roads.length ≤ 100) (hr : ∀ r ∈ roads,r.length ≤ 100) (L : Lead roads ws E) {i j : Nat} (hi : i < roads.length) (hj : j < roads.length) {c11 c12 : Option Cell} {rd wd : D} {rows : List D} {ret : Sto → Option PF} {body : Sto → Option PF}
    (hb : body = seqF (asgS 11 fun σ => (((σ.get 6).bind fun x => (σ.get 9).bind fun y => (eqD x y).bind truthD).bind fun c => bif c then some (D.int 0) else
      ((σ.get 5).bind fun x => (((σ.get 6).bind fun d => Option.map (fun x => d :: x) ((σ.get 9).bind fun d => Option.map (fun x => d :: x) (some []))).bind fMax).bind fun y => idxD x y).bind fun x => (((σ.get 6).bind fun d => Option.map (fun x => d :: x) ((σ.get 9).bind fun d => Option.map (fun x => d :: x) (some []))).bind fMin).bind fun y => idxD x y))
      (seqF (asgS 12 fun σ => ((σ.get 11).bind fun x => (((σ.get 7).bind fun d => Option.map (fun x => d :: x) (some [])).bind fLen).bind fun y => addD x y).bind fun x => (((σ.get 10).bind fun d => Option.map (fun x => d :: x) (some [])).bind fLen).bind fun y => subD x y)
      (seqF (ifF (fun σ => (((σ.get 12).bind fun x => (some (D.int 2)).bind fun y => modD x y).bind truthD).bind fun b => bif b then some true else ((σ.get 12).bind fun x => (some (D.int 0)).bind fun y => (ltD x y).bind truthD).bind fun b => bif b then some true else ((σ.get 12).bind fun x => ((some (D.int 2)).bind fun x => (σ.get 11).bind fun y => mulD x y).bind fun y => (gtD x y).bind truthD).bind fun b => bif b then some true else some false) ret fun σ => some (PF.next σ))
      (seqF (appS 8 fun σ => ((σ.get 1).bind fun x => ((σ.get 12).bind fun x => (some (D.int 2)).bind fun y => divD x y).bind fun y => powD x y).bind fun x => ((σ.get 2).bind fun x => ((σ.get 11).bind fun x => ((σ.get 12).bind fun x => (some (D.int 2)).bind fun y => divD x y).bind fun y => subD x y).bind fun y => powD x y).bind fun y => mulD x y) fun σ => some (PF.next σ)))))
    : body [some (.fz rd),some (.fz (.int up)),some (.fz (.int down)),some (.fz wd),some (.ow rows),some (.ow (apartD ws)),some (.fz (.int (i : Int))),some (.fz (dS roads[i])),some (.ow (rowE up down E i j)),some (.fz (.int (j : Int))),some (.fz (dS roads[j])),c11,c12]
      = some (.next [some (.fz rd),some (.fz (.int up)),some (.fz (.int down)),some (.fz wd),some (.ow rows),some (.ow (apartD ws)),some (.fz (.int (i : Int))),some (.fz (dS roads[i])),some (.ow (rowE up down E i (j + 1))),some (.fz (.int (j : Int))),some (.fz (dS roads[j])),some (.fz (.int ((dist ws i j : Nat) : Int))),some (.fz (.int ((2 * (E i j).1 : Nat) : Int)))]) := by
  subst hb
  have l1 := L.dst i j hi hj
  have l2 := L.ld i j hi hj
  refine ob_A (L.le i j hi hj) fun l3 l4 => ?_
  have r1 := hr _ (List.getElem_mem hi)
  have r2 := hr _ (List.getElem_mem hj)
  rw [rowE_succ]
  refine seqF_next (asgS_ok (f74_dist hw hn L hi hj rfl rfl rfl) rfl) ?_
  refine seqF_next (asgS_ok (d := .int ((2 * (E i j).1 : Nat) : Int)) ?_ rfl) ?_
  · refine bind_of (x := .int (((dist ws i j : Nat) : Int) + (roads[i].length : Int))) (bind_of (x := .int ((dist ws i j : Nat) : Int)) rfl (bind_of (x := .int (roads[i].length : Int)) (bind_of (x := [dS roads[i]]) rfl (len_S (by exact Nat.le_trans (by assumption) (by decide)))) rfl)) ?_
    refine bind_of (x := .int (roads[j].length : Int)) (bind_of (x := [dS roads[j]]) rfl (len_S (by exact Nat.le_trans (by assumption) (by decide)))) ?_
    show some (D.int ((((dist ws i j : Nat) : Int) + (roads[i].length : Int)) - (roads[j].length : Int))) = _
    exact congrArg (fun z => some (D.int z)) ((congrArg (fun z : Nat => (z : Int) - (roads[j].length : Int)) (l2.trans (Nat.add_comm _ _))).trans (Int.add_sub_cancel ((2 * (E i j).1 : Nat) : Int) (roads[j].length : Int)))
  have s2 : small 2 = true := small_of (k := 2) (by decide) (by decide)
  have sd : small ((dist ws i j : Nat) : Int) = true := small_of (k := 8) (by decide) (by show dist ws i j < 256; lia)
  refine seqF_next (ifF_f ?_ rfl) ?_
  · refine bind_of (x := false) ((Option.bind_assoc ..).trans (bind_of (x := .int ((2 * (E i j).1 : Nat) : Int)) rfl ((Option.bind_assoc ..).trans (bind_of (x := .int 2) rfl (mod2 _))))) ?_
    rw [cond_false]
    refine bind_of (x := false) (bind_of (x := .int ((2 * (E i j).1 : Nat) : Int)) rfl (bind_of (x := .int 0) rfl ?_)) ?_
    · show some (decide (((2 * (E i j).1 : Nat) : Int) < 0)) = _
      rw [decide_eq_false (by exact Int.not_lt.mpr (Int.natCast_nonneg _))]
    rw [cond_false]
    refine bind_of (x := false) (bind_of (x := .int ((2 * (E i j).1 : Nat) : Int)) rfl (bind_of (x := .int (2 * ((dist ws i j : Nat) : Int))) (bind_of (x := .int 2) rfl (bind_of (x := .int ((dist ws i j : Nat) : Int)) rfl (mul_is s2 sd))) ?_)) rfl
    show some (decide (2 * ((dist ws i j : Nat) : Int) < ((2 * (E i j).1 : Nat) : Int))) = _
    rw [decide_eq_false (by simp +arith [*])]
  have su : small up = true := small_of (k := 4) (by decide) (by exact Nat.lt_of_le_of_lt (by assumption) (by decide))
  have sdn : small down = true := small_of (k := 4) (by decide) (by exact Nat.lt_of_le_of_lt (by assumption) (by decide))
  refine seqF_next (appS_ok (ds := rowE up down E i j) (d := .int (ent up down (E i j))) rfl ?_ rfl ?_) rfl
  · refine bind_of (x := .int (up ^ (E i j).1)) (bind_of (x := .int up) rfl (bind_of (x := .int ((E i j).1 : Int)) (bind_of (x := .int ((2 * (E i j).1 : Nat) : Int)) rfl (bind_of (x := .int 2) rfl (div2 _))) (pow_is l3 su))) ?_
    refine bind_of (x := .int (down ^ (E i j).2)) (bind_of (x := .int down) rfl (bind_of (x := .int ((E i j).2 : Int)) (bind_of (x := .int ((dist ws i j : Nat) : Int)) rfl (bind_of (x := .int ((E i j).1 : Int)) (bind_of (x := .int ((2 * (E i j).1 : Nat) : Int)) rfl (bind_of (x := .int 2) rfl (div2 _))) ?_)) (pow_is l4 sdn))) ?_
    · show some (D.int (((dist ws i j : Nat) : Int) - ((E i j).1 : Int))) = _
      exact congrArg (fun z => some (D.int z)) (by simp +arith [*])
    · exact mul_is (small_pow l3 hu) (small_pow l4 hd)
  · unfold rowE; rw [List.length_map,List.length_range]; lia
end L
end
section
set_option exponentiation.threshold 300
namespace L
theorem ex_bind {o : Option Sto} {σ₁ : Sto} {body : Sto → Option PF} {P : Sto → Prop} (h : o = some σ₁) (k : ∃ σ',body σ₁ = some (.next σ') ∧ P σ') : ∃ σ',o.bind body = some (.next σ') ∧ P σ' := by subst h; exact k
theorem f74 {roads ws : List Tx} {E : Nat → Nat → Nat × Nat} {up down : Int} (hu : up.natAbs ≤ 8) (hd : down.natAbs ≤ 8) (hws : ws = roads.map (wordOf (roads.foldl lets []))) (hn : roads.length ≤ 100) (hr : ∀ r ∈ roads,r.length ≤ 100 ∧ ∀ c ∈ r,c ∈ caps) (hl : (roads.foldl lets []).length ≤ 40) (hnd : (roads.foldl lets []).Nodup) (hcap : ∀ c ∈ roads.foldl lets [],c ∈ caps) (L : Lead roads ws E) :
    F74 [.list (roads.map dS),.int up,.int down] = some (.list (tabE up down E roads.length roads.length)) := by
  show retF p74.1 (entry 13 [.list (roads.map dS),.int up,.int down]) = _
  refine retF_of ?_
  unfold p74
  dsimp only
  have hw : ws.length = roads.length := by rw [hws,List.length_map]
  have hS : ∀ u ∈ ws,∀ v ∈ ws,Sim u v := fun u hu v hv => by
    rw [hws] at hu hv
    (refine ob_EA (List.mem_map.mp hu) fun r _ z1q => ?_; obtain rfl := z1q)
    (refine ob_EA (List.mem_map.mp hv) fun q _ z2q => ?_; obtain rfl := z2q)
    exact sim_words hnd hcap r q
  have hl40 : ∀ u ∈ ws,u.length ≤ 40 := fun u hu => by
    rw [hws] at hu
    (refine ob_EA (List.mem_map.mp hu) fun r _ z3q => ?_; obtain rfl := z3q)
    unfold wordOf
    rw [List.length_map]
    exact hl
  have e73 : F73 [.list (roads.map dS)] = some (.list (ws.map dS)) := by rw [f73 roads hn hr (by exact Nat.le_trans (by assumption) (by decide)),hws]
  refine seqF_next (σ' := [some (.fz (.list (roads.map dS))),some (.fz (.int up)),some (.fz (.int down)),some (.fz (.list (ws.map dS))),some (.ow []),none,none,none,none,none,none,none,none]) ?_ ?_
  · refine bind_of (x := [.fz (.list (ws.map dS)),.ow []]) ?_ rfl
    exact bind_of (x := .list (ws.map dS)) (bind_of (x := [.list (roads.map dS)]) rfl e73) rfl
  refine seqF_next (asgO_ok (f74_apart (by exact Nat.le_trans (Nat.le_of_eq (by assumption)) (by assumption)) hS hl40 rfl)) ?_
  have en : ∀ {z : Option D},z = some (.list (roads.map dS)) → ((z.bind fun d => Option.map (fun x => d :: x) (some [])).bind fEnum) = some (enumD 0 (roads.map dS)) := fun hz => bind_of (bind_of hz rfl) rfl
  refine seq_idx (ds := enumD 0 (roads.map dS)) (fun i σ => ∃ c6 c7 c8 c9 c10 c11 c12 : Option Cell,σ = [some (.fz (.list (roads.map dS))),some (.fz (.int up)),some (.fz (.int down)),some (.fz (.list (ws.map dS))),some (.ow (tabE up down E roads.length i)),some (.ow (apartD ws)),c6,c7,c8,c9,c10,c11,c12]) (en (z := Sto.get (fzs _) 0) rfl) ⟨_,_,_,_,_,_,_,rfl⟩ ?_ ?_
  · rintro i d σ hd' ⟨c6,c7,c8,c9,c10,c11,c12,rfl⟩
    (refine ob_EA (enum_at hd') fun x hx z4q => ?_; obtain rfl := z4q)
    rw [List.getElem?_map] at hx
    (refine ob_EA (Option.map_eq_some_iff.mp hx) fun r hr' z5q => ?_; obtain rfl := z5q)
    (refine ob_E (List.getElem?_eq_some_iff.mp hr') fun hi z6q => ?_; obtain rfl := z6q)
    rw [Nat.zero_add]
    refine ex_bind (σ₁ := [some (.fz (.list (roads.map dS))),some (.fz (.int up)),some (.fz (.int down)),some (.fz (.list (ws.map dS))),some (.ow (tabE up down E roads.length i)),some (.ow (apartD ws)),some (.fz (.int (i : Int))),some (.fz (dS roads[i])),c8,c9,c10,c11,c12]) rfl ?_
    refine ex_next (asgO_ok (d := []) rfl) ?_
    refine ex_idx (ds := enumD 0 (roads.map dS)) (fun j σ => ∃ c9 c10 c11 c12 : Option Cell,σ = [some (.fz (.list (roads.map dS))),some (.fz (.int up)),some (.fz (.int down)),some (.fz (.list (ws.map dS))),some (.ow (tabE up down E roads.length i)),some (.ow (apartD ws)),some (.fz (.int (i : Int))),some (.fz (dS roads[i])),some (.ow (rowE up down E i j)),c9,c10,c11,c12]) (en (z := Sto.get (fzs _) 0) rfl) ⟨_,_,_,_,rfl⟩ ?_ ?_
    · rintro j d σ hd' ⟨c9,c10,c11,c12,rfl⟩
      (refine ob_EA (enum_at hd') fun x hx z7q => ?_; obtain rfl := z7q)
      rw [List.getElem?_map] at hx
      (refine ob_EA (Option.map_eq_some_iff.mp hx) fun r hr' z8q => ?_; obtain rfl := z8q)
      (refine ob_E (List.getElem?_eq_some_iff.mp hr') fun hj z9q => ?_; obtain rfl := z9q)
      rw [Nat.zero_add]
      exact ⟨_,f74_turn hu hd hw hn (fun r h => (hr r h).1) L hi hj rfl,_,_,_,_,rfl⟩
    · rintro σ ⟨c9,c10,c11,c12,rfl⟩
      rw [enum_len,List.length_map]
      refine ex_next (σ₁ := [some (.fz (.list (roads.map dS))),some (.fz (.int up)),some (.fz (.int down)),some (.fz (.list (ws.map dS))),some (.ow (tabE up down E roads.length (i + 1))),some (.ow (apartD ws)),some (.fz (.int (i : Int))),some (.fz (dS roads[i])),some (.fz (.list (rowE up down E i roads.length))),c9,c10,c11,c12]) ?_ ⟨_,rfl,_,_,_,_,_,_,_,rfl⟩
      refine bind_of (x := [some (.fz (.list (roads.map dS))),some (.fz (.int up)),some (.fz (.int down)),some (.fz (.list (ws.map dS))),some (.ow (tabE up down E roads.length i)),some (.ow (apartD ws)),some (.fz (.int (i : Int))),some (.fz (dS roads[i])),some (.fz (.list (rowE up down E i roads.length))),c9,c10,c11,c12]) rfl ?_
      rw [tabE_succ]
      exact appF_ok (d := .list (rowE up down E i roads.length)) rfl rfl (by unfold tabE; rw [List.length_map,List.length_range]; lia)
  · rintro σ ⟨c6,c7,c8,c9,c10,c11,c12,rfl⟩
    rw [enum_len,List.length_map]
    exact seqF_ret rfl
end L
end
namespace L
structure V where
  x0 : Int
  x1 : Int
  x2 : Int
  x3 : Int
  x4 : Int
noncomputable def d3 (a0 a1 a2 b0 b1 b2 c0 c1 c2 : Int) : Int := a0 * (b1 * c2 - b2 * c1) - a1 * (b0 * c2 - b2 * c0) + a2 * (b0 * c1 - b1 * c0)
noncomputable def M2 (a r : V) (k : V → Int) : Int := a.x0 * k r - r.x0 * k a
noncomputable def M3 (a b r : V) (k : V → Int) : Int := d3 a.x0 a.x1 (k a) b.x0 b.x1 (k b) r.x0 r.x1 (k r)
noncomputable def M4 (a b c r : V) (k : V → Int) : Int := k r * d3 a.x0 a.x1 a.x2 b.x0 b.x1 b.x2 c.x0 c.x1 c.x2 - r.x0 * d3 (k a) a.x1 a.x2 (k b) b.x1 b.x2 (k c) c.x1 c.x2 - r.x1 * d3 a.x0 (k a) a.x2 b.x0 (k b) b.x2 c.x0 (k c) c.x2 - r.x2 * d3 a.x0 a.x1 (k a) b.x0 b.x1 (k b) c.x0 c.x1 (k c)
noncomputable def M5 (a b c d r : V) : Int :=
  d3 a.x0 a.x1 a.x2 b.x0 b.x1 b.x2 c.x0 c.x1 c.x2 * (d.x3 * r.x4 - r.x3 * d.x4)
  - d3 a.x3 a.x1 a.x2 b.x3 b.x1 b.x2 c.x3 c.x1 c.x2 * (d.x0 * r.x4 - r.x0 * d.x4) - d3 a.x0 a.x3 a.x2 b.x0 b.x3 b.x2 c.x0 c.x3 c.x2 * (d.x1 * r.x4 - r.x1 * d.x4) - d3 a.x0 a.x1 a.x3 b.x0 b.x1 b.x3 c.x0 c.x1 c.x3 * (d.x2 * r.x4 - r.x2 * d.x4)
  - d3 a.x4 a.x1 a.x2 b.x4 b.x1 b.x2 c.x4 c.x1 c.x2 * (d.x3 * r.x0 - r.x3 * d.x0) - d3 a.x0 a.x4 a.x2 b.x0 b.x4 b.x2 c.x0 c.x4 c.x2 * (d.x3 * r.x1 - r.x3 * d.x1) - d3 a.x0 a.x1 a.x4 b.x0 b.x1 b.x4 c.x0 c.x1 c.x4 * (d.x3 * r.x2 - r.x3 * d.x2)
  + d3 a.x3 a.x4 a.x2 b.x3 b.x4 b.x2 c.x3 c.x4 c.x2 * (d.x0 * r.x1 - r.x0 * d.x1) + d3 a.x3 a.x1 a.x4 b.x3 b.x1 b.x4 c.x3 c.x1 c.x4 * (d.x0 * r.x2 - r.x0 * d.x2) + d3 a.x0 a.x3 a.x4 b.x0 b.x3 b.x4 c.x0 c.x3 c.x4 * (d.x1 * r.x2 - r.x1 * d.x2)
theorem S2 (a b r : V) (k : V → Int) : M2 a b V.x1 * M2 a r k - M2 a r V.x1 * M2 a b k = a.x0 * M3 a b r k := by
  unfold M2 M3 d3; grind
theorem S3 (a b c r : V) (k : V → Int) : M3 a b c V.x2 * M3 a b r k - M3 a b r V.x2 * M3 a b c k = M2 a b V.x1 * M4 a b c r k := by
  unfold M2 M3 M4 d3; grind
theorem CR (a0 a1 a2 b0 b1 b2 c0 c1 c2 a3 b3 c3 a4 b4 c4 : Int) :
  d3 a3 a1 a2 b3 b1 b2 c3 c1 c2 * d3 a0 a4 a2 b0 b4 b2 c0 c4 c2 - d3 a4 a1 a2 b4 b1 b2 c4 c1 c2 * d3 a0 a3 a2 b0 b3 b2 c0 c3 c2
   = d3 a0 a1 a2 b0 b1 b2 c0 c1 c2 * d3 a3 a4 a2 b3 b4 b2 c3 c4 c2 := by unfold d3; grind
theorem CR' (a0 a1 a2 b0 b1 b2 c0 c1 c2 a3 b3 c3 a4 b4 c4 : Int) :
  d3 a3 a1 a2 b3 b1 b2 c3 c1 c2 * d3 a0 a1 a4 b0 b1 b4 c0 c1 c4 - d3 a4 a1 a2 b4 b1 b2 c4 c1 c2 * d3 a0 a1 a3 b0 b1 b3 c0 c1 c3
   = d3 a0 a1 a2 b0 b1 b2 c0 c1 c2 * d3 a3 a1 a4 b3 b1 b4 c3 c1 c4 := by unfold d3; grind
theorem CR'' (a0 a1 a2 b0 b1 b2 c0 c1 c2 a3 b3 c3 a4 b4 c4 : Int) :
  d3 a0 a3 a2 b0 b3 b2 c0 c3 c2 * d3 a0 a1 a4 b0 b1 b4 c0 c1 c4 - d3 a0 a4 a2 b0 b4 b2 c0 c4 c2 * d3 a0 a1 a3 b0 b1 b3 c0 c1 c3
   = d3 a0 a1 a2 b0 b1 b2 c0 c1 c2 * d3 a0 a3 a4 b0 b3 b4 c0 c3 c4 := by unfold d3; grind
theorem S4_at (D e0 e1 e2 f0 f1 f2 g01 g02 g12 d0 d1 d2 d3 d4 r0 r1 r2 r3 r4 : Int) (h1 : e0 * f1 - f0 * e1 = D * g01) (h2 : e0 * f2 - f0 * e2 = D * g02) (h3 : e1 * f2 - f1 * e2 = D * g12) :
  (d3 * D - d0 * e0 - d1 * e1 - d2 * e2) * (r4 * D - r0 * f0 - r1 * f1 - r2 * f2) - (r3 * D - r0 * e0 - r1 * e1 - r2 * e2) * (d4 * D - d0 * f0 - d1 * f1 - d2 * f2)
  = D * (D * (d3 * r4 - r3 * d4) - e0 * (d0 * r4 - r0 * d4) - e1 * (d1 * r4 - r1 * d4) - e2 * (d2 * r4 - r2 * d4) - f0 * (d3 * r0 - r3 * d0) - f1 * (d3 * r1 - r3 * d1) - f2 * (d3 * r2 - r3 * d2) + g01 * (d0 * r1 - r0 * d1) + g02 * (d0 * r2 - r0 * d2) + g12 * (d1 * r2 - r1 * d2)) := by
  grind
theorem S4 (a b c d r : V) : M4 a b c d V.x3 * M4 a b c r V.x4 - M4 a b c r V.x3 * M4 a b c d V.x4 = M3 a b c V.x2 * M5 a b c d r := by
  unfold M4 M3 M5
  exact S4_at _ _ _ _ _ _ _ _ _ _ _ _ _ _ _ _ _ _ _ _ (CR ..) (CR' ..) (CR'' ..)
theorem sw0 (a b c d r : V) : M5 b a c d r = - M5 a b c d r := by unfold M5 d3; grind
theorem sw1 (a b c d r : V) : M5 a c b d r = - M5 a b c d r := by unfold M5 d3; grind
theorem sw2 (a b c d r : V) : M5 a b d c r = - M5 a b c d r := by unfold M5 d3; grind
theorem sw3 (a b c d r : V) : M5 a b c r d = - M5 a b c d r := by unfold M5 d3; grind
noncomputable def V.c1 (v : V) (z : Int) : V := { v with x1 := z }
noncomputable def V.c2 (v : V) (z : Int) : V := { v with x2 := z }
theorem Z0 {a b c d e : V} (ha : a.x0 = 0) (hb : b.x0 = 0) (hc : c.x0 = 0) (hd : d.x0 = 0) (he : e.x0 = 0) : M5 a b c d e = 0 := by
  unfold M5 d3; rw [ha,hb,hc,hd,he]; grind
theorem col1 (a b c d e : V) (p q : Int) : M5 (a.c1 (p * a.x1 - q * a.x0)) (b.c1 (p * b.x1 - q * b.x0)) (c.c1 (p * c.x1 - q * c.x0)) (d.c1 (p * d.x1 - q * d.x0)) (e.c1 (p * e.x1 - q * e.x0)) = p * M5 a b c d e := by
  unfold M5 d3 V.c1; grind
theorem col2 (a b c d e : V) (p q s : Int) : M5 (a.c2 (p * a.x2 - q * a.x1 + s * a.x0)) (b.c2 (p * b.x2 - q * b.x1 + s * b.x0)) (c.c2 (p * c.x2 - q * c.x1 + s * c.x0)) (d.c2 (p * d.x2 - q * d.x1 + s * d.x0)) (e.c2 (p * e.x2 - q * e.x1 + s * e.x0)) = p * M5 a b c d e := by
  unfold M5 d3 V.c2; grind
theorem zc1 (a b c d e : V) : M5 (a.c1 0) (b.c1 0) (c.c1 0) (d.c1 0) (e.c1 0) = 0 := by
  unfold M5 d3 V.c1; grind
theorem zc2 (a b c d e : V) : M5 (a.c2 0) (b.c2 0) (c.c2 0) (d.c2 0) (e.c2 0) = 0 := by
  unfold M5 d3 V.c2; grind
theorem Z1 {a b c d e : V} (h0 : a.x0 ≠ 0) (hb : M2 a b V.x1 = 0) (hc : M2 a c V.x1 = 0) (hd : M2 a d V.x1 = 0) (he : M2 a e V.x1 = 0) : M5 a b c d e = 0 := by
  have k := col1 a b c d e a.x0 a.x1
  have t : ∀ r : V,M2 a r V.x1 = a.x0 * r.x1 - a.x1 * r.x0 := fun r => by unfold M2; rw [Int.mul_comm r.x0]
  have ha : a.x0 * a.x1 - a.x1 * a.x0 = 0 := by rw [Int.mul_comm a.x1]; exact Int.sub_self _
  rw [← t b, ← t c, ← t d, ← t e,ha,hb,hc,hd,he,zc1] at k
  rcases Int.mul_eq_zero.mp k.symm with h | h
  · exact absurd h h0
  · exact h
theorem Z2 {a b c d e : V} (h0 : M2 a b V.x1 ≠ 0) (hc : M3 a b c V.x2 = 0) (hd : M3 a b d V.x2 = 0) (he : M3 a b e V.x2 = 0) : M5 a b c d e = 0 := by
  have k := col2 a b c d e (M2 a b V.x1) (a.x0 * b.x2 - b.x0 * a.x2) (a.x1 * b.x2 - b.x1 * a.x2)
  have t : ∀ r : V,M3 a b r V.x2 = M2 a b V.x1 * r.x2 - (a.x0 * b.x2 - b.x0 * a.x2) * r.x1 + (a.x1 * b.x2 - b.x1 * a.x2) * r.x0 := fun r => by unfold M3 M2 d3; grind
  have ha : M3 a b a V.x2 = 0 := by unfold M3 d3; grind
  have hb : M3 a b b V.x2 = 0 := by unfold M3 d3; grind
  rw [← t a, ← t b, ← t c, ← t d, ← t e,ha,hb,hc,hd,he,zc2] at k
  rcases Int.mul_eq_zero.mp k.symm with h | h
  · exact absurd h h0
  · exact h
theorem Z3 {a b c d e : V} (h0 : M3 a b c V.x2 ≠ 0) (hd : M4 a b c d V.x3 = 0) (he : M4 a b c e V.x3 = 0) : M5 a b c d e = 0 := by
  have k := S4 a b c d e
  rw [hd,he,Int.zero_mul,Int.zero_mul,Int.sub_self] at k
  rcases Int.mul_eq_zero.mp k.symm with h | h
  · exact absurd h h0
  · exact h
noncomputable def det5 : List V → Int
  | [a,b,c,d,e] => M5 a b c d e
  | _ => 0
theorem det5_sw {x y : V} {suf : List V} : ∀ {pre : List V},det5 (pre ++ x :: y :: suf) = - det5 (pre ++ y :: x :: suf)
  | [] => by
    match suf with
    | [c,d,e] => exact sw0 y x c d e
    | [] => rfl
    | [_] => rfl
    | [_,_] => rfl
    | _ :: _ :: _ :: _ :: _ => rfl
  | [a] => by
    match suf with
    | [d,e] => exact sw1 a y x d e
    | [] => rfl
    | [_] => rfl
    | _ :: _ :: _ :: _ => rfl
  | [a,b] => by
    match suf with
    | [e] => exact sw2 a b y x e
    | [] => rfl
    | _ :: _ :: _ => rfl
  | [a,b,c] => by
    match suf with
    | [] => exact sw3 a b c y x
    | _ :: _ => rfl
  | a :: b :: c :: d :: pre => by
    have : ∀ (l : List V) (u v : V) (m : List V),det5 (a :: b :: c :: d :: (l ++ u :: v :: m)) = 0 := fun l u v m => by
      cases l with
      | nil => rfl
      | cons w l => cases l <;> rfl
    show det5 (a :: b :: c :: d :: (pre ++ x :: y :: suf)) = - det5 (a :: b :: c :: d :: (pre ++ y :: x :: suf))
    rw [this,this]; rfl
theorem det5_mv {h : V} {suf : List V} : ∀ {mid pre : List V},det5 (pre ++ (mid ++ h :: suf)) = (-1) ^ mid.length * det5 (pre ++ h :: (mid ++ suf))
  | [],pre => by show _ = (-1) ^ 0 * _; rw [Int.pow_zero,Int.one_mul]; rfl
  | m :: mid,pre => by
    have e : pre ++ (m :: mid ++ h :: suf) = (pre ++ [m]) ++ (mid ++ h :: suf) := by simp
    rw [e,det5_mv (mid := mid) (pre := pre ++ [m])]
    have e2 : (pre ++ [m]) ++ h :: (mid ++ suf) = pre ++ m :: h :: (mid ++ suf) := by simp
    rw [e2,det5_sw]
    show _ = (-1) ^ (mid.length + 1) * det5 (pre ++ h :: m :: (mid ++ suf))
    rw [Int.pow_succ]
    grind
end L
section
set_option exponentiation.threshold 300
namespace L
noncomputable def rowD (l : List Int) : D := .list (l.map .int)
noncomputable def t75 : Sto → Option Bool := fun σ => (((σ.get 2).bind fun d => Option.map (fun x => d :: x) (some [])).bind fLen).bind fun x => (some (D.int 1)).bind fun y => (gtD x y).bind truthD
noncomputable def e75 : Sto → Option D := fun σ => ((((σ.get 3).bind fun x => (some (D.int 0)).bind fun y => idxD x y).bind fun x => ((σ.get 1).bind fun x => (σ.get 0).bind fun y => idxD x y).bind fun y => mulD x y).bind fun x =>
    (((σ.get 1).bind fun x => (some (D.int 0)).bind fun y => idxD x y).bind fun x => ((σ.get 3).bind fun x => (σ.get 0).bind fun y => idxD x y).bind fun y => mulD x y).bind fun y => subD x y).bind fun x => (σ.get 2).bind fun y => divD x y
noncomputable def n75 : Sto → Option D := fun σ => Option.map D.list (compF 1 [0,1,2] (fun σ => ((some (D.int 1)).bind fun d => Option.map (fun x => d :: x) ((((σ.get 2).bind fun d => Option.map (fun x => d :: x) (some [])).bind fLen).bind fun d => Option.map (fun x => d :: x) (some []))).bind fRange) (bndName 0) (fun _ => some true) e75 σ)
noncomputable def tops75 : Sto → Option (List D) := compF 2 [] (fun σ => ((σ.get 2).bind fun d => Option.map (fun x => d :: x) (some [])).bind fEnum) (bndTup 0 1) (fun σ => ((σ.get 1).bind fun x => (some (D.int 0)).bind fun y => idxD x y).bind truthD) fun σ => σ.get 0
noncomputable def top0 : Sto → Option D := fun σ => (σ.get 5).bind fun x => (some (D.int 0)).bind fun y => idxD x y
noncomputable def b75 : Sto → Option PF := seqF (asgOS 5 tops75)
  (seqF (ifF (fun σ => Option.map (fun x => !x) ((σ.get 5).bind truthD)) (seqF (fun _ => Option.map PF.ret (some (D.int 0))) fun σ => some (PF.next σ)) fun σ => some (PF.next σ))
  (seqF (popAt 2 6 top0)
  (seqF (augS 4 mulD fun σ => ((some (D.int 1)).bind fun d => (match d with
    | D.int i => some (D.int (-i))
    | _ => none)).bind fun x => ((σ.get 5).bind fun x => (some (D.int 0)).bind fun y => idxD x y).bind fun y => powD x y)
  (seqF (fun σ => (frzF 2 σ).bind (asgO 2 (compF 1 [3,6] (fun σ => (σ.get 2).bind seqD) (bndName 0) (fun _ => some true) n75)))
  (seqF (asgS 3 fun σ => (σ.get 6).bind fun x => (some (D.int 0)).bind fun y => idxD x y) fun σ => some (PF.next σ))))))
noncomputable def i75 : Sto → Option PF := tupF [2,3,4] fun σ => (compF 1 [1] (fun σ => (σ.get 0).bind seqD) (bndName 0) (fun _ => some true) (fun σ => Option.map D.list (compF 1 [1] (fun σ => (σ.get 0).bind seqD) (bndName 0) (fun _ => some true) (fun σ => (σ.get 0).bind fun x => (σ.get 1).bind fun y => subD x y) σ)) (fzs σ)).bind fun d => Option.map (fun x => Cell.ow d :: x) ((some (D.int 1)).bind fun d => if d.flat = true then Option.map (fun x => Cell.fz d :: x) ((some (D.int 1)).bind fun d => if d.flat = true then Option.map (fun x => Cell.fz d :: x) (some []) else none) else none)
theorem p75_eq : p75.1 = seqF i75 (seqF (fun σ => whileF t75 b75 2000 σ) (seqF (fun σ => Option.map PF.ret ((σ.get 4).bind fun x => (((σ.get 2).bind fun x => (some (D.int 0)).bind fun y => idxD x y).bind fun x => (some (D.int 0)).bind fun y => idxD x y).bind fun y => mulD x y)) fun σ => some (PF.next σ))) := rfl
end L
end
section
set_option exponentiation.threshold 300
namespace L
theorem idx_zero {ds : List D} : idxD (.list ds) (.int 0) = ds[0]? := idx_list (k := 0) (by decide)
theorem row_idx {l : List Int} {k : Nat} (h : k < l.length) (hk : k ≤ 10000) : idxD (rowD l) (.int (k : Int)) = some (.int (l.getD k 0)) := by
  unfold rowD
  rw [idx_list hk,List.getElem?_map,List.getElem?_eq_getElem h,List.getD_eq_getElem?_getD,List.getElem?_eq_getElem h]; rfl
theorem row_zero' {l : List Int} (h : 0 < l.length) : idxD (rowD l) (.int 0) = some (.int (l.getD 0 0)) := row_idx (k := 0) h (by decide)
noncomputable def newRow (head : List Int) (last : Int) (row : List Int) : List Int := (List.range (head.length - 1)).map fun i => (head.getD 0 0 * row.getD (i + 1) 0 - row.getD 0 0 * head.getD (i + 1) 0).fdiv last
theorem frange2 {m : Nat} (h : m ≤ 10000) : fRange [.int 1,.int (m : Int)] = some ((List.range (m - 1)).map fun i => .int ((i + 1 : Nat) : Int)) := by
  have h2 : -(2 ^ 31) ≤ (1 : Int) ∧ (1 : Int) < 2 ^ 31 ∧ -(2 ^ 31) ≤ (m : Int) ∧ (m : Int) < 2 ^ 31 := ⟨by decide,by decide,Int.le_trans (by decide) (Int.natCast_nonneg m),Int.lt_of_le_of_lt (Int.ofNat_le.mpr h) (by decide)⟩
  unfold fRange
  dsimp only
  rw [if_pos h2]
  unfold rangeL
  rw [show ((m : Int) - 1).toNat = m - 1 by simp]
  exact congrArg some (List.map_congr_left fun i _ => congrArg D.int (by exact Int.add_comm _ _))
theorem div_is {a b : Int} (h0 : b ≠ 0) (h : small b = true) : divD (.int a) (.int b) = some (.int (a.fdiv b)) := by
  rw [divD_ii]; rw [if_pos ⟨h0,h⟩]
theorem len_row {l : List Int} (h : l.length ≤ 10000) : fLen [rowD l] = some (.int (l.length : Int)) := by
  unfold fLen rowD
  dsimp only
  rw [List.length_map,if_pos (sz h)]
theorem n75_ok {row head : List Int} {last : Int} (hl : row.length = head.length) (h1 : 1 ≤ head.length) (h2 : head.length ≤ 100) (sr : ∀ x ∈ row,small x = true) (sh : ∀ x ∈ head,small x = true) (l0 : last ≠ 0) (sl : small last = true) :
    n75 [some (.fz (rowD row)),some (.fz (.int last)),some (.fz (rowD head))] = some (rowD (newRow head last row)) := by
  have gr : ∀ k,k < row.length → small (row.getD k 0) = true := fun k hk => by rw [List.getD_eq_getElem?_getD,List.getElem?_eq_getElem hk]; exact sr _ (List.getElem_mem hk)
  have gh : ∀ k,k < head.length → small (head.getD k 0) = true := fun k hk => by rw [List.getD_eq_getElem?_getD,List.getElem?_eq_getElem hk]; exact sh _ (List.getElem_mem hk)
  unfold n75
  rw [compF_ok (σ₀ := [none,some (.fz (rowD row)),some (.fz (.int last)),some (.fz (rowD head))]) (bs := List.range (head.length - 1)) (w := fun i => .int ((i + 1 : Nat) : Int)) (o := fun i => some (.int ((head.getD 0 0 * row.getD (i + 1) 0 - row.getD 0 0 * head.getD (i + 1) 0).fdiv last))) ?_ (by rw [List.length_range]; lia) rfl fun i hi => ?_]
  · show some (D.list _) = some (D.list _)
    unfold newRow
    rw [List.map_map]
    exact congrArg (fun l => some (D.list l)) (congrFun List.filterMap_eq_map' _)
  · refine bind_of (x := [.int 1,.int (head.length : Int)]) (bind_of (x := .int 1) rfl (map_of (x := [.int (head.length : Int)]) (bind_of (x := .int (head.length : Int)) (bind_of (x := [rowD head]) rfl (len_row (by exact Nat.le_trans (by assumption) (by decide)))) rfl) rfl)) ?_
    exact frange2 (m := head.length) (Nat.le_trans h2 (by decide))
  · rw [List.mem_range] at hi
    have i1 : i + 1 < head.length := Nat.add_lt_of_lt_sub hi
    have i2 : i + 1 < row.length := Nat.lt_of_lt_of_eq i1 hl.symm
    have i3 : i + 1 ≤ 10000 := Nat.le_trans (Nat.le_of_lt i1) (Nat.le_trans h2 (by decide))
    refine bind_of (x := [some (.fz (.int ((i + 1 : Nat) : Int))),some (.fz (rowD row)),some (.fz (.int last)),some (.fz (rowD head))]) rfl ?_
    refine bind_of (x := true) rfl ?_
    rw [if_pos rfl]
    refine map_of (x := .int ((head.getD 0 0 * row.getD (i + 1) 0 - row.getD 0 0 * head.getD (i + 1) 0).fdiv last)) ?_ rfl
    unfold e75
    refine bind_of (x := .int (head.getD 0 0 * row.getD (i + 1) 0 - row.getD 0 0 * head.getD (i + 1) 0)) ?_ ?_
    · refine bind_of (x := .int (head.getD 0 0 * row.getD (i + 1) 0)) ?_ ?_
      · refine bind_of (x := .int (head.getD 0 0)) ?_ ?_
        · refine bind_of (x := rowD head) rfl (bind_of (x := .int 0) rfl ?_)
          exact row_zero' (l := head) (by assumption)
        · refine bind_of (x := .int (row.getD (i + 1) 0)) ?_ (mul_is (gh 0 h1) (gr (i + 1) i2))
          refine bind_of (x := rowD row) rfl (bind_of (x := .int ((i + 1 : Nat) : Int)) rfl ?_)
          exact row_idx (l := row) (k := i + 1) (by first | exact i2 | exact i3) (by first | exact i2 | exact i3)
      · refine bind_of (x := .int (row.getD 0 0 * head.getD (i + 1) 0)) ?_ rfl
        refine bind_of (x := .int (row.getD 0 0)) ?_ ?_
        · refine bind_of (x := rowD row) rfl (bind_of (x := .int 0) rfl ?_)
          exact row_zero' (l := row) (Nat.lt_of_lt_of_eq h1 (id (Eq.symm hl)))
        · refine bind_of (x := .int (head.getD (i + 1) 0)) ?_ (mul_is (gr 0 (Nat.lt_of_lt_of_eq h1 (id (Eq.symm hl)))) (gh (i + 1) i1))
          refine bind_of (x := rowD head) rfl (bind_of (x := .int ((i + 1 : Nat) : Int)) rfl ?_)
          exact row_idx (l := head) (k := i + 1) (by first | exact i1 | exact i3) (by first | exact i1 | exact i3)
    · exact bind_of (x := .int last) rfl (div_is l0 sl)
noncomputable def topsOf (rows : List (List Int)) : List Nat := rows.zipIdx.filterMap fun x => if x.1.getD 0 0 = 0 then none else some x.2
theorem tops_nil : ∀ {rows : List (List Int)} {m : Nat},(∀ r ∈ rows,r.getD 0 0 = 0) → (rows.zipIdx m).filterMap (fun x => if x.1.getD 0 0 = 0 then none else some x.2) = []
  | [],_,_ => rfl
  | r :: rows,m,h => by
    rw [List.zipIdx_cons,List.filterMap_cons]
    dsimp only
    rw [if_pos (h r (.head _))]
    exact tops_nil fun q hq => h q (.tail _ hq)
theorem tops_cons : ∀ {pre : List (List Int)} {h : List Int} {suf : List (List Int)} {m : Nat},(∀ r ∈ pre,r.getD 0 0 = 0) → h.getD 0 0 ≠ 0 → ∃ rest,((pre ++ h :: suf).zipIdx m).filterMap (fun x => if x.1.getD 0 0 = 0 then none else some x.2) = (m + pre.length) :: rest
  | [],h,suf,m,_,h0 => by
    rw [List.nil_append,List.zipIdx_cons,List.filterMap_cons]
    dsimp only
    rw [if_neg h0]
    exact ⟨_,rfl⟩
  | p :: pre,h,suf,m,hp,h0 => by
    rw [List.cons_append,List.zipIdx_cons,List.filterMap_cons]
    dsimp only
    rw [if_pos (hp p (.head _))]
    refine ob_E (tops_cons (pre := pre) (h := h) (suf := suf) (m := m + 1) (fun q hq => hp q (.tail _ hq)) h0) fun rest e => ?_
    exact ⟨rest,by rw [e,List.length_cons,show m + (pre.length + 1) = m + 1 + pre.length by simp +arith]⟩
theorem tops75_ok {rows : List (List Int)} (hn : rows.length ≤ 100) (hr : ∀ r ∈ rows,0 < r.length) {σ : Sto} (h2 : σ.get 2 = some (.list (rows.map rowD))) : tops75 σ = some ((topsOf rows).map fun i => .int ((i : Nat) : Int)) := by
  unfold tops75
  rw [compF_ok (σ₀ := [none,none]) (bs := rows.zipIdx) (w := fun x => .tup [.int x.2,rowD x.1]) (o := fun x => if x.1.getD 0 0 = 0 then none else some (.int ((x.2 : Nat) : Int))) ?_ (by rw [List.length_zipIdx]; exact Nat.le_trans (by assumption) (by decide)) rfl fun x hx => ?_]
  · unfold topsOf
    rw [List.map_filterMap]
    refine congrArg (fun f => some (rows.zipIdx.filterMap f)) (funext fun x => ?_)
    split <;> rfl
  · refine bind_of (x := [.list (rows.map rowD)]) (bind_of h2 rfl) ?_
    show some (enumD 0 (rows.map rowD)) = _
    rw [enum_map]
  · obtain ⟨r,i⟩ := x
    have hi := List.mem_zipIdx hx
    have hr' : r ∈ rows := by rw [hi.2.2]; exact List.getElem_mem _
    refine bind_of (x := [some (.fz (.int (i : Int))),some (.fz (rowD r))]) rfl ?_
    refine bind_of (x := r.getD 0 0 != 0) (bind_of (x := .int (r.getD 0 0)) (bind_of (x := rowD r) rfl (bind_of (x := .int 0) rfl ?_)) rfl) ?_
    · exact row_zero' (hr r hr')
    dsimp only
    by_cases h : r.getD 0 0 = 0
    · rw [if_pos h,h]; rfl
    · rw [if_neg h,bne_iff_ne.mpr h]; rfl
end L
end
section
set_option exponentiation.threshold 300
namespace L
noncomputable def st75 (tb : D) (less : Int) (rows : List (List Int)) (last sign : Int) (c5 c6 : Option Cell) : Sto := [some (.fz tb),some (.fz (.int less)),some (.ow (rows.map rowD)),some (.fz (.int last)),some (.fz (.int sign)),c5,c6]
theorem t75_is {tb : D} {less last sign : Int} {rows : List (List Int)} {c5 c6 : Option Cell} (hn : rows.length ≤ 100) : t75 (st75 tb less rows last sign c5 c6) = some (decide (1 < rows.length)) := by
  unfold t75
  refine bind_of (x := .int (rows.length : Int)) (bind_of (x := [.list (rows.map rowD)]) rfl ?_) (bind_of (x := .int 1) rfl ?_)
  · unfold fLen; dsimp only; rw [List.length_map,if_pos (sz (by exact Nat.le_trans (by assumption) (by decide)))]
  · show some (decide ((1 : Int) < (rows.length : Int))) = _
    congr 1
    by_cases h : 1 < rows.length
    · rw [decide_eq_true h,decide_eq_true (by exact Int.ofNat_lt.mpr (by assumption))]
    · rw [decide_eq_false h,decide_eq_false (by lia)]
theorem truth_list {ds : List D} (h : ds.length ≤ 10000) : truthD (.list ds) = some (!ds.isEmpty) := by
  unfold truthD; dsimp only; rw [if_pos (sz h)]
theorem tops_len (rows : List (List Int)) : (topsOf rows).length ≤ rows.length := by
  unfold topsOf
  exact Nat.le_trans (List.length_filterMap_le _ _) (by rw [List.length_zipIdx]; exact Nat.le_refl _)
theorem asgOS_ok {i : Nat} {f : Sto → Option (List D)} {σ : Sto} {ds : List D} (h : f σ = some ds) (hf : ds.all D.flat = true) : asgOS i f σ = some (.next (put σ i (some (.ow ds)))) := by
  unfold asgOS; rw [h]; show (if _ then _ else _) = _; rw [if_pos hf]
theorem flat_ints (l : List Nat) : (l.map fun i => D.int ((i : Nat) : Int)).all D.flat = true := by
  rw [List.all_map]; exact List.all_eq_true.mpr fun _ _ => rfl
theorem b75_zero {tb : D} {less last sign : Int} {rows : List (List Int)} {c5 c6 : Option Cell} (hn : rows.length ≤ 100) (hr : ∀ r ∈ rows,0 < r.length) (hz : ∀ r ∈ rows,r.getD 0 0 = 0) : b75 (st75 tb less rows last sign c5 c6) = some (.ret (.int 0)) := by
  have e : topsOf rows = [] := tops_nil hz
  unfold b75
  refine seqF_next (asgOS_ok (tops75_ok hn hr rfl) (flat_ints _)) ?_
  rw [e]
  exact seqF_ret (ifF_t rfl (seqF_ret rfl))
theorem popAt_ok {i j : Nat} {f : Sto → Option D} {σ : Sto} {ds : List D} {d : D} {k : Nat} (hl : look σ i = some (.ow ds)) (hn : ds.length ≤ 10000) (hf : f σ = some (.int (k : Int))) (hd : ds[k]? = some d) : popAt i j f σ = some (.next (put (put σ i (some (.ow (ds.eraseIdx k)))) j (some (.fz d)))) := by
  unfold popAt
  rw [hl]
  dsimp only
  rw [if_pos (sz hn),hf]
  dsimp only [Option.bind_some]
  rw [if_pos (by exact Int.natCast_nonneg _),Int.toNat_natCast,hd]
  rfl
theorem b75_pivot {tb : D} {less last sign : Int} {pre suf : List (List Int)} {h : List Int} {c5 c6 : Option Cell} {m : Nat} (hn : (pre ++ h :: suf).length ≤ 20) (hr : ∀ r ∈ pre ++ h :: suf,r.length = m ∧ ∀ x ∈ r,small x = true) (m1 : 1 ≤ m) (m2 : m ≤ 100) (hz : ∀ r ∈ pre,r.getD 0 0 = 0) (h0 : h.getD 0 0 ≠ 0) (l0 : last ≠ 0) (sl : small last = true) (ss : sign.natAbs ≤ 8) :
    ∃ c5' c6' : Option Cell,b75 (st75 tb less (pre ++ h :: suf) last sign c5 c6) = some (.next (st75 tb less ((pre ++ suf).map (newRow h last)) (h.getD 0 0) (sign * (-1) ^ pre.length) c5' c6')) := by
  refine ob_E (tops_cons (suf := suf) (m := 0) hz h0) fun rest e => ?_
  replace e : topsOf (pre ++ h :: suf) = (0 + pre.length) :: rest := e
  rw [Nat.zero_add] at e
  have hrest : rest.length ≤ 100 := by
    have := tops_len (pre ++ h :: suf)
    rw [e,List.length_cons] at this
    lia
  have hh := hr h (List.mem_append_right _ (.head _))
  have hp : pre.length ≤ 20 := by
    rw [List.length_append] at hn; exact Nat.le_trans (Nat.le_add_right _ _) (by assumption)
  refine ⟨some (.ow ((pre.length :: rest).map fun i => .int ((i : Nat) : Int))),some (.fz (rowD h)),?_⟩
  unfold b75
  refine seqF_next (asgOS_ok (tops75_ok (by exact Nat.le_trans (by assumption) (by decide)) (fun r hr' => by have := (hr r hr').1; (subst_vars; assumption)) rfl) (flat_ints _)) ?_
  rw [e]
  refine seqF_next (ifF_f ?_ rfl) ?_
  · refine map_of (x := true) (bind_of (x := .list ((pre.length :: rest).map fun i => .int ((i : Nat) : Int))) rfl ((truth_list ?_).trans rfl)) rfl
    rw [List.length_map,List.length_cons]; exact Nat.lt_of_le_of_lt (by assumption) (by decide)
  have top : ∀ (σ : Sto),σ.get 5 = some (.list ((pre.length :: rest).map fun i => .int ((i : Nat) : Int))) → ((σ.get 5).bind fun x => (some (D.int 0)).bind fun y => idxD x y) = some (.int (pre.length : Int)) := fun σ h => by
    refine bind_of h (bind_of (x := .int 0) rfl ?_)
    rw [idx_zero]; rfl
  have hget : ((pre ++ h :: suf).map rowD)[pre.length]? = some (rowD h) := by
    rw [List.getElem?_map,List.getElem?_append_right (Nat.le_refl _),Nat.sub_self]; rfl
  have hera : ((pre ++ h :: suf).map rowD).eraseIdx pre.length = (pre ++ suf).map rowD := by
    rw [List.map_append,List.map_append,List.map_cons,List.eraseIdx_append_of_length_le (by rw [List.length_map]; exact Nat.le_refl _),List.length_map,Nat.sub_self]
    rfl
  refine seqF_next (popAt_ok (ds := (pre ++ h :: suf).map rowD) (k := pre.length) (d := rowD h) rfl (by rw [List.length_map]; exact Nat.le_trans (by assumption) (by decide)) (top _ rfl) hget) ?_
  rw [hera]
  refine seqF_next (augS_ok (x := .int sign) (y := .int ((-1) ^ pre.length)) (d := .int (sign * (-1) ^ pre.length)) rfl ?_ (mul_is (small_of (k := 4) (by decide) (by exact Nat.lt_of_le_of_lt (by assumption) (by decide))) (small_pow hp (by decide)))) ?_
  · refine bind_of (x := .int (-1)) rfl (bind_of (x := .int (pre.length : Int)) (top _ rfl) ?_)
    exact pow_is hp (small_of (k := 4) (by decide) (by decide))
  refine seqF_next (σ' := [some (.fz tb),some (.fz (.int less)),some (.ow (((pre ++ suf).map (newRow h last)).map rowD)),some (.fz (.int last)),some (.fz (.int (sign * (-1) ^ pre.length))),some (.ow ((pre.length :: rest).map fun i => .int ((i : Nat) : Int))),some (.fz (rowD h))]) ?_ ?_
  · refine bind_of (x := [some (.fz tb),some (.fz (.int less)),some (.fz (.list ((pre ++ suf).map rowD))),some (.fz (.int last)),some (.fz (.int (sign * (-1) ^ pre.length))),some (.ow ((pre.length :: rest).map fun i => .int ((i : Nat) : Int))),some (.fz (rowD h))]) rfl ?_
    refine (asgO_ok (d := ((pre ++ suf).map (newRow h last)).map rowD) ?_).trans rfl
    rw [compF_ok (σ₀ := [none,some (.fz (.int last)),some (.fz (rowD h))]) (bs := pre ++ suf) (w := rowD) (o := fun r => some (rowD (newRow h last r))) rfl (by rw [List.length_append] at hn ⊢; rw [List.length_cons] at hn; exact Nat.le_of_lt (Nat.lt_of_lt_of_le (by assumption) (by decide))) rfl fun r hr' => ?_]
    · rw [List.map_map]
      exact congrArg some (congrFun List.filterMap_eq_map' _)
    · have hm : r ∈ pre ++ h :: suf := by
        rcases List.mem_append.mp hr' with q | q
        · exact List.mem_append_left _ q
        · exact List.mem_append_right _ (.tail _ q)
      have hr2 := hr r hm
      refine bind_of (x := [some (.fz (rowD r)),some (.fz (.int last)),some (.fz (rowD h))]) rfl (bind_of (x := true) rfl ?_)
      rw [if_pos rfl]
      exact map_of (n75_ok (by rw [hr2.1,hh.1]) (by simp [*]) (by simp [*]) hr2.2 hh.2 l0 sl) rfl
  · refine seqF_next (asgS_ok (d := .int (h.getD 0 0)) ?_ rfl) rfl
    refine bind_of (x := rowD h) rfl (bind_of (x := .int 0) rfl ?_)
    exact row_zero' (by simp +arith [*])
end L
end
section
set_option exponentiation.threshold 3000
namespace L
noncomputable def f0 (r : V) : List Int := [r.x0,r.x1,r.x2,r.x3,r.x4]
noncomputable def f1 (a r : V) : List Int := [M2 a r V.x1,M2 a r V.x2,M2 a r V.x3,M2 a r V.x4]
noncomputable def f2 (a b r : V) : List Int := [M3 a b r V.x2,M3 a b r V.x3,M3 a b r V.x4]
noncomputable def f3 (a b c r : V) : List Int := [M4 a b c r V.x3,M4 a b c r V.x4]
noncomputable def f4 (a b c d r : V) : List Int := [M5 a b c d r]
theorem fd_is {x y z : Int} (h : x = y * z) (h0 : y ≠ 0) : x.fdiv y = z := by subst h; exact Int.mul_fdiv_cancel_left z h0
theorem nr0 (a r : V) : newRow (f0 a) 1 (f0 r) = f1 a r := by
  show [Int.fdiv (M2 a r V.x1) 1,Int.fdiv (M2 a r V.x2) 1,Int.fdiv (M2 a r V.x3) 1,Int.fdiv (M2 a r V.x4) 1] = _
  rw [Int.fdiv_one,Int.fdiv_one,Int.fdiv_one,Int.fdiv_one]; rfl
theorem nr1 {a h r : V} (h0 : a.x0 ≠ 0) : newRow (f1 a h) a.x0 (f1 a r) = f2 a h r := by
  show [Int.fdiv (M2 a h V.x1 * M2 a r V.x2 - M2 a r V.x1 * M2 a h V.x2) a.x0,Int.fdiv (M2 a h V.x1 * M2 a r V.x3 - M2 a r V.x1 * M2 a h V.x3) a.x0,Int.fdiv (M2 a h V.x1 * M2 a r V.x4 - M2 a r V.x1 * M2 a h V.x4) a.x0] = _
  rw [fd_is (S2 ..) h0,fd_is (S2 ..) h0,fd_is (S2 ..) h0]; rfl
theorem nr2 {a b h r : V} (h0 : M2 a b V.x1 ≠ 0) : newRow (f2 a b h) (M2 a b V.x1) (f2 a b r) = f3 a b h r := by
  show [Int.fdiv (M3 a b h V.x2 * M3 a b r V.x3 - M3 a b r V.x2 * M3 a b h V.x3) (M2 a b V.x1),Int.fdiv (M3 a b h V.x2 * M3 a b r V.x4 - M3 a b r V.x2 * M3 a b h V.x4) (M2 a b V.x1)] = _
  rw [fd_is (S3 ..) h0,fd_is (S3 ..) h0]; rfl
theorem nr3 {a b c h r : V} (h0 : M3 a b c V.x2 ≠ 0) : newRow (f3 a b c h) (M3 a b c V.x2) (f3 a b c r) = f4 a b c h r := by
  show [Int.fdiv (M4 a b c h V.x3 * M4 a b c r V.x4 - M4 a b c r V.x3 * M4 a b c h V.x4) (M3 a b c V.x2)] = _
  rw [fd_is (S4 ..) h0]; rfl
noncomputable abbrev BB : Nat := 2 ^ 121
theorem am {a b : Int} {x y : Nat} (h : a.natAbs ≤ x) (k : b.natAbs ≤ y) : (a * b).natAbs ≤ x * y := by rw [Int.natAbs_mul]; exact Nat.mul_le_mul h k
theorem as' {a b : Int} {x y : Nat} (h : a.natAbs ≤ x) (k : b.natAbs ≤ y) : (a - b).natAbs ≤ x + y := by rw [Int.sub_eq_add_neg]; exact Nat.le_trans (Int.natAbs_add_le a (-b)) (Nat.add_le_add h (by rw [Int.natAbs_neg]; exact k))
theorem aa {a b : Int} {x y : Nat} (h : a.natAbs ≤ x) (k : b.natAbs ≤ y) : (a + b).natAbs ≤ x + y := Nat.le_trans (Int.natAbs_add_le a b) (Nat.add_le_add h k)
structure Bd (v : V) : Prop where
  b0 : v.x0.natAbs ≤ BB
  b1 : v.x1.natAbs ≤ BB
  b2 : v.x2.natAbs ≤ BB
  b3 : v.x3.natAbs ≤ BB
  b4 : v.x4.natAbs ≤ BB
noncomputable def T3 : Nat := BB * (BB * BB + BB * BB) + BB * (BB * BB + BB * BB) + BB * (BB * BB + BB * BB)
theorem d3b {a0 a1 a2 b0 b1 b2 c0 c1 c2 : Int} (h1 : a0.natAbs ≤ BB) (h2 : a1.natAbs ≤ BB) (h3 : a2.natAbs ≤ BB) (h4 : b0.natAbs ≤ BB) (h5 : b1.natAbs ≤ BB) (h6 : b2.natAbs ≤ BB) (h7 : c0.natAbs ≤ BB) (h8 : c1.natAbs ≤ BB) (h9 : c2.natAbs ≤ BB) : (d3 a0 a1 a2 b0 b1 b2 c0 c1 c2).natAbs ≤ T3 :=
  aa (as' (am h1 (as' (am h5 h9) (am h6 h8))) (am h2 (as' (am h4 h9) (am h6 h7)))) (am h3 (as' (am h4 h8) (am h5 h7)))
theorem sm2 {a r : V} {k : V → Int} (ha : Bd a) (hr : Bd r) (hk : ∀ v,Bd v → (k v).natAbs ≤ BB) : small (M2 a r k) = true :=
  small_of (k := 700) (by decide) (Nat.lt_of_le_of_lt (as' (am ha.b0 (hk r hr)) (am hr.b0 (hk a ha))) (by decide +kernel))
theorem sm3 {a b r : V} {k : V → Int} (ha : Bd a) (hb : Bd b) (hr : Bd r) (hk : ∀ v,Bd v → (k v).natAbs ≤ BB) : small (M3 a b r k) = true :=
  small_of (k := 700) (by decide) (Nat.lt_of_le_of_lt (d3b ha.b0 ha.b1 (hk a ha) hb.b0 hb.b1 (hk b hb) hr.b0 hr.b1 (hk r hr)) (by decide +kernel))
theorem sm4 {a b c r : V} {k : V → Int} (ha : Bd a) (hb : Bd b) (hc : Bd c) (hr : Bd r) (hk : ∀ v,Bd v → (k v).natAbs ≤ BB) : small (M4 a b c r k) = true :=
  small_of (k := 700) (by decide) (Nat.lt_of_le_of_lt (as' (as' (as' (am (hk r hr) (d3b ha.b0 ha.b1 ha.b2 hb.b0 hb.b1 hb.b2 hc.b0 hc.b1 hc.b2)) (am hr.b0 (d3b (hk a ha) ha.b1 ha.b2 (hk b hb) hb.b1 hb.b2 (hk c hc) hc.b1 hc.b2))) (am hr.b1 (d3b ha.b0 (hk a ha) ha.b2 hb.b0 (hk b hb) hb.b2 hc.b0 (hk c hc) hc.b2))) (am hr.b2 (d3b ha.b0 ha.b1 (hk a ha) hb.b0 hb.b1 (hk b hb) hc.b0 hc.b1 (hk c hc)))) (by decide +kernel))
theorem sm5 {a b c d r : V} (ha : Bd a) (hb : Bd b) (hc : Bd c) (hd : Bd d) (hr : Bd r) : small (M5 a b c d r) = true := by
  have pr : ∀ {p q s t u v w x y z z' z'' z''' : Int},p.natAbs ≤ BB → q.natAbs ≤ BB → s.natAbs ≤ BB → t.natAbs ≤ BB → u.natAbs ≤ BB → v.natAbs ≤ BB → w.natAbs ≤ BB → x.natAbs ≤ BB → y.natAbs ≤ BB → z.natAbs ≤ BB → z'.natAbs ≤ BB → z''.natAbs ≤ BB → z'''.natAbs ≤ BB → (d3 p q s t u v w x y * (z * z' - z'' * z''')).natAbs ≤ T3 * (BB * BB + BB * BB) := fun h1 h2 h3 h4 h5 h6 h7 h8 h9 h10 h11 h12 h13 => am (d3b h1 h2 h3 h4 h5 h6 h7 h8 h9) (as' (am h10 h11) (am h12 h13))
  obtain ⟨a0,a1,a2,a3,a4⟩ := ha
  obtain ⟨b0,b1,b2,b3,b4⟩ := hb
  obtain ⟨c0,c1,c2,c3,c4⟩ := hc
  obtain ⟨d0,d1,d2,d3',d4⟩ := hd
  obtain ⟨r0,r1,r2,r3,r4⟩ := hr
  refine small_of (k := 700) (by decide) (Nat.lt_of_le_of_lt (aa (aa (aa (as' (as' (as' (as' (as' (as' (pr ?_ ?_ ?_ ?_ ?_ ?_ ?_ ?_ ?_ ?_ ?_ ?_ ?_) (pr ?_ ?_ ?_ ?_ ?_ ?_ ?_ ?_ ?_ ?_ ?_ ?_ ?_)) (pr ?_ ?_ ?_ ?_ ?_ ?_ ?_ ?_ ?_ ?_ ?_ ?_ ?_)) (pr ?_ ?_ ?_ ?_ ?_ ?_ ?_ ?_ ?_ ?_ ?_ ?_ ?_)) (pr ?_ ?_ ?_ ?_ ?_ ?_ ?_ ?_ ?_ ?_ ?_ ?_ ?_)) (pr ?_ ?_ ?_ ?_ ?_ ?_ ?_ ?_ ?_ ?_ ?_ ?_ ?_)) (pr ?_ ?_ ?_ ?_ ?_ ?_ ?_ ?_ ?_ ?_ ?_ ?_ ?_)) (pr ?_ ?_ ?_ ?_ ?_ ?_ ?_ ?_ ?_ ?_ ?_ ?_ ?_)) (pr ?_ ?_ ?_ ?_ ?_ ?_ ?_ ?_ ?_ ?_ ?_ ?_ ?_)) (pr ?_ ?_ ?_ ?_ ?_ ?_ ?_ ?_ ?_ ?_ ?_ ?_ ?_)) (by decide +kernel)) <;> assumption
theorem whileF_ret {t : Sto → Option Bool} {g : Sto → Option PF} {k : Nat} {σ : Sto} {d : D} (h : t σ = some true) (h' : g σ = some (.ret d)) : whileF t g (k + 1) σ = some (.ret d) := by
  conv => lhs; unfold whileF
  rw [h]; show (g σ).bind _ = _; rw [h']; rfl
theorem first {α : Type} (g : α → Int) : ∀ rs : List α,(∀ r ∈ rs,g r = 0) ∨ ∃ pre h suf,rs = pre ++ h :: suf ∧ (∀ r ∈ pre,g r = 0) ∧ g h ≠ 0
  | [] => .inl fun _ h => nomatch h
  | r :: rs => by
    by_cases h : g r = 0
    · rcases first g rs with q | ⟨pre,x,suf,rfl,h1,h2⟩
      · exact .inl fun y hy => (List.mem_cons.mp hy).elim (fun e => e ▸ h) (q y)
      · exact .inr ⟨r :: pre,x,suf,rfl,fun y hy => (List.mem_cons.mp hy).elim (fun e => e ▸ h) (h1 y),h2⟩
    · exact .inr ⟨[],r,rs,rfl,fun _ h => (nomatch h),h⟩
theorem turn75 {tb : D} {less last sign : Int} {rs : List V} (f : V → List Int) {c5 c6 : Option Cell} {fuel m : Nat} (hn : 2 ≤ rs.length ∧ rs.length ≤ 20) (hr : ∀ r ∈ rs,(f r).length = m ∧ ∀ x ∈ f r,small x = true) (m1 : 1 ≤ m) (m2 : m ≤ 100) (l0 : last ≠ 0) (sl : small last = true) (ss : sign.natAbs ≤ 8) :
    ((∀ r ∈ rs,(f r).getD 0 0 = 0) ∧ whileF t75 b75 (fuel + 1) (st75 tb less (rs.map f) last sign c5 c6) = some (.ret (.int 0))) ∨
    ∃ pre h suf,∃ c5' c6' : Option Cell,rs = pre ++ h :: suf ∧ (f h).getD 0 0 ≠ 0 ∧ whileF t75 b75 (fuel + 1) (st75 tb less (rs.map f) last sign c5 c6) = whileF t75 b75 fuel (st75 tb less ((pre ++ suf).map fun r => newRow (f h) last (f r)) ((f h).getD 0 0) (sign * (-1) ^ pre.length) c5' c6') := by
  have ht : t75 (st75 tb less (rs.map f) last sign c5 c6) = some true := by
    rw [t75_is (by rw [List.length_map]; lia),List.length_map,decide_eq_true (by simp +arith [*])]
  rcases first (fun r => (f r).getD 0 0) rs with hz | ⟨pre,h,suf,rfl,h1,h2⟩
  · refine .inl ⟨hz,whileF_ret ht (b75_zero (by rw [List.length_map]; lia) (fun r h => ?_) fun r h => ?_)⟩
    · (refine ob_EA (List.mem_map.mp h) fun v hv z1q => ?_; obtain rfl := z1q)
      have := (hr v hv).1; (subst_vars; assumption)
    · (refine ob_EA (List.mem_map.mp h) fun v hv z2q => ?_; obtain rfl := z2q)
      exact hz v hv
  · refine ob_EE (b75_pivot (tb := tb) (less := less) (last := last) (sign := sign) (pre := pre.map f) (suf := suf.map f) (h := f h) (c5 := c5) (c6 := c6) (m := m) (by have := hn.2; rw [List.length_append,List.length_cons] at this; rw [List.length_append,List.length_cons,List.length_map,List.length_map]; exact this) (fun r hr' => by
      rw [← List.map_cons, ← List.map_append] at hr'
      obtain ⟨v,hv,rfl⟩ := List.mem_map.mp hr'
      exact hr v hv) m1 m2 (fun r h => by
      obtain ⟨v,hv,rfl⟩ := List.mem_map.mp h
      exact h1 v hv) h2 l0 sl ss) fun c5' c6' e => ?_
    refine .inr ⟨pre,h,suf,c5',c6',rfl,h2,whileF_next ht ?_⟩
    rw [List.map_append,List.map_cons,e,List.length_map,List.map_append,List.map_map,List.map_map,List.map_append]
    rfl
end L
end
section
set_option exponentiation.threshold 3000
namespace L
theorem sgn_one (s : Int) (k : Nat) (h : s.natAbs = 1) : (s * (-1) ^ k).natAbs = 1 := by
  rw [Int.natAbs_mul,Int.natAbs_pow,h]; simp
theorem all4 {P : Int → Prop} {a b c d : Int} (ha : P a) (hb : P b) (hc : P c) (hd : P d) : ∀ x ∈ [a,b,c,d],P x := fun x hx => by
  simp only [List.mem_cons,List.not_mem_nil,or_false] at hx
  rcases hx with rfl | rfl | rfl | rfl <;> assumption
theorem all3 {P : Int → Prop} {a b c : Int} (ha : P a) (hb : P b) (hc : P c) : ∀ x ∈ [a,b,c],P x := fun x hx => by
  simp only [List.mem_cons,List.not_mem_nil,or_false] at hx
  rcases hx with rfl | rfl | rfl <;> assumption
theorem all2 {P : Int → Prop} {a b : Int} (ha : P a) (hb : P b) : ∀ x ∈ [a,b],P x := fun x hx => by
  simp only [List.mem_cons,List.not_mem_nil,or_false] at hx
  rcases hx with rfl | rfl <;> assumption
theorem sB {x : Int} (h : x.natAbs ≤ BB) : small x = true := small_of (k := 700) (by decide) (Nat.lt_of_le_of_lt h (by decide +kernel))
noncomputable def Out (tb : D) (less Dt : Int) (o : Option PF) : Prop := (o = some (.ret (.int 0)) ∧ Dt = 0) ∨ ∃ (x last sign : Int) (c5 c6 : Option Cell),o = some (.next (st75 tb less [[x]] last sign c5 c6)) ∧ sign.natAbs = 1 ∧ small x = true ∧ sign * x = Dt
theorem pick_out {pre suf : List V} {h : V} {P : V → Prop} (hB : ∀ v ∈ pre ++ h :: suf,P v) : P h ∧ ∀ v ∈ pre ++ suf,P v := ⟨hB h (List.mem_append_right _ (.head _)),fun v h => hB v (by
    rcases List.mem_append.mp h with q | q
    · exact List.mem_append_left _ q
    · exact List.mem_append_right _ (.tail _ q))⟩
theorem pick_len {pre suf : List V} {h : V} {n : Nat} (e : (pre ++ h :: suf).length = n + 1) : (pre ++ suf).length = n := by
  rw [List.length_append,List.length_cons] at e
  rw [List.length_append]
  lia
theorem sg_mv {s x y : Int} {k : Nat} {z : Int} (h : s * x = y) (e : x = (-1) ^ k * z) : s * (-1) ^ k * z = y := by rw [Int.mul_assoc, ← e]; exact h
section
variable {tb : D} {less Dt : Int}
theorem lone {α : Type} {l : List α} (h : l.length = 1) : ∃ a,l = [a] := List.length_eq_one_iff.mp h
theorem ltwo {α : Type} {l : List α} (h : l.length = 2) : ∃ a b,l = [a,b] := by
  cases l with
  | nil => cases h
  | cons a l => (refine ob_E (lone (Nat.succ.inj h)) fun b z1q => ?_; obtain rfl := z1q); exact ⟨a,b,rfl⟩
theorem lthree {α : Type} {l : List α} (h : l.length = 3) : ∃ a b c,l = [a,b,c] := by
  cases l with
  | nil => cases h
  | cons a l => (refine ob_EE (ltwo (Nat.succ.inj h)) fun b c z2q => ?_; obtain rfl := z2q); exact ⟨a,b,c,rfl⟩
theorem lfour {α : Type} {l : List α} (h : l.length = 4) : ∃ a b c d,l = [a,b,c,d] := by
  cases l with
  | nil => cases h
  | cons a l => (refine ob_EEE (lthree (Nat.succ.inj h)) fun b c d z3q => ?_; obtain rfl := z3q); exact ⟨a,b,c,d,rfl⟩
theorem lfive {α : Type} {l : List α} (h : l.length = 5) : ∃ a b c d e,l = [a,b,c,d,e] := by
  cases l with
  | nil => cases h
  | cons a l => (refine ob_EEEE (lfour (Nat.succ.inj h)) fun b c d e z4q => ?_; obtain rfl := z4q); exact ⟨a,b,c,d,e,rfl⟩
theorem k1 (v : V) (h : Bd v) : (V.x1 v).natAbs ≤ BB := h.b1
theorem k2 (v : V) (h : Bd v) : (V.x2 v).natAbs ≤ BB := h.b2
theorem k3 (v : V) (h : Bd v) : (V.x3 v).natAbs ≤ BB := h.b3
theorem k4 (v : V) (h : Bd v) : (V.x4 v).natAbs ≤ BB := h.b4
theorem o4 {a b c d : V} {rs : List V} {last sign : Int} {c5 c6 : Option Cell} {fuel : Nat} (hn : rs.length = 1) (ha : Bd a) (hb : Bd b) (hc : Bd c) (hd : Bd d) (hB : ∀ v ∈ rs,Bd v) (hs : sign.natAbs = 1) (hD : sign * det5 (a :: b :: c :: d :: rs) = Dt) :
    Out tb less Dt (whileF t75 b75 (fuel + 1) (st75 tb less (rs.map (f4 a b c d)) last sign c5 c6)) := by
  (refine ob_E (lone hn) fun e5 z5q => ?_; obtain rfl := z5q)
  · refine .inr ⟨M5 a b c d e5,last,sign,c5,c6,whileF_stop ?_,hs,sm5 ha hb hc hd (hB e5 (.head _)),hD⟩
    have t := t75_is (tb := tb) (less := less) (last := last) (sign := sign) (rows := [e5].map (f4 a b c d)) (c5 := c5) (c6 := c6) (Nat.le_of_ble_eq_true rfl)
    rw [t]
    rfl
theorem o3 {a b c : V} {rs : List V} {sign : Int} {c5 c6 : Option Cell} {fuel : Nat} (hn : rs.length = 2) (ha : Bd a) (hb : Bd b) (hc : Bd c) (hB : ∀ v ∈ rs,Bd v) (l0 : M3 a b c V.x2 ≠ 0) (hs : sign.natAbs = 1) (hD : sign * det5 (a :: b :: c :: rs) = Dt) :
    Out tb less Dt (whileF t75 b75 (fuel + 2) (st75 tb less (rs.map (f3 a b c)) (M3 a b c V.x2) sign c5 c6)) := by
  rcases turn75 (tb := tb) (less := less) (last := M3 a b c V.x2) (sign := sign) (rs := rs) (f3 a b c) (c5 := c5) (c6 := c6) (fuel := fuel + 1) (m := 2) (by simp [*]) (fun r h => ⟨rfl,all2 (sm4 ha hb hc (hB r h) k3) (sm4 ha hb hc (hB r h) k4)⟩) (by decide) (by decide) l0 (sm3 ha hb hc k2) (by simp [*]) with ⟨hz,e⟩ | ⟨pre,h,suf,c5',c6',rfl,h0,e⟩
  · refine .inl ⟨e,?_⟩
    (refine ob_EE (ltwo hn) fun d e5 z6q => ?_; obtain rfl := z6q)
    · rw [← hD]
      show sign * M5 a b c d e5 = 0
      rw [Z3 l0 (hz d (by simp)) (hz e5 (by simp)),Int.mul_zero]
  · rw [e]
    refine ob_A (pick_out hB) fun hh hB' => ?_
    rw [show ((pre ++ suf).map fun r => newRow (f3 a b c h) (M3 a b c V.x2) (f3 a b c r)) = (pre ++ suf).map (f4 a b c h) from List.map_congr_left fun r _ => nr3 l0]
    exact o4 (pick_len hn) ha hb hc hh hB' (sgn_one _ _ hs) (sg_mv hD (det5_mv (pre := [a,b,c])))
theorem o2 {a b : V} {rs : List V} {sign : Int} {c5 c6 : Option Cell} {fuel : Nat} (hn : rs.length = 3) (ha : Bd a) (hb : Bd b) (hB : ∀ v ∈ rs,Bd v) (l0 : M2 a b V.x1 ≠ 0) (hs : sign.natAbs = 1) (hD : sign * det5 (a :: b :: rs) = Dt) :
    Out tb less Dt (whileF t75 b75 (fuel + 3) (st75 tb less (rs.map (f2 a b)) (M2 a b V.x1) sign c5 c6)) := by
  rcases turn75 (tb := tb) (less := less) (last := M2 a b V.x1) (sign := sign) (rs := rs) (f2 a b) (c5 := c5) (c6 := c6) (fuel := fuel + 2) (m := 3) (by simp [*]) (fun r h => ⟨rfl,all3 (sm3 ha hb (hB r h) k2) (sm3 ha hb (hB r h) k3) (sm3 ha hb (hB r h) k4)⟩) (by decide) (by decide) l0 (sm2 ha hb k1) (by simp [*]) with ⟨hz,e⟩ | ⟨pre,h,suf,c5',c6',rfl,h0,e⟩
  · refine .inl ⟨e,?_⟩
    (refine ob_EEE (lthree hn) fun c d e5 z7q => ?_; obtain rfl := z7q)
    · rw [← hD]
      show sign * M5 a b c d e5 = 0
      rw [Z2 l0 (hz c (by simp)) (hz d (by simp)) (hz e5 (by simp)),Int.mul_zero]
  · rw [e]
    refine ob_A (pick_out hB) fun hh hB' => ?_
    rw [show ((pre ++ suf).map fun r => newRow (f2 a b h) (M2 a b V.x1) (f2 a b r)) = (pre ++ suf).map (f3 a b h) from List.map_congr_left fun r _ => nr2 l0]
    exact o3 (pick_len hn) ha hb hh hB' h0 (sgn_one _ _ hs) (sg_mv hD (det5_mv (pre := [a,b])))
theorem o1 {a : V} {rs : List V} {sign : Int} {c5 c6 : Option Cell} {fuel : Nat} (hn : rs.length = 4) (ha : Bd a) (hB : ∀ v ∈ rs,Bd v) (l0 : a.x0 ≠ 0) (hs : sign.natAbs = 1) (hD : sign * det5 (a :: rs) = Dt) :
    Out tb less Dt (whileF t75 b75 (fuel + 4) (st75 tb less (rs.map (f1 a)) a.x0 sign c5 c6)) := by
  rcases turn75 (tb := tb) (less := less) (last := a.x0) (sign := sign) (rs := rs) (f1 a) (c5 := c5) (c6 := c6) (fuel := fuel + 3) (m := 4) (by simp [*]) (fun r h => ⟨rfl,all4 (sm2 ha (hB r h) k1) (sm2 ha (hB r h) k2) (sm2 ha (hB r h) k3) (sm2 ha (hB r h) k4)⟩) (by decide) (by decide) l0 (sB ha.b0) (by exact Nat.le_trans (m := 1) (by solve_by_elim (maxDepth := 4) only [*,Nat.le_of_lt,Nat.le_trans,Nat.le_of_eq,Internal.leq2]) (by decide)) with ⟨hz,e⟩ | ⟨pre,h,suf,c5',c6',rfl,h0,e⟩
  · refine .inl ⟨e,?_⟩
    (refine ob_EEEE (lfour hn) fun b c d e5 z8q => ?_; obtain rfl := z8q)
    · rw [← hD]
      show sign * M5 a b c d e5 = 0
      rw [Z1 l0 (hz b (by simp)) (hz c (by simp)) (hz d (by simp)) (hz e5 (by simp)),Int.mul_zero]
  · rw [e]
    refine ob_A (pick_out hB) fun hh hB' => ?_
    rw [show ((pre ++ suf).map fun r => newRow (f1 a h) a.x0 (f1 a r)) = (pre ++ suf).map (f2 a h) from List.map_congr_left fun r _ => nr1 l0]
    exact o2 (pick_len hn) ha hh hB' h0 (sgn_one _ _ hs) (sg_mv hD (det5_mv (pre := [a])))
theorem o0 {rs : List V} {c5 c6 : Option Cell} {fuel : Nat} (hn : rs.length = 5) (hB : ∀ v ∈ rs,Bd v) : Out tb less (det5 rs) (whileF t75 b75 (fuel + 5) (st75 tb less (rs.map f0) 1 1 c5 c6)) := by
  rcases turn75 (tb := tb) (less := less) (last := 1) (sign := 1) (rs := rs) f0 (c5 := c5) (c6 := c6) (fuel := fuel + 4) (m := 5) (by simp [*]) (fun r h => ⟨rfl,fun x hx => by
      have b := hB r h
      simp only [f0,List.mem_cons,List.not_mem_nil,or_false] at hx
      rcases hx with rfl | rfl | rfl | rfl | rfl
      · exact sB b.b0
      · exact sB b.b1
      · exact sB b.b2
      · exact sB b.b3
      · exact sB b.b4⟩) (by decide) (by decide) (by decide) (small_of (k := 2) (by decide) (by decide)) (by decide) with ⟨hz,e⟩ | ⟨pre,h,suf,c5',c6',rfl,h0,e⟩
  · refine .inl ⟨e,?_⟩
    (refine ob_EEEEE (lfive hn) fun a b c d e5 z9q => ?_; obtain rfl := z9q)
    exact Z0 (hz a (by simp)) (hz b (by simp)) (hz c (by simp)) (hz d (by simp)) (hz e5 (by simp))
  · rw [e]
    refine ob_A (pick_out hB) fun hh hB' => ?_
    rw [show ((pre ++ suf).map fun r => newRow (f0 h) 1 (f0 r)) = (pre ++ suf).map (f1 h) from List.map_congr_left fun r _ => nr0 h r]
    exact o1 (pick_len hn) hh hB' h0 (sgn_one _ _ rfl) (sg_mv (Int.one_mul _) (det5_mv (pre := [])))
end
theorem f75 {table : List (List Int)} {less : Int} {vs : List V} (h5 : vs.length = 5) (hB : ∀ v ∈ vs,Bd v) (hr : ∀ r ∈ table,r.length ≤ 100) (he : table.map (fun r => r.map fun x => x - less) = vs.map f0) : F75 [.list (table.map rowD),.int less] = some (.int (det5 vs)) := by
  show retF p75.1 (entry 7 [.list (table.map rowD),.int less]) = _
  refine retF_of ?_
  rw [p75_eq]
  have ht : table.length = 5 := by rw [← List.length_map (f := fun r : List Int => r.map fun x => x - less),he,List.length_map,h5]
  refine seqF_next (σ' := st75 (.list (table.map rowD)) less (vs.map f0) 1 1 none none) ?_ ?_
  · refine bind_of (x := [.ow ((vs.map f0).map rowD),.fz (.int 1),.fz (.int 1)]) ?_ rfl
    refine bind_of (x := (vs.map f0).map rowD) ?_ rfl
    rw [← he]
    refine (compF_ok (σ₀ := [none,some (.fz (.int less))]) (bs := table) (w := rowD) (o := fun r => some (rowD (r.map fun x => x - less))) rfl (by exact Nat.le_trans (m := 5) (by solve_by_elim (maxDepth := 4) only [*,Nat.le_of_lt,Nat.le_trans,Nat.le_of_eq,Internal.leq2]) (by decide)) rfl fun r hr' => ?_).trans ?_
    · refine bind_of (x := [some (.fz (rowD r)),some (.fz (.int less))]) rfl (bind_of (x := true) rfl ?_)
      rw [if_pos rfl]
      refine map_of (x := rowD (r.map fun x => x - less)) ?_ rfl
      refine map_of (x := (r.map fun x => x - less).map .int) ?_ rfl
      refine (compF_ok (σ₀ := [none,some (.fz (.int less))]) (bs := r) (w := .int) (o := fun x => some (.int (x - less))) rfl (by have := hr r hr'; exact Nat.le_trans (by assumption) (by decide)) rfl fun x hx => rfl).trans ?_
      rw [List.map_map]
      exact congrArg some (congrFun List.filterMap_eq_map' _)
    · rw [List.map_map]
      exact congrArg some (congrFun List.filterMap_eq_map' _)
  rcases o0 (tb := .list (table.map rowD)) (less := less) (fuel := 1995) (c5 := none) (c6 := none) h5 hB with ⟨e,hz⟩ | ⟨x,last,sign,c5,c6,e,h1,h2,h3⟩
  · rw [hz]
    exact seqF_ret e
  · refine seqF_next e (seqF_ret (map_of (x := .int (det5 vs)) ?_ rfl))
    rw [← h3]
    refine bind_of (x := .int sign) rfl (bind_of (x := .int x) (bind_of (x := rowD [x]) (bind_of (x := .list [rowD [x]]) rfl (bind_of (x := .int 0) rfl ?_)) (bind_of (x := .int 0) rfl ?_)) (mul_is (small_of (k := 4) (by decide) (by simp [*])) h2))
    · rw [idx_zero]; rfl
    · exact row_zero' (l := [x]) (Nat.succ_pos 0)
end L
end
section
set_option exponentiation.threshold 3000
namespace L
theorem sz_ok {n : Nat} (h : n ≤ 10000) : n ≤ sizeLine := sz h
noncomputable def wbStep (up down : Int) (a : Int × Int) (s : Nat) : Int × Int := (a.1 * (1 - up ^ s * down ^ s),a.2 * (1 - up ^ s * down ^ s) + a.1 * (1 - up ^ s) * (1 - down ^ s))
theorem pow_le {x : Int} {s : Nat} (h : x.natAbs ≤ 8) (hs : s ≤ 2) : (x ^ s).natAbs ≤ 64 := by
  rw [Int.natAbs_pow]
  exact Nat.le_trans (Nat.pow_le_pow_left h s) (Nat.le_trans (Nat.pow_le_pow_right (by decide) hs) (by decide))
theorem s100 {x : Int} (h : x.natAbs ≤ 2 ^ 100) : small x = true := small_of (k := 101) (by decide) (Nat.lt_of_le_of_lt h (by decide +kernel))
theorem f76_turn {pg szs : D} {up down less w b : Int} {tab : D} {s N : Nat} {c9 c10 : Option Cell} (hu : up.natAbs ≤ 8) (hd : down.natAbs ≤ 8) (hs : s ≤ 2) (hw : w.natAbs ≤ N) (hb : b.natAbs ≤ N) (hN : N ≤ 2 ^ 60) {body : Sto → Option PF}
    (hbd : body = seqF (tupF (List.reverse [9,10]) fun σ => Option.map List.reverse (((σ.get 2).bind fun x => (σ.get 8).bind fun y => powD x y).bind fun d => if d.flat = true then Option.map (fun x => Cell.fz d :: x) (((σ.get 3).bind fun x => (σ.get 8).bind fun y => powD x y).bind fun d => if d.flat = true then Option.map (fun x => Cell.fz d :: x) (some []) else none) else none))
      (seqF (asgS 7 fun σ => ((σ.get 7).bind fun x => ((some (D.int 1)).bind fun x => ((σ.get 9).bind fun x => (σ.get 10).bind fun y => mulD x y).bind fun y => subD x y).bind fun y => mulD x y).bind fun x => (((σ.get 6).bind fun x => ((some (D.int 1)).bind fun x => (σ.get 9).bind fun y => subD x y).bind fun y => mulD x y).bind fun x => ((some (D.int 1)).bind fun x => (σ.get 10).bind fun y => subD x y).bind fun y => mulD x y).bind fun y => addD x y)
      (seqF (augS 6 mulD fun σ => (some (D.int 1)).bind fun x => ((σ.get 9).bind fun x => (σ.get 10).bind fun y => mulD x y).bind fun y => subD x y) fun σ => some (PF.next σ)))) :
    body [some (.fz pg),some (.fz szs),some (.fz (.int up)),some (.fz (.int down)),some (.fz (.int less)),some (.fz tab),some (.fz (.int w)),some (.fz (.int b)),some (.fz (.int (s : Int))),c9,c10]
      = some (.next [some (.fz pg),some (.fz szs),some (.fz (.int up)),some (.fz (.int down)),some (.fz (.int less)),some (.fz tab),some (.fz (.int (wbStep up down (w,b) s).1)),some (.fz (.int (wbStep up down (w,b) s).2)),some (.fz (.int (s : Int))),some (.fz (.int (up ^ s))),some (.fz (.int (down ^ s)))]) ∧ (wbStep up down (w,b) s).1.natAbs ≤ N * 16384 ∧ (wbStep up down (w,b) s).2.natAbs ≤ N * 16384 := by
  subst hbd
  have hx := pow_le hu hs
  have hy := pow_le hd hs
  have su : small up = true := small_of (k := 4) (by decide) (by exact Nat.lt_of_le_of_lt (by assumption) (by decide))
  have sd : small down = true := small_of (k := 4) (by decide) (by exact Nat.lt_of_le_of_lt (by assumption) (by decide))
  unfold wbStep
  dsimp only
  have ex : ∀ (σ : Sto),σ.get 2 = some (.int up) → σ.get 8 = some (.int (s : Int)) → ((σ.get 2).bind fun x => (σ.get 8).bind fun y => powD x y) = some (.int (up ^ s)) := fun σ h h' => bind_of h (bind_of h' (pow_is (by exact Nat.le_trans (by assumption) (by decide)) su))
  have ey : ∀ (σ : Sto),σ.get 3 = some (.int down) → σ.get 8 = some (.int (s : Int)) → ((σ.get 3).bind fun x => (σ.get 8).bind fun y => powD x y) = some (.int (down ^ s)) := fun σ h h' => bind_of h (bind_of h' (pow_is (by lia) sd))
  have ax := am hx hy
  have a1 : (1 : Int).natAbs ≤ 1 := Nat.le_refl _
  have axy := as' a1 ax
  have a1x := as' a1 hx
  have a1y := as' a1 hy
  have N2 : N * 65 ≤ 2 ^ 100 := Nat.le_trans (Nat.mul_le_mul_right _ hN) (by decide +kernel)
  have bw := am hw a1x
  generalize up ^ s = x at *
  generalize down ^ s = y at *
  refine ⟨?_,Nat.le_trans (am hw axy) (by simp +arith),Nat.le_trans (aa (am hb axy) (am bw a1y)) (by simp +arith)⟩
  have sx : small x = true := s100 (Nat.le_trans hx (by decide +kernel))
  have sy : small y = true := s100 (Nat.le_trans hy (by decide +kernel))
  have sw : small w = true := s100 (Nat.le_trans hw (Nat.le_trans hN (by decide +kernel)))
  have sb : small b = true := s100 (Nat.le_trans hb (Nat.le_trans hN (by decide +kernel)))
  have sxy : small (1 - x * y) = true := s100 (Nat.le_trans axy (by decide +kernel))
  have s1x : small (1 - x) = true := s100 (Nat.le_trans a1x (by decide +kernel))
  have s1y : small (1 - y) = true := s100 (Nat.le_trans a1y (by decide +kernel))
  have swx : small (w * (1 - x)) = true := s100 (Nat.le_trans bw N2)
  have exy : ∀ (σ : Sto),σ.get 9 = some (.int x) → σ.get 10 = some (.int y) → ((some (D.int 1)).bind fun a => ((σ.get 9).bind fun a => (σ.get 10).bind fun b => mulD a b).bind fun b => subD a b) = some (.int (1 - x * y)) := fun σ h h' => bind_of (x := .int 1) rfl (bind_of (bind_of h (bind_of h' (mul_is sx sy))) rfl)
  refine seqF_next (σ' := [some (.fz pg),some (.fz szs),some (.fz (.int up)),some (.fz (.int down)),some (.fz (.int less)),some (.fz tab),some (.fz (.int w)),some (.fz (.int b)),some (.fz (.int (s : Int))),some (.fz (.int x)),some (.fz (.int y))]) ?_ ?_
  · refine bind_of (x := [.fz (.int y),.fz (.int x)]) (map_of (x := [.fz (.int x),.fz (.int y)]) (bind_of (ex _ rfl rfl) ?_) rfl) rfl
    rw [if_pos (show (D.int x).flat = true from rfl)]
    refine map_of (x := [.fz (.int y)]) (bind_of (ey _ rfl rfl) ?_) rfl
    rw [if_pos (show (D.int y).flat = true from rfl)]
    rfl
  refine seqF_next (asgS_ok (d := .int (b * (1 - x * y) + w * (1 - x) * (1 - y))) ?_ rfl) ?_
  · refine bind_of (x := .int (b * (1 - x * y))) (bind_of (x := .int b) rfl (bind_of (x := .int (1 - x * y)) (exy _ rfl rfl) (mul_is sb sxy))) ?_
    refine bind_of (x := .int (w * (1 - x) * (1 - y))) ?_ rfl
    refine bind_of (x := .int (w * (1 - x))) (bind_of (x := .int w) rfl (bind_of (x := .int (1 - x)) (bind_of (x := .int 1) rfl (bind_of (x := .int x) rfl rfl)) (mul_is sw s1x))) ?_
    exact bind_of (x := .int (1 - y)) (bind_of (x := .int 1) rfl (bind_of (x := .int y) rfl rfl)) (mul_is swx s1y)
  · exact seqF_next (augS_ok (x := .int w) (y := .int (1 - x * y)) (d := .int (w * (1 - x * y))) rfl (exy _ rfl rfl) (mul_is sw sxy)) rfl
theorem f76 {page R : D} {sz : List Nat} {up down less : Int} {tab : List D} (hF : F72 [page] = some R) (hT : F74 [R,.int up,.int down] = some (.list tab)) (ht : tab ≠ []) (ht' : tab.length ≤ 100) (hsz : sz.length = 4) (hs : ∀ s ∈ sz,s ≤ 2) (hu : up.natAbs ≤ 8) (hd : down.natAbs ≤ 8) (hl : less.natAbs ≤ 2 ^ 40)
    (h0 : F75 [.list tab,.int 0] = some (.int (sz.foldl (wbStep up down) (1,0)).1)) (h1 : F75 [.list tab,.int less] = some (.int ((sz.foldl (wbStep up down) (1,0)).1 - less * ((sz.foldl (wbStep up down) (1,0)).1 + (sz.foldl (wbStep up down) (1,0)).2)))) :
    F76 [page,.list ((1 :: sz.map fun s => ((s : Nat) : Int)).map .int),.int up,.int down,.int less] = some (.bool true) := by
  show retF p76.1 (entry 11 [page,.list ((1 :: sz.map fun s => ((s : Nat) : Int)).map .int),.int up,.int down,.int less]) = _
  refine retF_of ?_
  unfold p76
  dsimp only
  generalize hD : D.list ((1 :: sz.map fun s => ((s : Nat) : Int)).map .int) = szs
  refine seqF_next (asgF_ok (d := .list tab) ?_) ?_
  · refine bind_of (x := [R,.int up,.int down]) (bind_of (x := R) (bind_of (x := [page]) rfl hF) rfl) hT
  refine seqF_next (σ' := [some (.fz page),some (.fz szs),some (.fz (.int up)),some (.fz (.int down)),some (.fz (.int less)),some (.fz (.list tab)),some (.fz (.int 1)),some (.fz (.int 0)),none,none,none]) rfl ?_
  refine seq_for (fun (a : (Int × Int) × Option Cell × Option Cell × Option Cell) => [some (.fz page),some (.fz szs),some (.fz (.int up)),some (.fz (.int down)),some (.fz (.int less)),some (.fz (.list tab)),some (.fz (.int a.1.1)),some (.fz (.int a.1.2)),a.2.1,a.2.2.1,a.2.2.2]) (fun s : Nat => .int (s : Int)) (fun a s => (wbStep up down a.1 s,some (.fz (.int (s : Int))),some (.fz (.int (up ^ s))),some (.fz (.int (down ^ s))))) (fun a l => (∀ s ∈ l,s ≤ 2) ∧ ∃ i,i + l.length = 4 ∧ a.1.1.natAbs ≤ 16384 ^ i ∧ a.1.2.natAbs ≤ 16384 ^ i) sz ((1,0),none,none,none) rfl ?_ ⟨hs,0,by simp [*],by decide,by decide⟩ ?_ ?_
  · refine bind_of (x := .list (sz.map fun s => .int ((s : Nat) : Int))) (bind_of (x := szs) rfl (bind_of (x := some 1) rfl (bind_of (x := none) rfl ?_))) rfl
    rw [← hD]
    show (if _ then _ else _) = _
    rw [if_pos (sz_ok (by rw [List.length_map,List.length_cons,List.length_map]; simp [*])),show (some (1 : Int)) = some ((1 : Nat) : Int) from rfl,pick_drop]
    rw [List.map_cons,List.drop_one,List.tail_cons,List.map_map]
    rfl
  · rintro ⟨⟨w,b⟩,c8,c9,c10⟩ s l ⟨hs',i,hi,hw,hb⟩
    rw [List.length_cons] at hi
    have hN : 16384 ^ i ≤ 2 ^ 60 := Nat.le_trans (Nat.pow_le_pow_right (by decide) (show i ≤ 4 by lia)) (by decide +kernel)
    refine ob_AA (f76_turn (pg := page) (szs := szs) (less := less) (tab := .list tab) (c9 := c9) (c10 := c10) hu hd (hs' s (.head _)) hw hb hN rfl) fun e e1 e2 => ?_
    refine ⟨e,fun q hq => hs' q (.tail _ hq),i + 1,by lia,?_,?_⟩
    · rw [Nat.pow_succ]; exact e1
    · rw [Nat.pow_succ]; exact e2
  have hfold : ∀ (l : List Nat) (a : (Int × Int) × Option Cell × Option Cell × Option Cell),(l.foldl (fun a s => (wbStep up down a.1 s,some (.fz (.int ((s : Nat) : Int))),some (.fz (.int (up ^ s))),some (.fz (.int (down ^ s))))) a).1 = l.foldl (wbStep up down) a.1 := fun l => by
    induction l with
    | nil => intro a; rfl
    | cons c l ih => intro a; exact ih _
  have e := hfold sz ((1,0),none,none,none)
  have hbd : ∀ (l : List Nat) (a : Int × Int) (i : Nat),(∀ s ∈ l,s ≤ 2) → i + l.length = 4 → a.1.natAbs ≤ 16384 ^ i → a.2.natAbs ≤ 16384 ^ i → (l.foldl (wbStep up down) a).1.natAbs ≤ 16384 ^ 4 ∧ (l.foldl (wbStep up down) a).2.natAbs ≤ 16384 ^ 4 := fun l => by
    induction l with
    | nil => intro a i _ hi h1 h2; rw [List.length_nil] at hi; rw [show i = 4 by exact hi] at h1 h2; exact ⟨h1,h2⟩
    | cons s l ih =>
      intro a i hs' hi hw hb
      rw [List.length_cons] at hi
      have hN : 16384 ^ i ≤ 2 ^ 60 := Nat.le_trans (Nat.pow_le_pow_right (by decide) (show i ≤ 4 by lia)) (by decide +kernel)
      refine ob_AA (f76_turn (pg := page) (szs := szs) (less := less) (tab := .list tab) (c9 := none) (c10 := none) hu hd (hs' s (.head _)) hw hb hN rfl) fun _ e1 e2 => ?_
      exact ih _ (i + 1) (fun q hq => hs' q (.tail _ hq)) (by lia) (by rw [Nat.pow_succ]; exact e1) (by rw [Nat.pow_succ]; exact e2)
  refine ob_A (hbd sz (1,0) 0 hs (by lia) (by decide) (by decide)) fun bw bb => ?_
  generalize sz.foldl (fun (a : (Int × Int) × Option Cell × Option Cell × Option Cell) (s : Nat) => (wbStep up down a.1 s,some (Cell.fz (.int (s : Int))),some (Cell.fz (.int (up ^ s))),some (Cell.fz (.int (down ^ s))))) ((1,0),none,none,none) = fin at e ⊢
  obtain ⟨⟨w,b⟩,c8,c9,c10⟩ := fin
  replace e : (w,b) = sz.foldl (wbStep up down) (1,0) := e
  rw [← e] at h0 h1 bw bb
  dsimp only at h0 h1 bw bb ⊢
  refine seqF_next (ifF_f ?_ rfl) ?_
  · refine bind_of (x := false) (map_of (x := true) (bind_of (x := .list tab) rfl ((truth_list (by lia)).trans ?_)) rfl) ?_
    · cases tab with
      | nil => exact absurd rfl ht
      | cons => rfl
    rw [cond_false]
    refine bind_of (x := false) (bind_of (x := .int w) (bind_of (x := [.list tab,.int 0]) rfl h0) (bind_of (x := .int w) rfl ?_)) rfl
    show some (!(w == w)) = _
    rw [beq_self_eq_true]; rfl
  · refine seqF_ret (map_of (x := .bool true) ?_ rfl)
    refine bind_of (x := .int (w - less * (w + b))) (bind_of (x := [.list tab,.int less]) rfl h1) ?_
    refine bind_of (x := .int (w - less * (w + b))) (bind_of (x := .int w) rfl (bind_of (x := .int (less * (w + b))) (bind_of (x := .int less) rfl (bind_of (x := .int (w + b)) rfl (mul_is (s100 (Nat.le_trans hl (by decide +kernel))) (s100 (Nat.le_trans (aa bw bb) (by decide +kernel)))))) rfl)) ?_
    show some (D.bool (w - less * (w + b) == w - less * (w + b))) = _
    rw [beq_self_eq_true]
end L
end
section
set_option exponentiation.threshold 3000
namespace L
noncomputable def isBy (o : Option D) (l : Tx) : Bool := match o with
  | some (.bytes b) => eqT (b.toList.map (·.toNat)) l
  | _ => false
theorem isBy_is {o : Option D} {l : Tx} (h : isBy o l = true) : ∃ b,o = some (.bytes b) ∧ b.toList.map (·.toNat) = l := by
  cases o with
  | none => cases h
  | some d => cases d with
    | bytes b => exact ⟨b,rfl,eqT_eq _ _ h⟩
    | _ => cases h
noncomputable def nameN (f s : Nat) : Tx := if s = 1 then [65 + f] else [65 + f,66 + f]
theorem i2a : ∀ f ∈ [1,2,3,4,5,6,7,8,9],isBy (F9 [.int (f : Nat)]) [65 + f] = true ∧ isBy (F9 [.int (-(f : Nat))]) [65 + f] = true ∧ isBy (F9 [.int (17 * f + 1 : Nat)]) [65 + f,66 + f] = true ∧ isBy (F9 [.int (-(17 * f + 1 : Nat))]) [65 + f,66 + f] = true := by decide +kernel
theorem i2a_nm {f s : Nat} (h1 : 1 ≤ f) (h9 : f ≤ 9) {num : Int} (hn : num = ((if s = 1 then f else 17 * f + 1 : Nat) : Int) ∨ num = -((if s = 1 then f else 17 * f + 1 : Nat) : Int)) : isBy (F9 [.int num]) (nameN f s) = true := by
  have m : f ∈ [1,2,3,4,5,6,7,8,9] := (by decide : ∀ k : Nat,k ≤ 9 → 1 ≤ k → k ∈ [1,2,3,4,5,6,7,8,9]) f h9 h1
  refine ob_AAA (i2a f m) fun a b c d => ?_
  unfold nameN
  by_cases hs : s = 1
  · rw [if_pos hs] at hn ⊢
    rcases hn with rfl | rfl
    · exact a
    · exact b
  · rw [if_neg hs] at hn ⊢
    rcases hn with rfl | rfl
    · exact c
    · exact d
theorem nm_join {l : Tx} (hl : l.length ≤ 10) (hc : ∀ c ∈ l,c ≤ 1000) {f : Sto → Option (List D)} {σ : Sto} {b : Array UInt8} (hf : f σ = some (octets b)) (hb : b.toList.map (·.toNat) = l) :
    ((some (D.str (Str.ofString ""))).bind fun x => (Option.map D.list (compF 1 [] f (bndName 0) (fun _ => some true) (fun σ => ((σ.get 0).bind fun d => Option.map (fun x => d :: x) (some [])).bind fChr) σ)).bind fun y => joinD x y) = some (dS l) := by
  have e : octets b = l.map fun c => .int ((c : Nat) : Int) := by
    rw [← hb,List.map_map]; rfl
  refine bind_of (x := .str (Str.ofString "")) rfl (bind_of (x := .list (l.map fun c => dS [c])) (map_of (x := l.map fun c => dS [c]) ?_ rfl) (join_one l (by exact Nat.le_trans (by assumption) (by decide))))
  refine (compF_ok (σ₀ := [none]) (bs := l) (w := fun c => .int ((c : Nat) : Int)) (o := fun c => some (dS [c])) (hf.trans (by rw [e])) (Nat.le_trans hl (by decide)) rfl fun c h => ?_).trans ?_
  · have hcc := hc c h
    refine bind_of (x := [some (.fz (.int (c : Int)))]) rfl (bind_of (x := true) rfl ?_)
    rw [if_pos rfl]
    refine map_of (x := dS [c]) (bind_of (x := [.int (c : Int)]) rfl ?_) rfl
    show (if _ then _ else _) = _
    rw [if_pos ⟨by exact Int.natCast_nonneg _,Int.le_trans (Int.ofNat_le.mpr hcc) (by decide)⟩,Int.toNat_natCast]
    rfl
  · exact congrArg some (congrFun List.filterMap_eq_map' l)
noncomputable def firstN (sz : List Nat) (i : Nat) : Nat := 2 + (sz.take i).sum
noncomputable def namesN (sz : List Nat) (i : Nat) : List Tx := [66] :: (List.range i).map fun j => nameN (firstN sz j) (sz.getD j 0)
theorem names_succ (sz : List Nat) (i : Nat) : (namesN sz (i + 1)).map dS = (namesN sz i).map dS ++ [dS (nameN (firstN sz i) (sz.getD i 0))] := by
  unfold namesN
  rw [List.range_succ,List.map_append,List.map_cons,List.map_cons,List.map_append]
  rfl
theorem sizes_idx {sz : List Nat} {i : Nat} (h : i < sz.length) (hn : sz.length ≤ 100) : idxD (.list ((1 :: sz.map fun s => ((s : Nat) : Int)).map .int)) (.int ((1 + i : Nat) : Int)) = some (.int ((sz.getD i 0 : Nat) : Int)) := by
  rw [idx_list (Nat.le_trans (Nat.add_le_add_left (Nat.le_trans (Nat.le_of_lt h) hn) 1) (by decide)),Nat.add_comm,List.map_cons,List.getElem?_cons_succ,List.map_map,List.getElem?_map,List.getElem?_eq_getElem h,List.getD_eq_getElem?_getD,List.getElem?_eq_getElem h]
  rfl
theorem nm_le {f s : Nat} (h : f ≤ 9) : (nameN f s).length ≤ 10 ∧ ∀ c ∈ nameN f s,c ≤ 1000 := by
  unfold nameN
  split
  · refine ⟨by show 1 ≤ 10; decide,fun c hc => ?_⟩
    simp only [List.mem_cons,List.not_mem_nil,or_false] at hc
    exact hc ▸ Nat.le_trans (Nat.add_le_add_left h 65) (by decide)
  · refine ⟨by show 2 ≤ 10; decide,fun c hc => ?_⟩
    simp only [List.mem_cons,List.not_mem_nil,or_false] at hc
    exact hc.elim (fun e => e ▸ Nat.le_trans (Nat.add_le_add_left h 65) (by decide)) fun e => e ▸ Nat.le_trans (Nat.add_le_add_left h 66) (by decide)
theorem sum_take {sz : List Nat} (h12 : ∀ s ∈ sz,s = 1 ∨ s = 2) : ∀ i,(sz.take i).sum ≤ 2 * i := by
  induction sz with
  | nil => intro i; simp
  | cons s sz ih =>
    intro i
    cases i with
    | zero => simp
    | succ i =>
      rw [List.take_succ_cons,List.sum_cons]
      exact Nat.le_trans (Nat.add_le_add ((h12 s (.head _)).elim (fun e => Nat.le_trans (Nat.le_of_eq e) (by decide)) Nat.le_of_eq) (ih (fun q hq => h12 q (.tail _ hq)) i)) (Nat.le_of_eq (Nat.add_comm 2 (2 * i)))
theorem sum_succ {sz : List Nat} {i : Nat} (h : i < sz.length) : (sz.take (i + 1)).sum = (sz.take i).sum + sz.getD i 0 := by
  rw [List.take_add_one,List.getElem?_eq_getElem h,List.getD_eq_getElem?_getD,List.getElem?_eq_getElem h,List.sum_append]
  simp
theorem f68 {ds : List Int} {sz : List Nat} (hd : ds.length = 4) (hs : sz.length = 4) (h12 : ∀ s ∈ sz,s = 1 ∨ s = 2) : F68 [.list (ds.map .int),.list ((1 :: sz.map fun s => ((s : Nat) : Int)).map .int)] = some (.list ((namesN sz 4).map dS)) := by
  show retF p68.1 (entry 7 [.list (ds.map .int),.list ((1 :: sz.map fun s => ((s : Nat) : Int)).map .int)]) = _
  refine retF_of ?_
  unfold p68
  dsimp only
  generalize hD : D.list ((1 :: sz.map fun s => ((s : Nat) : Int)).map .int) = szs
  refine seqF_next (σ' := [some (.fz (.list (ds.map .int))),some (.fz szs),some (.ow [dS [66]]),some (.fz (.int 2)),none,none,none]) ?_ ?_
  · refine ob_EA (isBy_is (i2a 1 (by decide)).1) fun b hb hl => ?_
    refine bind_of (x := [.fz (.int 2),.ow [dS [66]]]) (map_of (x := [.ow [dS [66]],.fz (.int 2)]) (bind_of (x := [dS [66]]) (bind_of (x := [dS [66]]) (bind_of (x := dS [66]) ?_ rfl) rfl) rfl) rfl) rfl
    exact nm_join (l := [66]) (by decide) (by decide) (bind_of (x := .bytes b) (bind_of (x := [.int 1]) rfl hb) rfl) hl
  refine seq_idx (ds := enumD 1 (ds.map .int)) (fun i σ => ∃ c4 c5 c6 : Option Cell,σ = [some (.fz (.list (ds.map .int))),some (.fz szs),some (.ow ((namesN sz i).map dS)),some (.fz (.int ((firstN sz i : Nat) : Int))),c4,c5,c6]) ?_ ⟨_,_,_,rfl⟩ ?_ ?_
  · exact bind_of (x := [.list (ds.map .int),.int 1]) rfl rfl
  · rintro i d σ hi ⟨c4,c5,c6,rfl⟩
    (refine ob_EA (enum_at hi) fun x hx z1q => ?_; obtain rfl := z1q)
    rw [List.getElem?_map] at hx
    (refine ob_EA (Option.map_eq_some_iff.mp hx) fun z hz z2q => ?_; obtain rfl := z2q)
    have hi4 : i < 4 := by rw [← hd]; exact (List.getElem?_eq_some_iff.mp hz).1
    have his : i < sz.length := by exact Nat.lt_of_lt_of_le (by assumption) (Internal.leq2 (by assumption))
    have hidx : idxD szs (.int ((1 + i : Nat) : Int)) = some (.int ((sz.getD i 0 : Nat) : Int)) := by rw [← hD]; exact sizes_idx his (by simp [*])
    have hsum := sum_take h12 i
    have hf : firstN sz i ≤ 9 := by unfold firstN; exact Nat.le_trans (Nat.add_le_add_left (Nat.le_trans hsum (Nat.mul_le_mul_left 2 (Nat.le_of_lt_succ hi4))) 2) (by decide)
    have hf1 : 1 ≤ firstN sz i := by unfold firstN; exact Nat.le_trans (by decide : 1 ≤ 2) (Nat.le_add_right _ _)
    have hg : sz.getD i 0 = 1 ∨ sz.getD i 0 = 2 := by
      rw [List.getD_eq_getElem?_getD,List.getElem?_eq_getElem his]; exact h12 _ (List.getElem_mem his)
    have hsucc : firstN sz (i + 1) = firstN sz i + sz.getD i 0 := by unfold firstN; rw [sum_succ his]; exact (Nat.add_assoc _ _ _).symm
    rw [hsucc,names_succ]
    generalize firstN sz i = f at *
    generalize sz.getD i 0 = s at *
    refine ex_bind (σ₁ := [some (.fz (.list (ds.map .int))),some (.fz szs),some (.ow ((namesN sz i).map dS)),some (.fz (.int (f : Int))),some (.fz (.int ((1 + i : Nat) : Int))),some (.fz (.int z)),c6]) rfl ?_
    refine ex_next (asgS_ok (d := .int ((if s = 1 then f else 17 * f + 1 : Nat) : Int)) ?_ rfl) ?_
    · by_cases h1 : s = 1
      · refine bind_of (x := true) (bind_of (x := .int (s : Int)) (bind_of (x := szs) rfl (bind_of (x := .int ((1 + i : Nat) : Int)) rfl hidx)) (bind_of (x := .int 1) rfl ?_)) ?_
        · rw [h1]; rfl
        · rw [if_pos h1]; rfl
      · refine bind_of (x := false) (bind_of (x := .int (s : Int)) (bind_of (x := szs) rfl (bind_of (x := .int ((1 + i : Nat) : Int)) rfl hidx)) (bind_of (x := .int 1) rfl ?_)) ?_
        · rw [show s = 2 from hg.resolve_left h1]; rfl
        · rw [if_neg h1,cond_false]
          refine bind_of (x := .int (17 * (f : Int))) (bind_of (x := .int 17) rfl (bind_of (x := .int (f : Int)) rfl (mul_is (s100 (by decide +kernel)) (s100 (Nat.le_trans (show f ≤ 9 from hf) (by decide +kernel)))))) ?_
          exact congrArg (fun z => some (D.int z)) (by rfl)
    have key : ∀ num : Int,(num = ((if s = 1 then f else 17 * f + 1 : Nat) : Int) ∨ num = -((if s = 1 then f else 17 * f + 1 : Nat) : Int)) → ∃ σ',seqF (appS 2 fun σ => (some (D.str (Str.ofString ""))).bind fun x => (Option.map D.list (compF 1 [] (fun σ => (((σ.get 6).bind fun d => Option.map (fun x => d :: x) (some [])).bind F9).bind seqD) (bndName 0) (fun _ => some true) (fun σ => ((σ.get 0).bind fun d => Option.map (fun x => d :: x) (some [])).bind fChr) σ)).bind fun y => joinD x y)
        (seqF (augS 3 iaddD fun σ => (σ.get 1).bind fun x => (σ.get 4).bind fun y => idxD x y) fun σ => some (PF.next σ)) [some (.fz (.list (ds.map .int))),some (.fz szs),some (.ow ((namesN sz i).map dS)),some (.fz (.int (f : Int))),some (.fz (.int ((1 + i : Nat) : Int))),some (.fz (.int z)),some (.fz (.int num))] = some (PF.next σ') ∧ ∃ c4 c5 c6 : Option Cell,σ' = [some (.fz (.list (ds.map .int))),some (.fz szs),some (.ow ((namesN sz i).map dS ++ [dS (nameN f s)])),some (.fz (.int ((f + s : Nat) : Int))),c4,c5,c6] := fun num hnum => by
      refine ob_EA (isBy_is (i2a_nm hf1 hf hnum)) fun b hb hl => ?_
      have hle := nm_le (s := s) hf
      refine ex_next (appS_ok (ds := (namesN sz i).map dS) (d := dS (nameN f s)) rfl ?_ rfl ?_) ?_
      · exact nm_join hle.1 hle.2 (bind_of (x := .bytes b) (bind_of (x := [.int num]) rfl hb) rfl) hl
      · unfold namesN; simp; exact Nat.le_trans (m := 4) (by solve_by_elim (maxDepth := 4) only [*,Nat.le_of_lt,Nat.le_trans,Nat.le_of_eq,Internal.leq2]) (by decide)
      · refine ex_next (augS_ok (x := .int (f : Int)) (y := .int (s : Int)) (d := .int ((f + s : Nat) : Int)) rfl (bind_of (x := szs) rfl (bind_of (x := .int ((1 + i : Nat) : Int)) rfl hidx)) ?_) ⟨_,rfl,_,_,_,rfl⟩
        exact congrArg (fun z => some (D.int z)) rfl
    have tst : ∃ t : Bool,(((some (D.int z)).bind fun x => ((some (D.int 2)).bind fun x => (some (D.int ((1 + i : Nat) : Int))).bind fun y => mulD x y).bind fun y => divD x y).bind fun x => (some (D.int 2)).bind fun y => modD x y).bind truthD = some t := by
      refine ⟨((Int.fmod (Int.fdiv z (2 * ((1 + i : Nat) : Int))) 2) != 0),?_⟩
      refine bind_of (x := .int (Int.fmod (Int.fdiv z (2 * ((1 + i : Nat) : Int))) 2)) (bind_of (x := .int (Int.fdiv z (2 * ((1 + i : Nat) : Int)))) (bind_of (x := .int z) rfl (bind_of (x := .int (2 * ((1 + i : Nat) : Int))) (bind_of (x := .int 2) rfl (bind_of (x := .int ((1 + i : Nat) : Int)) rfl (mul_is (s100 (by decide +kernel)) (s100 (Nat.le_trans (show 1 + i ≤ 4 from Nat.add_le_add_left (Nat.le_of_lt_succ hi4) 1) (by decide +kernel)))))) (div_is (Int.ne_of_gt (Int.ofNat_lt.mpr (Nat.mul_pos (by decide : 0 < 2) (Nat.lt_of_lt_of_le Nat.one_pos (Nat.le_add_right 1 i))))) (s100 (Nat.le_trans (show (2 * ((1 + i : Nat) : Int)).natAbs ≤ 8 from Nat.mul_le_mul_left 2 (Nat.add_le_add_left (Nat.le_of_lt_succ hi4) 1)) (by decide +kernel)))))) (bind_of (x := .int 2) rfl ?_)) rfl
      rw [modD_ii]; rw [if_pos (by decide)]
    (refine ob_E tst fun t ht => ?_; try clear tst)
    cases t with
    | true => exact ex_next (ifF_t ht (seqF_next (asgS_ok (d := .int (-((if s = 1 then f else 17 * f + 1 : Nat) : Int))) rfl rfl) rfl)) (key _ (.inr rfl))
    | false => exact ex_next (ifF_f ht rfl) (key _ (.inl rfl))
  · rintro σ ⟨c4,c5,c6,rfl⟩
    rw [enum_len,List.length_map,hd]
    exact seqF_ret rfl
end L
end
section
set_option exponentiation.threshold 3000
namespace L
noncomputable abbrev castL (l : List Nat) : List Int := l.map fun s => ((s : Nat) : Int)
noncomputable abbrev ilist (l : List Nat) : D := .list ((castL l).map .int)
noncomputable abbrev ilist' (l : List Nat) : List D := (castL l).map .int
theorem sum_cast : ∀ l : List Nat,(l.map fun s => ((s : Nat) : Int)).sum = ((l.sum : Nat) : Int)
  | [] => rfl
  | x :: l => by rw [List.map_cons,List.sum_cons,List.sum_cons,sum_cast l]; exact rfl
noncomputable def dueN (ns : List Tx) (hs : List Nat) : Nat → Nat → Tx
  | 0,_ => []
  | f + 1,n => [60] ++ ns.getD n [] ++ [62] ++ ((List.range (4 - n)).flatMap fun i => if hs.getD (n + 1 + i) 0 = n then dueN ns hs f (n + 1 + i) else []) ++ [60,47] ++ ns.getD n [] ++ [62]
theorem intsOf_map : ∀ l : List Int,intsOf (l.map .int) = some l
  | [] => rfl
  | x :: l => by
    show (intsOf (l.map .int)).map _ = _
    rw [intsOf_map l]; rfl
theorem il_idx {l : List Nat} {i : Nat} (h : i < l.length) (hn : l.length ≤ 100) : idxD (ilist l) (.int (i : Int)) = some (.int ((l.getD i 0 : Nat) : Int)) := by
  unfold ilist castL
  rw [idx_list (Nat.le_trans (Nat.le_trans (Nat.le_of_lt h) hn) (by decide)),List.map_map,List.getElem?_map,List.getElem?_eq_getElem h,List.getD_eq_getElem?_getD,List.getElem?_eq_getElem h]
  rfl
theorem abc : Str.ofString "ABCDEFGHIJ" = S caps := by decide +kernel
theorem ofLt : Str.ofString "<" = S [60] := by decide +kernel
theorem ofGt : Str.ofString ">" = S [62] := by decide +kernel
theorem ofLs : Str.ofString "</" = S [60,47] := by decide +kernel
theorem caps_cut : ∀ f ∈ [1,2,3,4,5,6,7,8],∀ s ∈ [1,2],(caps.drop f).take s = nameN f s := by decide +kernel
theorem cut_is {f s : Nat} (h : f + s ≤ 10) : Txt.slice (S caps) (some (f : Int)) (some (((f + s : Nat)) : Int)) = S ((caps.drop f).take s) := by
  rw [slice_S]
  have hl : caps.length = 10 := rfl
  have c : ∀ k : Nat,k ≤ 10 → clipN 10 (k : Int) = k := fun k hk => by
    unfold clipN
    rw [if_neg (Int.not_lt.mpr (Int.natCast_nonneg k)),Int.toNat_natCast]
    exact Nat.min_eq_left hk
  show S ((caps.drop (clipN 10 (f : Int))).take (clipN 10 ((f + s : Nat) : Int) - clipN 10 (f : Int))) = _
  rw [c f (Nat.le_trans (Nat.le_add_right f s) h),c (f + s) h,Nat.add_sub_cancel_left]
noncomputable def begN (sz : List Nat) (n : Nat) : Nat := 1 + ((1 :: sz).take n).sum
theorem names_get {sz : List Nat} (hs : sz.length = 4) (h12 : ∀ s ∈ sz,s = 1 ∨ s = 2) {n : Nat} (hn : n ≤ 4) : begN sz n + (1 :: sz).getD n 0 ≤ 10 ∧ (caps.drop (begN sz n)).take ((1 :: sz).getD n 0) = (namesN sz 4).getD n [] := by
  cases n with
  | zero => exact ⟨Nat.le_of_ble_eq_true rfl,rfl⟩
  | succ n =>
    have hb : begN sz (n + 1) = firstN sz n := by unfold begN firstN; rw [List.take_succ_cons,List.sum_cons]; exact (Nat.add_assoc 1 1 _).symm
    have hn4 : n < sz.length := by exact Nat.lt_of_lt_of_eq hn (id (Eq.symm hs))
    have hsum := sum_take h12 n
    have hg : sz.getD n 0 = 1 ∨ sz.getD n 0 = 2 := by
      rw [List.getD_eq_getElem?_getD,List.getElem?_eq_getElem hn4]; exact h12 _ (List.getElem_mem hn4)
    rw [hb,List.getD_cons_succ]
    have hf : firstN sz n ≤ 8 := by unfold firstN; exact Nat.add_le_add_left (Nat.le_trans hsum (Nat.mul_le_mul_left 2 (Nat.le_of_lt_succ hn))) 2
    have hf2 : 2 ≤ firstN sz n := by unfold firstN; exact Nat.le_add_right 2 (List.take n sz).sum
    have e : (namesN sz 4).getD (n + 1) [] = nameN (firstN sz n) (sz.getD n 0) := by
      unfold namesN
      rw [List.getD_cons_succ,List.getD_eq_getElem?_getD,List.getElem?_map,List.getElem?_range hn]
      rfl
    rw [e]
    refine ⟨Nat.add_le_add hf (hg.elim (fun h => Nat.le_trans (Nat.le_of_eq h) (by decide)) Nat.le_of_eq),caps_cut _ ?_ _ ?_⟩
    · exact (by decide : ∀ k : Nat,k ≤ 8 → 2 ≤ k → k ∈ [1,2,3,4,5,6,7,8]) _ hf hf2
    · rcases hg with h | h <;> rw [h] <;> decide
theorem frange_n {n : Nat} (h : n ≤ 4) : fRange [.int ((n : Int) + 1),.int 5] = some ((List.range (4 - n)).map fun i => .int ((n + 1 + i : Nat) : Int)) := by
  have h2 : -(2 ^ 31) ≤ (n : Int) + 1 ∧ (n : Int) + 1 < 2 ^ 31 ∧ -(2 ^ 31) ≤ (5 : Int) ∧ (5 : Int) < 2 ^ 31 := ⟨by exact Int.NonNeg.mk (n + 1 + Nat.succ 2147483647),Int.lt_of_le_of_lt (b := 5) (Int.ofNat_le.mpr (Nat.succ_le_succ h)) (by decide),by decide,by decide⟩
  unfold fRange
  dsimp only
  rw [if_pos h2]
  unfold rangeL
  rw [show ((5 : Int) - ((n : Int) + 1)).toNat = 4 - n from (congrArg Int.toNat (ar_k5 h)).symm]
  exact congrArg some (List.map_congr_left fun i _ => congrArg D.int (by rfl))
theorem names_len {sz : List Nat} (n : Nat) (hs : sz.length = 4) (h12 : ∀ s ∈ sz,s = 1 ∨ s = 2) (hn : n ≤ 4) : ((namesN sz 4).getD n []).length ≤ 2 := by
  rw [← (names_get hs h12 hn).2,List.length_take]
  have : (1 :: sz).getD n 0 ≤ 2 := by
    rw [List.getD_eq_getElem?_getD,List.getElem?_eq_getElem (by rw [List.length_cons,hs]; exact Nat.lt_succ_of_le hn)]
    rcases List.mem_cons.mp (List.getElem_mem (l := 1 :: sz) (n := n) (by rw [List.length_cons,hs]; exact Nat.lt_succ_of_le hn)) with h | h
    · rw [Option.getD_some,h]; decide
    · rw [Option.getD_some]; exact (h12 _ h).elim (fun h => Nat.le_trans (Nat.le_of_eq h) (by decide)) Nat.le_of_eq
  exact Nat.le_trans (Nat.min_le_left ((1 :: sz).getD n 0) (List.drop (begN sz n) caps).length) this
theorem flat_if {α : Type} (p : α → Bool) (g : α → Tx) (l : List α) : ((l.filter p).map g).flatten = l.flatMap fun x => if p x then g x else [] := by
  induction l with
  | nil => rfl
  | cons c l ih =>
    rw [List.filter_cons,List.flatMap_cons]
    by_cases h : p c = true
    · rw [if_pos h,if_pos h,List.map_cons,List.flatten_cons,ih]
    · rw [if_neg h,if_neg h,ih,List.nil_append]
theorem ar_pg {N X B : Nat} (h : X + 9 * 2 ^ 0 ≤ B) (nl : N ≤ 2) : 0 + 1 + N + (0 + 1) + X + (0 + 1 + 1) + N + (0 + 1) ≤ B :=
  Nat.le_trans (Nat.add_le_add_right (Nat.add_le_add (Nat.add_le_add_right (Nat.add_le_add_right (Nat.add_le_add_right (Nat.add_le_add_left nl _) _) _) _) nl) _) (Nat.le_trans (Nat.le_of_eq (congrArg (· + 5) (Nat.add_comm 4 X))) h)
theorem due_len {sz hs : List Nat} (hz : sz.length = 4) (h12 : ∀ s ∈ sz,s = 1 ∨ s = 2) : ∀ (k n : Nat),n ≤ 4 → (dueN (namesN sz 4) hs k n).length ≤ 9 * 2 ^ (4 - n)
  | 0,n,_ => by unfold dueN; exact Nat.zero_le _
  | k + 1,n,hn => by
    have key : ∀ i,i ≤ 4 - n → ((List.range i).flatMap fun i => if hs.getD (n + 1 + i) 0 = n then dueN (namesN sz 4) hs k (n + 1 + i) else []).length + 9 * 2 ^ (4 - n - i) ≤ 9 * 2 ^ (4 - n) := by
      intro i
      induction i with
      | zero => intro _; simp
      | succ i ih =>
        intro hi
        have ih := ih (by exact Nat.le_of_lt (by assumption))
        rw [List.range_succ,List.flatMap_append,List.length_append,List.flatMap_singleton]
        have : (if hs.getD (n + 1 + i) 0 = n then dueN (namesN sz 4) hs k (n + 1 + i) else []).length ≤ 9 * 2 ^ (4 - n - (i + 1)) := by
          split
          · have := due_len (hs := hs) hz h12 k (n + 1 + i) (ar_i4 (by assumption) (by assumption))
            rw [show 4 - (n + 1 + i) = 4 - n - (i + 1) from ar_s3] at this
            exact this
          · exact Nat.zero_le _
        have e : 2 ^ (4 - n - i) = 2 * 2 ^ (4 - n - (i + 1)) := by rw [show 4 - n - i = (4 - n - (i + 1)) + 1 from ar_ss (by assumption),Nat.pow_succ,Nat.mul_comm]
        exact ar_kl ih e this
    have h := key (4 - n) (Nat.le_refl _)
    rw [Nat.sub_self] at h
    have nl := names_len n hz h12 hn
    unfold dueN
    simp only [List.length_append,List.length_cons,List.length_nil]
    exact ar_pg h nl
theorem add_S {a b : Tx} (h : a.length + b.length ≤ 10000) : addD (dS a) (dS b) = some (dS (a ++ b)) := by
  show (if _ then _ else _) = _
  rw [S_len,S_len,if_pos (sz h),S_app]; rfl
theorem pre_le {a b : Tx} {n : Nat} (h : (a ++ b).length ≤ n) : a.length ≤ n := Nat.le_trans (List.length_append ▸ Nat.le_add_right _ _) h
theorem suf_le {a b : Tx} {n : Nat} (h : (a ++ b).length ≤ n) : b.length ≤ n := Nat.le_trans (List.length_append ▸ Nat.le_add_left _ _) h
theorem add_T {a b : Tx} (h : (a ++ b).length ≤ 10000) : addD (dS a) (dS b) = some (dS (a ++ b)) := add_S (List.length_append ▸ h)
theorem f70 {sz hs : List Nat} (hz : sz.length = 4) (h12 : ∀ s ∈ sz,s = 1 ∨ s = 2) (hh : hs.length = 5) : ∀ (k n : Nat),n ≤ 4 → 5 - n ≤ k → F70 k [ilist hs,ilist (1 :: sz),.int (n : Int)] = some (dS (dueN (namesN sz 4) hs k n))
  | 0,n,hn,hk => (ar_p hn hk).elim
  | k + 1,n,hn,hk => by
    have hcut := names_get hz h12 hn
    have hnl := names_len n hz h12 hn
    have hkid : ∀ i,i < 4 - n → F70 k [ilist hs,ilist (1 :: sz),.int ((n + 1 + i : Nat) : Int)] = some (dS (dueN (namesN sz 4) hs k (n + 1 + i))) := fun i hi => f70 hz h12 hh k (n + 1 + i) (ar_i4 hn hi) (ar_f hn hk (Nat.le_add_right _ _))
    have hdl := due_len (hs := hs) hz h12 (k + 1) n hn
    have h2 : 9 * 2 ^ (4 - n) ≤ 9 * 2 ^ 4 := Nat.mul_le_mul_left _ (Nat.pow_le_pow_right (by decide) (by exact Nat.sub_le _ _))
    show retF (p70.1 (F70 k)) (entry 6 [ilist hs,ilist (1 :: sz),.int (n : Int)]) = _
    refine retF_of ?_
    unfold p70
    dsimp only
    generalize F70 k = G at hkid ⊢
    unfold dueN at hdl ⊢
    generalize hkids : ((List.range (4 - n)).flatMap fun i => if hs.getD (n + 1 + i) 0 = n then dueN (namesN sz 4) hs k (n + 1 + i) else []) = kids at hdl ⊢
    generalize hnm : (namesN sz 4).getD n [] = nm at *
    refine seqF_next (asgS_ok (d := .int ((begN sz n : Nat) : Int)) ?_ rfl) ?_
    · refine bind_of (x := .int 1) rfl (bind_of (x := .int ((((1 :: sz).take n).sum : Nat) : Int)) (bind_of (x := [.list ((ilist' (1 :: sz)).take n)]) (bind_of (x := .list ((ilist' (1 :: sz)).take n)) (bind_of (x := ilist (1 :: sz)) rfl (bind_of (x := none) rfl (bind_of (x := some (n : Int)) rfl ?_))) rfl) ?_) ?_)
      · show (if _ then _ else _) = _
        rw [pick_take,if_pos (Internal.L.sz (by simp; simp [*]))]
      · show (intsOf _).map _ = _
        unfold ilist'
        rw [← List.map_take,intsOf_map, ← List.map_take]
        exact congrArg (fun z => some (D.int z)) (sum_cast _)
      · exact congrArg (fun z => some (D.int z)) (by unfold begN; rfl)
    refine seqF_next (asgS_ok (d := dS nm) ?_ rfl) ?_
    · refine bind_of (x := .str (Str.ofString "ABCDEFGHIJ")) rfl (bind_of (x := some ((begN sz n : Nat) : Int)) rfl (bind_of (x := some ((begN sz n + (1 :: sz).getD n 0 : Nat) : Int)) (bind_of (x := .int ((begN sz n + (1 :: sz).getD n 0 : Nat) : Int)) (bind_of (x := .int ((begN sz n : Nat) : Int)) rfl (bind_of (x := .int (((1 :: sz).getD n 0 : Nat) : Int)) (bind_of (x := ilist (1 :: sz)) rfl (bind_of (x := .int (n : Int)) rfl ?_)) ?_)) rfl) ?_))
      · exact il_idx (by rw [List.length_cons]; simp +arith [*]) (by rw [List.length_cons]; simp [*])
      · exact congrArg (fun z => some (D.int z)) rfl
      · rw [abc]
        unfold sliceD
        dsimp only
        rw [S_len,if_pos (Internal.L.sz (by decide)),cut_is hcut.1,hcut.2]
        rfl
    refine seqF_next (asgO_ok (d := (((List.range (4 - n)).filter fun i => hs.getD (n + 1 + i) 0 == n).map fun i => dueN (namesN sz 4) hs k (n + 1 + i)).map dS) ?_) ?_
    · refine (compF_ok (σ₀ := [none,some (.fz (ilist hs)),some (.fz (ilist (1 :: sz))),some (.fz (.int (n : Int)))]) (bs := List.range (4 - n)) (w := fun i => .int ((n + 1 + i : Nat) : Int)) (o := fun i => if (hs.getD (n + 1 + i) 0 == n) = true then some (dS (dueN (namesN sz 4) hs k (n + 1 + i))) else none) ?_ (by rw [List.length_range]; exact Nat.le_trans (Nat.sub_le 4 n) (by decide)) rfl fun i hi => ?_).trans ?_
      · refine bind_of (x := [.int ((n : Int) + 1),.int 5]) rfl ?_
        exact frange_n hn
      · rw [List.mem_range] at hi
        refine bind_of (x := [some (.fz (.int ((n + 1 + i : Nat) : Int))),some (.fz (ilist hs)),some (.fz (ilist (1 :: sz))),some (.fz (.int (n : Int)))]) rfl ?_
        refine bind_of (x := hs.getD (n + 1 + i) 0 == n) (bind_of (x := .int ((hs.getD (n + 1 + i) 0 : Nat) : Int)) (bind_of (x := ilist hs) rfl (bind_of (x := .int ((n + 1 + i : Nat) : Int)) rfl ?_)) (bind_of (x := .int (n : Int)) rfl ?_)) ?_
        · exact il_idx (by rw [hh]; exact Nat.lt_succ_of_le (ar_i4 hn (by assumption))) (Nat.le_trans (Nat.le_of_eq hh) (by decide))
        · show some (((hs.getD (n + 1 + i) 0 : Nat) : Int) == (n : Int)) = _
          congr 1
          by_cases h : hs.getD (n + 1 + i) 0 = n
          · rw [h]; simp
          · rw [beq_eq_false_iff_ne.mpr h,beq_eq_false_iff_ne]; exact fun q => h (Int.ofNat.inj q)
        · by_cases h : (hs.getD (n + 1 + i) 0 == n) = true
          · rw [if_pos h,if_pos h]
            exact map_of (bind_of (x := [ilist hs,ilist (1 :: sz),.int ((n + 1 + i : Nat) : Int)]) rfl (hkid i hi)) rfl
          · rw [if_neg h,if_neg h]
      · rw [filterMap_if,List.map_map]
        rfl
    have hfl : (((List.range (4 - n)).filter fun i => hs.getD (n + 1 + i) 0 == n).map fun i => dueN (namesN sz 4) hs k (n + 1 + i)).flatten = kids := by
      rw [flat_if, ← hkids]
      congr 1
      funext i
      by_cases h : hs.getD (n + 1 + i) 0 = n
      · rw [if_pos h,if_pos (by simpa using h)]
      · rw [if_neg h,if_neg (by simpa using h)]
    refine seqF_ret (map_of (x := dS ([60] ++ nm ++ [62] ++ kids ++ [60,47] ++ nm ++ [62])) ?_ rfl)
    rw [ofLt,ofGt,ofLs]
    have l6 := Nat.le_trans hdl (Nat.le_trans h2 (by decide : _ ≤ 10000))
    have l5 := pre_le l6
    have l4 := pre_le l5
    have l3 := pre_le l4
    have l2 := pre_le l3
    refine bind_of (x := dS ([60] ++ nm ++ [62] ++ kids ++ [60,47] ++ nm)) ?_ (bind_of (x := dS [62]) rfl (add_T l6))
    refine bind_of (x := dS ([60] ++ nm ++ [62] ++ kids ++ [60,47])) ?_ (bind_of (x := dS nm) rfl (add_T l5))
    refine bind_of (x := dS ([60] ++ nm ++ [62] ++ kids)) ?_ (bind_of (x := dS [60,47]) rfl (add_T l4))
    refine bind_of (x := dS ([60] ++ nm ++ [62])) ?_ (bind_of (x := dS kids) (bind_of (x := .str (Str.ofString "")) rfl (bind_of (x := .list _) rfl ((join_dS _ (hfl ▸ suf_le l3)).trans (by rw [hfl])))) (add_T l3))
    refine bind_of (x := dS ([60] ++ nm)) ?_ (bind_of (x := dS [62]) rfl (add_T l2))
    exact bind_of (x := dS [60]) rfl (bind_of (x := dS nm) rfl (add_T (pre_le l2)))
end L
end
namespace L
noncomputable def V.one : V := ⟨1,1,1,1,1⟩
noncomputable def V.sub (v : V) (s : Int) : V := ⟨v.x0 - s,v.x1 - s,v.x2 - s,v.x3 - s,v.x4 - s⟩
noncomputable def C5 (a b c d e : V) : Int := M5 V.one b c d e + M5 a V.one c d e + M5 a b V.one d e + M5 a b c V.one e + M5 a b c d V.one
abbrev E := Lean.Grind.CommRing.Expr
noncomputable abbrev den (c : Lean.RArray Int) (e : E) : Int := e.denote c
theorem poly (c : Lean.RArray Int) (a b : E) (h : a.toPoly_k.beq' b.toPoly_k = true) : den c a = den c b := by
  have h1 : a.toPoly = b.toPoly := by
    rw [Lean.Grind.CommRing.Poly.beq'_eq] at h
    simpa using h
  unfold den
  rw [← Lean.Grind.CommRing.Expr.denote_toPoly,h1,Lean.Grind.CommRing.Expr.denote_toPoly]
structure VE where
  (x0 x1 x2 x3 x4 : E)
noncomputable def mE (a b : E) : E := .mul a b
noncomputable def sE (a b : E) : E := .sub a b
noncomputable def aE (a b : E) : E := .add a b
noncomputable def nE (k : Int) : E := .num k
noncomputable def d3E (a0 a1 a2 b0 b1 b2 c0 c1 c2 : E) : E := aE (sE (mE a0 (sE (mE b1 c2) (mE b2 c1))) (mE a1 (sE (mE b0 c2) (mE b2 c0)))) (mE a2 (sE (mE b0 c1) (mE b1 c0)))
noncomputable def xE (a b c d : E) : E := sE (mE a b) (mE c d)
noncomputable def M5E (a b c d r : VE) : E :=
  aE (aE (aE (sE (sE (sE (sE (sE (sE (mE (d3E a.x0 a.x1 a.x2 b.x0 b.x1 b.x2 c.x0 c.x1 c.x2) (xE d.x3 r.x4 r.x3 d.x4))
  (mE (d3E a.x3 a.x1 a.x2 b.x3 b.x1 b.x2 c.x3 c.x1 c.x2) (xE d.x0 r.x4 r.x0 d.x4))) (mE (d3E a.x0 a.x3 a.x2 b.x0 b.x3 b.x2 c.x0 c.x3 c.x2) (xE d.x1 r.x4 r.x1 d.x4))) (mE (d3E a.x0 a.x1 a.x3 b.x0 b.x1 b.x3 c.x0 c.x1 c.x3) (xE d.x2 r.x4 r.x2 d.x4)))
  (mE (d3E a.x4 a.x1 a.x2 b.x4 b.x1 b.x2 c.x4 c.x1 c.x2) (xE d.x3 r.x0 r.x3 d.x0))) (mE (d3E a.x0 a.x4 a.x2 b.x0 b.x4 b.x2 c.x0 c.x4 c.x2) (xE d.x3 r.x1 r.x3 d.x1))) (mE (d3E a.x0 a.x1 a.x4 b.x0 b.x1 b.x4 c.x0 c.x1 c.x4) (xE d.x3 r.x2 r.x3 d.x2)))
  (mE (d3E a.x3 a.x4 a.x2 b.x3 b.x4 b.x2 c.x3 c.x4 c.x2) (xE d.x0 r.x1 r.x0 d.x1))) (mE (d3E a.x3 a.x1 a.x4 b.x3 b.x1 b.x4 c.x3 c.x1 c.x4) (xE d.x0 r.x2 r.x0 d.x2))) (mE (d3E a.x0 a.x3 a.x4 b.x0 b.x3 b.x4 c.x0 c.x3 c.x4) (xE d.x1 r.x2 r.x1 d.x2))
noncomputable def VE.d (c : Lean.RArray Int) (v : VE) : V := ⟨den c v.x0,den c v.x1,den c v.x2,den c v.x3,den c v.x4⟩
noncomputable def VE.one : VE := ⟨nE 1,nE 1,nE 1,nE 1,nE 1⟩
noncomputable def C5E (a b c d e : VE) : E := aE (aE (aE (aE (M5E VE.one b c d e) (M5E a VE.one c d e)) (M5E a b VE.one d e)) (M5E a b c VE.one e)) (M5E a b c d VE.one)
noncomputable def rw5 (i : Nat) : VE := ⟨.var i,.var (i + 1),.var (i + 2),.var (i + 3),.var (i + 4)⟩
noncomputable def VE.sub (v : VE) (s : E) : VE := ⟨sE v.x0 s,sE v.x1 s,sE v.x2 s,sE v.x3 s,sE v.x4 s⟩
noncomputable def tr5 (i : Nat) (v : V) (r : Lean.RArray Int) : Lean.RArray Int := .branch (i + 1) (.leaf v.x0) (.branch (i + 2) (.leaf v.x1) (.branch (i + 3) (.leaf v.x2) (.branch (i + 4) (.leaf v.x3) (.branch (i + 5) (.leaf v.x4) r))))
theorem det_chk : (M5E ((rw5 0).sub (.var 25)) ((rw5 5).sub (.var 25)) ((rw5 10).sub (.var 25)) ((rw5 15).sub (.var 25)) ((rw5 20).sub (.var 25))).toPoly_k.beq' (sE (M5E (rw5 0) (rw5 5) (rw5 10) (rw5 15) (rw5 20)) (mE (.var 25) (C5E (rw5 0) (rw5 5) (rw5 10) (rw5 15) (rw5 20)))).toPoly_k = true := by
  decide +kernel
theorem det_sub (a b c d e : V) (s : Int) : M5 (a.sub s) (b.sub s) (c.sub s) (d.sub s) (e.sub s) = M5 a b c d e - s * C5 a b c d e :=
  poly (tr5 0 a (tr5 5 b (tr5 10 c (tr5 15 d (tr5 20 e (.leaf s)))))) _ _ det_chk
noncomputable def ancN (hs : List Nat) : Nat → Nat → List Nat
  | 0,_ => []
  | f + 1,v => bif Nat.beq v 0 then [] else v :: ancN hs f (hs.getD v 0)
noncomputable def ordN (hs : List Nat) : Nat → Nat → List Nat
  | 0,_ => []
  | f + 1,v => v :: (List.range (4 - v)).flatMap fun i => bif Nat.beq (hs.getD (v + 1 + i) 0) v then ordN hs f (v + 1 + i) else []
noncomputable def upN (hs : List Nat) (i j : Nat) : List Nat :=
  (ancN hs 5 ((ordN hs 5 0).getD i 0)).filter fun v => !(ancN hs 5 ((ordN hs 5 0).getD j 0)).any fun w => Nat.beq v w
noncomputable def upTab (hs : List Nat) : List (List (List Nat × List Nat)) := (List.range 5).map fun i => (List.range 5).map fun j => (upN hs i j,upN hs j i)
noncomputable def prodL (x : Nat → Int) : List Nat → Int
  | [] => 1
  | v :: r => x v * prodL x r
noncomputable def toV : List Int → V
  | [a,b,c,d,e] => ⟨a,b,c,d,e⟩
  | _ => ⟨0,0,0,0,0⟩
noncomputable def rowsV (x y : Nat → Int) (t : List (List (List Nat × List Nat))) : List V := t.map fun row => toV (row.map fun p => prodL x p.1 * prodL y p.2)
noncomputable def C5L : List V → Int
  | [a,b,c,d,e] => C5 a b c d e
  | _ => 0
noncomputable def WW (x y : Nat → Int) : Int := (1 - x 1 * y 1) * (1 - x 2 * y 2) * (1 - x 3 * y 3) * (1 - x 4 * y 4)
noncomputable def WB (x y : Nat → Int) : Int := (((1 - x 1) * (1 - y 1) * (1 - x 2 * y 2) + (1 - x 1 * y 1) * (1 - x 2) * (1 - y 2)) * (1 - x 3 * y 3) + (1 - x 1 * y 1) * (1 - x 2 * y 2) * (1 - x 3) * (1 - y 3)) * (1 - x 4 * y 4) + (1 - x 1 * y 1) * (1 - x 2 * y 2) * (1 - x 3 * y 3) * (1 - x 4) * (1 - y 4)
noncomputable def prodE (k : Nat) : List Nat → E
  | [] => nE 1
  | v :: r => mE (.var (k + v)) (prodE k r)
noncomputable def toVE : List E → VE
  | [a,b,c,d,e] => ⟨a,b,c,d,e⟩
  | _ => ⟨nE 0,nE 0,nE 0,nE 0,nE 0⟩
noncomputable def rowsE (t : List (List (List Nat × List Nat))) : List VE := t.map fun row => toVE (row.map fun p => mE (prodE 0 p.1) (prodE 5 p.2))
noncomputable def det5E : List VE → E
  | [a,b,c,d,e] => M5E a b c d e
  | _ => nE 0
noncomputable def C5LE : List VE → E
  | [a,b,c,d,e] => C5E a b c d e
  | _ => nE 0
noncomputable def tr (x : Nat → Int) (r : Lean.RArray Int) (k : Nat) : Lean.RArray Int := .branch (k + 1) (.leaf (x 0)) (.branch (k + 2) (.leaf (x 1)) (.branch (k + 3) (.leaf (x 2)) (.branch (k + 4) (.leaf (x 3)) (.branch (k + 5) (.leaf (x 4)) r))))
noncomputable def cxy (x y : Nat → Int) : Lean.RArray Int := tr x (tr y (.leaf 0) 5) 0
noncomputable def omE (v : Nat) : E := sE (nE 1) (mE (.var v) (.var (5 + v)))
noncomputable def opE (v : Nat) : E := sE (nE 1) (.var v)
noncomputable def WWE : E := mE (mE (mE (omE 1) (omE 2)) (omE 3)) (omE 4)
noncomputable def WBE : E := aE (mE (aE (mE (aE (mE (mE (opE 1) (opE 6)) (omE 2)) (mE (mE (omE 1) (opE 2)) (opE 7))) (omE 3)) (mE (mE (mE (omE 1) (omE 2)) (opE 3)) (opE 8))) (omE 4)) (mE (mE (mE (mE (omE 1) (omE 2)) (omE 3)) (opE 4)) (opE 9))
theorem mulc {a b c d : Int} (h : a = b) (k : c = d) : a * c = b * d := by rw [h,k]
theorem prodE_den (x y : Nat → Int) : ∀ l : List Nat,l.all (Nat.blt · 5) = true → den (cxy x y) (prodE 0 l) = prodL x l ∧ den (cxy x y) (prodE 5 l) = prodL y l
  | [],_ => ⟨rfl,rfl⟩
  | v :: r,h => by
    rw [List.all_cons,Bool.and_eq_true] at h
    have ⟨i,j⟩ := prodE_den x y r h.2
    have e : den (cxy x y) (.var (0 + v)) = x v ∧ den (cxy x y) (.var (5 + v)) = y v := by
      match v,h.1 with
      | 0,_ | 1,_ | 2,_ | 3,_ | 4,_ => exact ⟨rfl,rfl⟩
    exact ⟨mulc e.1 i,mulc e.2 j⟩
theorem toVE_d (c : Lean.RArray Int) : ∀ l : List E,(toVE l).d c = toV (l.map (den c))
  | [] | [_] | [_,_] | [_,_,_] | [_,_,_,_] | [_,_,_,_,_] | _ :: _ :: _ :: _ :: _ :: _ :: _ => rfl
theorem det5E_den (c : Lean.RArray Int) : ∀ l : List VE,den c (det5E l) = det5 (l.map (VE.d c)) ∧ den c (C5LE l) = C5L (l.map (VE.d c))
  | [] | [_] | [_,_] | [_,_,_] | [_,_,_,_] | [_,_,_,_,_] | _ :: _ :: _ :: _ :: _ :: _ :: _ => ⟨rfl,rfl⟩
noncomputable def okT (t : List (List (List Nat × List Nat))) : Bool := t.all fun row => row.all fun p => p.1.all (Nat.blt · 5) && p.2.all (Nat.blt · 5)
theorem rowsE_d (x y : Nat → Int) (t : List (List (List Nat × List Nat))) (h : okT t = true) : (rowsE t).map (VE.d (cxy x y)) = rowsV x y t := by
  unfold rowsE rowsV
  rw [List.map_map]
  refine List.map_congr_left fun row hr => ?_
  rw [Function.comp_apply,toVE_d,List.map_map]
  refine congrArg toV (List.map_congr_left fun p hp => ?_)
  have k := List.all_eq_true.mp (List.all_eq_true.mp h row hr) p hp
  rw [Bool.and_eq_true] at k
  exact mulc (prodE_den x y p.1 k.1).1 (prodE_den x y p.2 k.2).2
noncomputable def chkH (hs : List Nat) : Bool := okT (upTab hs) && ((det5E (rowsE (upTab hs))).toPoly_k.beq' WWE.toPoly_k && (C5LE (rowsE (upTab hs))).toPoly_k.beq' (aE WWE WBE).toPoly_k)
noncomputable def allH : List (List Nat) := [[0,0,0,0,0], [0,0,0,0,1], [0,0,0,0,2], [0,0,0,0,3], [0,0,0,1,0], [0,0,0,1,1], [0,0,0,1,2], [0,0,0,1,3], [0,0,0,2,0], [0,0,0,2,1], [0,0,0,2,2], [0,0,0,2,3], [0,0,1,0,0], [0,0,1,0,1], [0,0,1,0,2], [0,0,1,0,3], [0,0,1,1,0], [0,0,1,1,1], [0,0,1,1,2], [0,0,1,1,3], [0,0,1,2,0], [0,0,1,2,1], [0,0,1,2,2], [0,0,1,2,3]]
theorem hosts_chk : allH.all chkH = true := by decide +kernel
theorem det_all (x y : Nat → Int) : ∀ hs ∈ allH,det5 (rowsV x y (upTab hs)) = WW x y ∧ C5L (rowsV x y (upTab hs)) = WW x y + WB x y := by
  intro hs h
  have k := List.all_eq_true.mp hosts_chk hs h
  unfold chkH at k
  rw [Bool.and_eq_true,Bool.and_eq_true] at k
  rw [← rowsE_d x y _ k.1, ← (det5E_den _ _).1, ← (det5E_den _ _).2,poly _ _ _ k.2.1,poly _ _ _ k.2.2]
  exact ⟨rfl,rfl⟩
end L
section
set_option exponentiation.threshold 3000
namespace L
noncomputable def sumZ (sz l : List Nat) : Nat := (l.map fun v => sz.getD (v - 1) 0).sum
noncomputable def EE (hs sz : List Nat) (i j : Nat) : Nat × Nat := (sumZ sz (upN hs i j),sumZ sz (upN hs j i))
noncomputable def r0 : RS := ⟨[], [], [],false⟩
noncomputable def roadsOf (page : Tx) : List Tx := (page.foldl RS.step r0).roads
noncomputable def nodupB : Tx → Bool
  | [] => true
  | c :: l => !(l.any fun d => Nat.beq c d) && nodupB l
noncomputable def capB (l : Tx) : Bool := l.all fun c => Nat.ble 65 c && Nat.ble c 74
noncomputable def leadB (roads ws : List Tx) (E : Nat → Nat → Nat × Nat) : Bool :=
  (List.range 5).all fun i => (List.range 5).all fun j =>
    Nat.beq (dist ws i j) ((E i j).1 + (E i j).2) && (Nat.beq (dist ws i j + (roads.getD i []).length) ((roads.getD j []).length + 2 * (E i j).1) && (Nat.ble (E i j).1 20 && Nat.ble (E i j).2 20))
noncomputable def chk2 (roads : List Tx) (letters : Tx) (E : Nat → Nat → Nat × Nat) : Bool :=
  Nat.beq roads.length 5 && (roads.all (fun r => Nat.ble r.length 100 && capB r) && (Nat.ble letters.length 40 && (nodupB letters && (capB letters && leadB roads (roads.map (wordOf letters)) E))))
noncomputable def chk1 (page : Tx) (E : Nat → Nat → Nat × Nat) : Bool :=
  okPage page && (Nat.ble page.length 1000 && (okR r0 page && chk2 (roadsOf page) ((roadsOf page).foldl lets []) E))
noncomputable def chk (hs sz : List Nat) : Bool := chk1 (dueN (namesN sz 4) hs 5 0) (EE hs sz)
theorem beq_is {a b : Nat} (h : Nat.beq a b = true) : a = b := Nat.eq_of_beq_eq_true h
theorem nodupB_is : ∀ {l : Tx},nodupB l = true → l.Nodup
  | [],_ => List.nodup_nil
  | c :: l,h => by
    unfold nodupB at h
    rw [Bool.and_eq_true] at h
    refine List.nodup_cons.mpr ⟨fun hc => ?_,nodupB_is h.2⟩
    have : (l.any fun d => Nat.beq c d) = true := List.any_eq_true.mpr ⟨c,hc,Nat.beq_refl c⟩
    rw [this] at h
    exact absurd h.1 (by decide)
theorem capB_is {l : Tx} (h : capB l = true) : ∀ c ∈ l,c ∈ caps := fun c hc => by
  have := List.all_eq_true.mp h c hc
  rw [Bool.and_eq_true,Nat.ble_eq,Nat.ble_eq] at this
  obtain ⟨k,rfl⟩ := Nat.exists_eq_add_of_le this.1
  exact (by decide : ∀ k,k < 10 → 65 + k ∈ caps) k (Nat.lt_succ_of_le (Nat.le_of_add_le_add_left (a := 65) this.2))
theorem leadB_is {roads ws : List Tx} {E : Nat → Nat → Nat × Nat} (h5 : roads.length = 5) (h : leadB roads ws E = true) : Lead roads ws E := by
  have key : ∀ i j,i < roads.length → j < roads.length → dist ws i j = (E i j).1 + (E i j).2 ∧ dist ws i j + (roads.getD i []).length = (roads.getD j []).length + 2 * (E i j).1 ∧ (E i j).1 ≤ 20 ∧ (E i j).2 ≤ 20 := fun i j hi hj => by
    have a := List.all_eq_true.mp h i (List.mem_range.mpr (h5 ▸ hi))
    have b := List.all_eq_true.mp a j (List.mem_range.mpr (h5 ▸ hj))
    rw [Bool.and_eq_true,Bool.and_eq_true,Bool.and_eq_true,Nat.ble_eq,Nat.ble_eq] at b
    exact ⟨beq_is b.1,beq_is b.2.1,b.2.2⟩
  refine ⟨fun i j hi hj => (key i j hi hj).1,fun i j hi hj => ?_,fun i j hi hj => (key i j hi hj).2.2⟩
  have := (key i j hi hj).2.1
  rw [List.getD_eq_getElem?_getD,List.getD_eq_getElem?_getD,List.getElem?_eq_getElem hi,List.getElem?_eq_getElem hj] at this
  exact this
structure Fit (page : Tx) (E : Nat → Nat → Nat × Nat) : Prop where
  pg : okPage page = true
  len : page.length ≤ 1000
  ok : okR r0 page = true
  five : (roadsOf page).length = 5
  rds : ∀ r ∈ roadsOf page,r.length ≤ 100 ∧ ∀ c ∈ r,c ∈ caps
  lts : ((roadsOf page).foldl lets []).length ≤ 40
  nd : ((roadsOf page).foldl lets []).Nodup
  cp : ∀ c ∈ (roadsOf page).foldl lets [],c ∈ caps
  lead : Lead (roadsOf page) ((roadsOf page).map (wordOf ((roadsOf page).foldl lets []))) E
theorem chk_is {page : Tx} {E : Nat → Nat → Nat × Nat} (h : chk1 page E = true) : Fit page E := by
  unfold chk1 chk2 at h
  simp only [Bool.and_eq_true,Nat.ble_eq] at h
  (refine ob_AAAAAAAA h fun h1 h2 h3 h4 h5 h6 h7 h8 h9 => ?_; try clear h)
  refine ⟨h1,h2,h3,beq_is h4,fun r hr => ?_,h6,nodupB_is h7,capB_is h8,leadB_is (beq_is h4) h9⟩
  have := List.all_eq_true.mp h5 r hr
  rw [Bool.and_eq_true,Nat.ble_eq] at this
  exact ⟨this.1,capB_is this.2⟩
/-! the determinants of the table -/
theorem prod_pow (u : Int) (sz : List Nat) : ∀ l : List Nat,u ^ sumZ sz l = prodL (fun v => u ^ sz.getD (v - 1) 0) l
  | [] => Int.pow_zero u
  | v :: l => by
    show u ^ (sz.getD (v - 1) 0 + sumZ sz l) = _
    rw [Int.pow_add,prod_pow u sz l]; rfl
noncomputable def tabI (up down : Int) (E : Nat → Nat → Nat × Nat) : List (List Int) := (List.range 5).map fun i => (List.range 5).map fun j => ent up down (E i j)
theorem tabE_is (up down : Int) (E : Nat → Nat → Nat × Nat) : tabE up down E 5 5 = (tabI up down E).map rowD := by
  unfold tabE tabI rowE rowD
  rw [List.map_map]
  refine List.map_congr_left fun i _ => ?_
  show D.list _ = D.list _
  rw [List.map_map]
  rfl
theorem tabI_is (up down : Int) (hs sz : List Nat) : (tabI up down (EE hs sz)).map toV = rowsV (fun v => up ^ sz.getD (v - 1) 0) (fun v => down ^ sz.getD (v - 1) 0) (upTab hs) := by
  unfold tabI rowsV upTab
  rw [List.map_map,List.map_map]
  refine List.map_congr_left fun i _ => ?_
  show toV ((List.range 5).map fun j => ent up down (EE hs sz i j)) = toV (((List.range 5).map fun j => (upN hs i j,upN hs j i)).map fun p => prodL (fun v => up ^ sz.getD (v - 1) 0) p.1 * prodL (fun v => down ^ sz.getD (v - 1) 0) p.2)
  rw [List.map_map]
  refine congrArg toV (List.map_congr_left fun j _ => ?_)
  show up ^ sumZ sz (upN hs i j) * down ^ sumZ sz (upN hs j i) = _
  rw [prod_pow,prod_pow]
  rfl
theorem row5 (f : Nat → Int) (s : Int) : ((List.range 5).map f).map (fun x => x - s) = f0 ((toV ((List.range 5).map f)).sub s) := rfl
theorem tab_sub (up down : Int) (E : Nat → Nat → Nat × Nat) (s : Int) : (tabI up down E).map (fun r => r.map fun x => x - s) = (((tabI up down E).map toV).map fun v => v.sub s).map f0 := by
  unfold tabI
  rw [List.map_map,List.map_map,List.map_map,List.map_map]
  exact List.map_congr_left fun i _ => row5 (fun j => ent up down (E i j)) s
theorem det_less {vs : List V} (h5 : vs.length = 5) (s : Int) : det5 (vs.map fun v => v.sub s) = det5 vs - s * C5L vs := by
  (refine ob_EEEEE (lfive h5) fun a b c d e z1q => ?_; obtain rfl := z1q)
  exact det_sub a b c d e s
theorem bd_row {up down less : Int} (hu : up.natAbs ≤ 8) (hd : down.natAbs ≤ 8) (hl : less.natAbs ≤ 2 ^ 40) {e : Nat × Nat} (he : e.1 ≤ 20 ∧ e.2 ≤ 20) : (ent up down e - less).natAbs ≤ BB := by
  have p : ∀ {x : Int} {k : Nat},x.natAbs ≤ 8 → k ≤ 20 → (x ^ k).natAbs ≤ 2 ^ 60 := fun hx hk => by
    rw [Int.natAbs_pow]
    exact Nat.le_trans (Nat.pow_le_pow_left hx _) (Nat.le_trans (Nat.pow_le_pow_right (by decide) hk) (by decide +kernel))
  exact Nat.le_trans (as' (am (p hu he.1) (p hd he.2)) hl) (by decide +kernel)
theorem det_tab {up down less : Int} (hu : up.natAbs ≤ 8) (hd : down.natAbs ≤ 8) (hl : less.natAbs ≤ 2 ^ 40) {hs sz : List Nat} (hh : hs ∈ allH) (he : ∀ i j,i < 5 → j < 5 → (EE hs sz i j).1 ≤ 20 ∧ (EE hs sz i j).2 ≤ 20) :
    F75 [.list (tabE up down (EE hs sz) 5 5),.int less] = some (.int (WW (fun v => up ^ sz.getD (v - 1) 0) (fun v => down ^ sz.getD (v - 1) 0) - less * (WW (fun v => up ^ sz.getD (v - 1) 0) (fun v => down ^ sz.getD (v - 1) 0) + WB (fun v => up ^ sz.getD (v - 1) 0) (fun v => down ^ sz.getD (v - 1) 0)))) := by
  have h5 : ((tabI up down (EE hs sz)).map toV).length = 5 := by unfold tabI; simp
  have hdet := det_all (fun v => up ^ sz.getD (v - 1) 0) (fun v => down ^ sz.getD (v - 1) 0) hs hh
  rw [← tabI_is] at hdet
  rw [tabE_is,f75 (vs := ((tabI up down (EE hs sz)).map toV).map fun v => v.sub less) (by rw [List.length_map,h5]) (fun v hv => ?_) (fun r hr => ?_) (tab_sub ..),det_less h5,hdet.1,hdet.2]
  · unfold tabI at hv
    rw [List.map_map,List.map_map] at hv
    (refine ob_EA (List.mem_map.mp hv) fun i hi z2q => ?_; obtain rfl := z2q)
    rw [List.mem_range] at hi
    have b : ∀ j,j < 5 → (ent up down (EE hs sz i j) - less).natAbs ≤ BB := fun j hj => bd_row hu hd hl (he i j hi hj)
    exact ⟨b 0 (by decide),b 1 (by decide),b 2 (by decide),b 3 (by decide),b 4 (by decide)⟩
  · unfold tabI at hr
    (refine ob_EA (List.mem_map.mp hr) fun i _ z3q => ?_; obtain rfl := z3q)
    rw [List.length_map,List.length_range]
    decide
theorem agree {up down less : Int} (hu : up.natAbs ≤ 8) (hd : down.natAbs ≤ 8) (hl : less.natAbs ≤ 2 ^ 40) {hs sz : List Nat} (hh : hs ∈ allH) (hz : sz.length = 4) (h12 : ∀ s ∈ sz,s ≤ 2) {page : Tx} (F : Fit page (EE hs sz)) :
    F76 [dS page,ilist (1 :: sz),.int up,.int down,.int less] = some (.bool true) := by
  have he : ∀ i j,i < 5 → j < 5 → (EE hs sz i j).1 ≤ 20 ∧ (EE hs sz i j).2 ≤ 20 := fun i j hi hj => F.lead.le i j (F.five ▸ hi) (F.five ▸ hj)
  have hfold : sz.foldl (wbStep up down) (1,0) = (WW (fun v => up ^ sz.getD (v - 1) 0) (fun v => down ^ sz.getD (v - 1) 0),WB (fun v => up ^ sz.getD (v - 1) 0) (fun v => down ^ sz.getD (v - 1) 0)) := by
    (refine ob_EEEE (lfour hz) fun a b c d z4q => ?_; obtain rfl := z4q)
    · show (_,_) = (_,_)
      congr 1
      · show 1 * (1 - up ^ a * down ^ a) * (1 - up ^ b * down ^ b) * (1 - up ^ c * down ^ c) * (1 - up ^ d * down ^ d) = (1 - up ^ a * down ^ a) * (1 - up ^ b * down ^ b) * (1 - up ^ c * down ^ c) * (1 - up ^ d * down ^ d)
        rw [Int.one_mul]
      · show (((0 * (1 - up ^ a * down ^ a) + 1 * (1 - up ^ a) * (1 - down ^ a)) * (1 - up ^ b * down ^ b) + 1 * (1 - up ^ a * down ^ a) * (1 - up ^ b) * (1 - down ^ b)) * (1 - up ^ c * down ^ c) + 1 * (1 - up ^ a * down ^ a) * (1 - up ^ b * down ^ b) * (1 - up ^ c) * (1 - down ^ c)) * (1 - up ^ d * down ^ d) + 1 * (1 - up ^ a * down ^ a) * (1 - up ^ b * down ^ b) * (1 - up ^ c * down ^ c) * (1 - up ^ d) * (1 - down ^ d) = (((1 - up ^ a) * (1 - down ^ a) * (1 - up ^ b * down ^ b) + (1 - up ^ a * down ^ a) * (1 - up ^ b) * (1 - down ^ b)) * (1 - up ^ c * down ^ c) + (1 - up ^ a * down ^ a) * (1 - up ^ b * down ^ b) * (1 - up ^ c) * (1 - down ^ c)) * (1 - up ^ d * down ^ d) + (1 - up ^ a * down ^ a) * (1 - up ^ b * down ^ b) * (1 - up ^ c * down ^ c) * (1 - up ^ d) * (1 - down ^ d)
        simp only [Int.one_mul,Int.zero_mul,Int.zero_add]
  have ht : F74 [.list ((roadsOf page).map dS),.int up,.int down] = some (.list (tabE up down (EE hs sz) 5 5)) := by
    have := f74 hu hd rfl (by rw [F.five]; decide) F.rds F.lts F.nd F.cp F.lead
    rw [F.five] at this
    exact this
  have hlen : (tabE up down (EE hs sz) 5 5).length = 5 := by unfold tabE; simp
  refine f76 (sz := sz) (f72 page F.pg F.len F.ok) ht (fun q => ?_) (by rw [hlen]; decide) hz h12 hu hd hl ?_ ?_
  · rw [q] at hlen; exact absurd hlen (by decide)
  · rw [det_tab hu hd (by decide) hh he,hfold,Int.zero_mul,Int.sub_zero]
  · rw [det_tab hu hd hl hh he,hfold]
end L
end
section
set_option exponentiation.threshold 3000
namespace L
noncomputable def toldT (ns : List Tx) (hs : List Nat) : Nat → Nat → List Tx
  | 0,_ => []
  | f + 1,n => [[60] ++ ns.getD n [], [62]] ++ ((List.range (4 - n)).flatMap fun i => if hs.getD (n + 1 + i) 0 = n then toldT ns hs f (n + 1 + i) else []) ++ [[60,47] ++ ns.getD n [] ++ [62]]
theorem getD_S (ns : List Tx) (n : Nat) : (ns.map S).getD n (Str.ofString "") = S (ns.getD n []) := by
  rw [ofS0,List.getD_eq_getElem?_getD,List.getElem?_map,List.getD_eq_getElem?_getD]
  cases ns[n]? <;> rfl
theorem getD_cast (hs : List Nat) (n : Nat) : (castL hs).getD n 0 = ((hs.getD n 0 : Nat) : Int) := by
  unfold castL
  rw [List.getD_eq_getElem?_getD,List.getElem?_map,List.getD_eq_getElem?_getD]
  cases hs[n]? <;> rfl
theorem toldP_S (ns : List Tx) (hs : List Nat) : ∀ (f n : Nat),toldP (ns.map S) (castL hs) f n = (toldT ns hs f n).map S
  | 0,_ => rfl
  | f + 1,n => by
    unfold toldP toldT
    rw [getD_S,ofLt,ofGt,ofLs,S_app,S_app,S_app,List.map_append,List.map_append]
    congr 1
    congr 1
    rw [List.range'_eq_map_range,List.flatMap_map,List.map_flatMap]
    congr 1
    funext i
    rw [getD_cast]
    by_cases h : hs.getD (n + 1 + i) 0 = n
    · rw [if_pos h,if_pos (congrArg Nat.cast h),toldP_S ns hs f]
    · rw [if_neg h,if_neg (by omega)]; rfl
theorem flat_flatMap {α : Type} (g : α → List Tx) : ∀ l : List α,(l.flatMap g).flatten = l.flatMap fun x => (g x).flatten
  | [] => rfl
  | x :: l => by rw [List.flatMap_cons,List.flatMap_cons,List.flatten_append,flat_flatMap g l]
theorem told_flat (ns : List Tx) (hs : List Nat) : ∀ (f n : Nat),(toldT ns hs f n).flatten = dueN ns hs f n
  | 0,_ => rfl
  | f + 1,n => by
    unfold toldT dueN
    rw [List.flatten_append,List.flatten_append,flat_flatMap]
    have e : (fun i => (if hs.getD (n + 1 + i) 0 = n then toldT ns hs f (n + 1 + i) else []).flatten) = fun i => if hs.getD (n + 1 + i) 0 = n then dueN ns hs f (n + 1 + i) else [] := by
      funext i
      by_cases h : hs.getD (n + 1 + i) 0 = n
      · rw [if_pos h,if_pos h,told_flat ns hs f]
      · rw [if_neg h,if_neg h]; rfl
    rw [e]
    simp
theorem due_fuel (ns : List Tx) (hs : List Nat) : ∀ (f f' n : Nat),n ≤ 4 → 5 - n ≤ f → 5 - n ≤ f' → dueN ns hs f n = dueN ns hs f' n
  | 0,f',n,hn,h,_ => (ar_p hn h).elim
  | f + 1,0,n,hn,_,h => (ar_p hn h).elim
  | f + 1,f' + 1,n,hn,h,h' => by
    unfold dueN
    have e : ((List.range (4 - n)).flatMap fun i => if hs.getD (n + 1 + i) 0 = n then dueN ns hs f (n + 1 + i) else []) = (List.range (4 - n)).flatMap fun i => if hs.getD (n + 1 + i) 0 = n then dueN ns hs f' (n + 1 + i) else [] := by
      unfold List.flatMap
      refine congrArg List.flatten (List.map_congr_left fun i hi => ?_)
      rw [List.mem_range] at hi
      by_cases q : hs.getD (n + 1 + i) 0 = n
      · rw [if_pos q,if_pos q,due_fuel ns hs f f' (n + 1 + i) (ar_i4 hn (by assumption)) (ar_f hn (by assumption) (Nat.le_add_right _ _)) (ar_f hn (by assumption) (Nat.le_add_right _ _))]
      · rw [if_neg q,if_neg q]
    rw [e]
theorem ofBr : Str.ofString "{" = S [123] := by decide +kernel
theorem names_ok {sz : List Nat} (hz : sz.length = 4) (h12 : ∀ s ∈ sz,s = 1 ∨ s = 2) : NamesOk ((namesN sz 4).map S) := by
  have hl : (namesN sz 4).length = 5 := by unfold namesN; simp
  refine ⟨by rw [List.length_map,hl],fun t ht => ?_⟩
  (refine ob_EA (List.mem_map.mp ht) fun x hx z1q => ?_; obtain rfl := z1q)
  have : x.length ≤ 10 ∧ x.take 1 ≠ [123] := by
    rcases List.mem_cons.mp hx with rfl | hx
    · exact ⟨by decide,by decide⟩
    · (refine ob_EA (List.mem_map.mp hx) fun j hj z2q => ?_; obtain rfl := z2q)
      rw [List.mem_range] at hj
      have hsum := sum_take h12 j
      have hf : firstN sz j ≤ 9 := by unfold firstN; exact Nat.le_trans (Nat.add_le_add_left (Nat.le_trans hsum (Nat.mul_le_mul_left 2 (Nat.le_of_lt_succ hj))) 2) (by decide)
      refine ⟨(nm_le hf).1,?_⟩
      unfold nameN
      split
      · intro e
        have := List.head_eq_of_cons_eq (show [65 + firstN sz j] = [123] from e)
        exact Nat.ne_of_lt (Nat.lt_of_le_of_lt (Nat.add_le_add_left hf 65) (by decide)) this
      · intro e
        have := List.head_eq_of_cons_eq (show [65 + firstN sz j] = [123] from e)
        exact Nat.ne_of_lt (Nat.lt_of_le_of_lt (Nat.add_le_add_left hf 65) (by decide)) this
  refine ⟨by rw [S_len]; exact Nat.le_trans this.1 (by decide),?_⟩
  rw [show (some (1 : Int)) = some ((1 : Nat) : Int) from rfl,slice_take,ofBr,S_beq]
  exact beq_eq_false_iff_ne.mpr this.2
end L
end
section
set_option exponentiation.threshold 3000
namespace L
noncomputable def drawsN (scr : List Int) : List Nat := (scr.take 4).map (fun c => (c % 1000000).toNat) ++ [3,4,5,23].drop (scr.take 4).length
noncomputable def hostsN (dn : List Nat) : List Nat := 0 :: (dn.zipIdx 1).map fun x => x.1 % x.2
noncomputable def sizesN (dn : List Nat) : List Nat := (dn.zipIdx 1).map fun x => x.1 / x.2 % 2 + 1
theorem ilist_map (l : List Nat) : (castL l).map D.int = l.map fun s => D.int ((s : Nat) : Int) := by unfold castL; rw [List.map_map]; rfl
theorem mod_nat {a b : Nat} (h : b ≠ 0) : modD (.int (a : Int)) (.int (b : Int)) = some (.int ((a % b : Nat) : Int)) := by
  rw [modD_ii]
  rw [if_pos (by simp [*]),Int.fmod_eq_emod_of_nonneg _ (by exact Int.natCast_nonneg _)]
  rfl
theorem div_nat {a b : Nat} (h : b ≠ 0) (hb : b ≤ 1000) : divD (.int (a : Int)) (.int (b : Int)) = some (.int ((a / b : Nat) : Int)) := by
  rw [div_is (by lia) (s100 (Nat.le_trans (show b ≤ 1000 from hb) (by decide +kernel))),Int.fdiv_eq_ediv_of_nonneg _ (by exact Int.natCast_nonneg _)]
  rfl
theorem s0 {scr : List Int} (hl : scr.length ≤ 63) : p77s0.1 (entry 7 [.list (scr.map .int)]) = some (.next [some (.fz (.list (scr.map .int))),some (.fz (ilist (drawsN scr))),none,none,none,none,none]) := by
  unfold p77s0
  dsimp only
  have hsl : ∀ {z : Option D},z = some (.list (scr.map .int)) → (z.bind fun x => (some none).bind fun a => ((some (D.int 4)).bind partD).bind fun b => sliceD x a b) = some (.list ((scr.take 4).map .int)) := fun hz => by
    refine bind_of hz (bind_of (x := none) rfl (bind_of (x := some 4) rfl ?_))
    show (if _ then _ else _) = _
    rw [List.length_map,if_pos (sz (by exact Nat.le_trans (by assumption) (by decide))),show (some (4 : Int)) = some ((4 : Nat) : Int) from rfl,pick_take,List.map_take]
  have ht : (scr.take 4).length ≤ 4 := by rw [List.length_take]; exact Nat.min_le_left 4 scr.length
  refine asgF_ok ?_
  refine bind_of (x := .list ((scr.take 4).map fun c => .int (((c % 1000000).toNat : Nat) : Int))) (map_of (x := (scr.take 4).map fun c => .int (((c % 1000000).toNat : Nat) : Int)) ?_ rfl) ?_
  · refine (compF_ok (σ₀ := [none]) (bs := scr.take 4) (w := .int) (o := fun c => some (.int (((c % 1000000).toNat : Nat) : Int))) (bind_of (x := D.list ((scr.take 4).map D.int)) ?_ rfl) (by exact Nat.le_trans (by assumption) (by decide)) rfl fun c hc => ?_).trans ?_
    · refine hsl (z := Sto.get (fzs (entry 7 [.list (scr.map .int)])) 0) rfl
    · refine bind_of (x := [some (.fz (.int c))]) rfl (bind_of (x := true) rfl ?_)
      rw [if_pos rfl]
      refine map_of (x := .int (((c % 1000000).toNat : Nat) : Int)) ?_ rfl
      refine bind_of (x := .int c) (bind_of (x := [.int c]) rfl rfl) (bind_of (x := .int (10 ^ 6)) (bind_of (x := .int 10) rfl (bind_of (x := .int 6) rfl ?_)) ?_)
      · exact pow_is (k := 6) (by decide) (s100 (by decide +kernel))
      · rw [modD_ii]
        rw [if_pos (by decide),Int.fmod_eq_emod_of_nonneg _ (by decide)]
        exact congrArg (fun z => some (D.int z)) (by rw [show (10 : Int) ^ 6 = 1000000 from rfl]; lia)
    · exact congrArg some (congrFun List.filterMap_eq_map' _)
  · refine bind_of (x := .list (([3,4,5,23].drop (scr.take 4).length).map fun s => D.int ((s : Nat) : Int))) (bind_of (x := .list [.int 3,.int 4,.int 5,.int 23]) rfl (bind_of (x := some ((scr.take 4).length : Int)) (bind_of (x := .int ((scr.take 4).length : Int)) (bind_of (x := [.list ((scr.take 4).map .int)]) (bind_of (x := .list ((scr.take 4).map .int)) (hsl (z := Sto.get (fzs (entry 7 [.list (scr.map .int)])) 0) rfl) rfl) ?_) rfl) (bind_of (x := none) rfl ?_))) ?_
    · unfold fLen; dsimp only; rw [List.length_map,if_pos (sz (Nat.le_trans ht (by decide)))]
    · unfold sliceD
      dsimp only
      rw [if_pos (sz (show [D.int 3,D.int 4,D.int 5,D.int 23].length ≤ 10000 from Nat.le_of_ble_eq_true rfl)),pick_drop,List.map_drop]
      rfl
    · unfold addD; dsimp only
      rw [if_pos (sz (by rw [List.length_map,List.length_map,List.length_drop]; exact Nat.le_trans (Nat.le_of_eq (Nat.add_sub_of_le ht)) (by decide : 4 ≤ 10000)))]
      unfold ilist drawsN
      rw [ilist_map,List.map_append,List.map_map]
      rfl
theorem enum1 {dn : List Nat} {σ : Sto} (h1 : σ.get 1 = some (ilist dn)) : (((σ.get 1).bind fun d => Option.map (fun x => d :: x) ((some (D.int 1)).bind fun d => Option.map (fun x => d :: x) (some []))).bind fEnum) = some ((dn.zipIdx 1).map fun x => .tup [.int ((x.2 : Nat) : Int),.int ((x.1 : Nat) : Int)]) := by
  refine bind_of (x := [ilist dn,.int 1]) (bind_of h1 rfl) ?_
  show some (enumD 1 ((castL dn).map .int)) = _
  rw [ilist_map,enum_map]
theorem s1 {dn : List Nat} (hd : dn.length = 4) {a : Option Cell} : p77s1.1 [a,some (.fz (ilist dn)),none,none,none,none,none] = some (.next [a,some (.fz (ilist dn)),some (.fz (ilist (hostsN dn))),none,none,none,none]) := by
  unfold p77s1
  dsimp only
  refine asgF_ok ?_
  refine bind_of (x := .list [.int 0]) rfl (bind_of (x := .list ((dn.zipIdx 1).map fun x => .int ((x.1 % x.2 : Nat) : Int))) (map_of (x := (dn.zipIdx 1).map fun x => .int ((x.1 % x.2 : Nat) : Int)) ?_ rfl) ?_)
  · refine (compF_ok (σ₀ := [none,none]) (bs := dn.zipIdx 1) (w := fun x => .tup [.int ((x.2 : Nat) : Int),.int ((x.1 : Nat) : Int)]) (o := fun x => some (.int ((x.1 % x.2 : Nat) : Int))) (enum1 rfl) (by rw [List.length_zipIdx]; exact Nat.le_trans (m := 4) (by solve_by_elim (maxDepth := 4) only [*,Nat.le_of_lt,Nat.le_trans,Nat.le_of_eq,Internal.leq2]) (by decide)) rfl fun x hx => ?_).trans ?_
    · obtain ⟨d,i⟩ := x
      have := List.mem_zipIdx hx
      refine bind_of (x := [some (.fz (.int (i : Int))),some (.fz (.int (d : Int)))]) rfl (bind_of (x := true) rfl ?_)
      rw [if_pos rfl]
      exact map_of (bind_of (x := .int (d : Int)) rfl (bind_of (x := .int (i : Int)) rfl (mod_nat (by lia)))) rfl
    · exact congrArg some (congrFun List.filterMap_eq_map' _)
  · unfold addD; dsimp only
    rw [if_pos (sz (by rw [List.length_map,List.length_zipIdx,hd]; decide))]
    unfold ilist hostsN
    rw [ilist_map,List.map_cons,List.map_map]
    rfl
theorem s2 {dn : List Nat} (hd : dn.length = 4) {a b : Option Cell} : p77s2.1 [a,some (.fz (ilist dn)),b,none,none,none,none] = some (.next [a,some (.fz (ilist dn)),b,some (.fz (ilist (1 :: sizesN dn))),none,none,none]) := by
  unfold p77s2
  dsimp only
  refine (asgF_ok (d := ilist (1 :: sizesN dn)) ?_).trans ?_
  · refine bind_of (x := .list [.int 1]) rfl (bind_of (x := .list ((dn.zipIdx 1).map fun x => .int ((x.1 / x.2 % 2 + 1 : Nat) : Int))) (map_of (x := (dn.zipIdx 1).map fun x => .int ((x.1 / x.2 % 2 + 1 : Nat) : Int)) ?_ rfl) ?_)
    · refine (compF_ok (σ₀ := [none,none]) (bs := dn.zipIdx 1) (w := fun x => .tup [.int ((x.2 : Nat) : Int),.int ((x.1 : Nat) : Int)]) (o := fun x => some (.int ((x.1 / x.2 % 2 + 1 : Nat) : Int))) (enum1 rfl) (by rw [List.length_zipIdx]; lia) rfl fun x hx => ?_).trans ?_
      · obtain ⟨d,i⟩ := x
        have := List.mem_zipIdx hx
        refine bind_of (x := [some (.fz (.int (i : Int))),some (.fz (.int (d : Int)))]) rfl (bind_of (x := true) rfl ?_)
        rw [if_pos rfl]
        refine map_of (x := .int ((d / i % 2 + 1 : Nat) : Int)) (bind_of (x := .int ((d / i % 2 : Nat) : Int)) (bind_of (x := .int ((d / i : Nat) : Int)) (bind_of (x := .int (d : Int)) rfl (bind_of (x := .int (i : Int)) rfl (div_nat (by lia) (by lia)))) (bind_of (x := .int 2) rfl (mod_nat (b := 2) (by decide)))) (bind_of (x := .int 1) rfl ?_)) rfl
        exact congrArg (fun z => some (D.int z)) (by rfl)
      · exact congrArg some (congrFun List.filterMap_eq_map' _)
    · unfold addD; dsimp only
      rw [if_pos (sz (by rw [List.length_map,List.length_zipIdx,hd]; decide))]
      unfold ilist sizesN
      rw [ilist_map,List.map_cons,List.map_map]
      rfl
  · cases b with
    | none => rfl
    | some c => cases c <;> rfl
end L
end
namespace L
noncomputable def allZ : List (List Nat) := [[1,1,1,1], [1,1,1,2], [1,1,2,1], [1,1,2,2], [1,2,1,1], [1,2,1,2], [1,2,2,1], [1,2,2,2], [2,1,1,1], [2,1,1,2], [2,1,2,1], [2,1,2,2], [2,2,1,1], [2,2,1,2], [2,2,2,1], [2,2,2,2]]
theorem K000 : (allZ.all fun z => chk [0,0,0,0,0] z) = true := by decide +kernel
theorem K001 : (allZ.all fun z => chk [0,0,0,0,1] z) = true := by decide +kernel
theorem K002 : (allZ.all fun z => chk [0,0,0,0,2] z) = true := by decide +kernel
theorem K003 : (allZ.all fun z => chk [0,0,0,0,3] z) = true := by decide +kernel
theorem K010 : (allZ.all fun z => chk [0,0,0,1,0] z) = true := by decide +kernel
theorem K011 : (allZ.all fun z => chk [0,0,0,1,1] z) = true := by decide +kernel
theorem K012 : (allZ.all fun z => chk [0,0,0,1,2] z) = true := by decide +kernel
theorem K013 : (allZ.all fun z => chk [0,0,0,1,3] z) = true := by decide +kernel
theorem K020 : (allZ.all fun z => chk [0,0,0,2,0] z) = true := by decide +kernel
theorem K021 : (allZ.all fun z => chk [0,0,0,2,1] z) = true := by decide +kernel
theorem K022 : (allZ.all fun z => chk [0,0,0,2,2] z) = true := by decide +kernel
theorem K023 : (allZ.all fun z => chk [0,0,0,2,3] z) = true := by decide +kernel
theorem K100 : (allZ.all fun z => chk [0,0,1,0,0] z) = true := by decide +kernel
theorem K101 : (allZ.all fun z => chk [0,0,1,0,1] z) = true := by decide +kernel
theorem K102 : (allZ.all fun z => chk [0,0,1,0,2] z) = true := by decide +kernel
theorem K103 : (allZ.all fun z => chk [0,0,1,0,3] z) = true := by decide +kernel
theorem K110 : (allZ.all fun z => chk [0,0,1,1,0] z) = true := by decide +kernel
theorem K111 : (allZ.all fun z => chk [0,0,1,1,1] z) = true := by decide +kernel
theorem K112 : (allZ.all fun z => chk [0,0,1,1,2] z) = true := by decide +kernel
theorem K113 : (allZ.all fun z => chk [0,0,1,1,3] z) = true := by decide +kernel
theorem K120 : (allZ.all fun z => chk [0,0,1,2,0] z) = true := by decide +kernel
theorem K121 : (allZ.all fun z => chk [0,0,1,2,1] z) = true := by decide +kernel
theorem K122 : (allZ.all fun z => chk [0,0,1,2,2] z) = true := by decide +kernel
theorem K123 : (allZ.all fun z => chk [0,0,1,2,3] z) = true := by decide +kernel
theorem chk_all {hs sz : List Nat} (hh : hs ∈ allH) (hz : sz ∈ allZ) : chk hs sz = true := by
  simp only [allH,List.mem_cons,List.not_mem_nil,or_false] at hh
  rcases hh with rfl | rfl | rfl | rfl | rfl | rfl | rfl | rfl | rfl | rfl | rfl | rfl | rfl | rfl | rfl | rfl | rfl | rfl | rfl | rfl | rfl | rfl | rfl | rfl
  · exact List.all_eq_true.mp K000 sz hz
  · exact List.all_eq_true.mp K001 sz hz
  · exact List.all_eq_true.mp K002 sz hz
  · exact List.all_eq_true.mp K003 sz hz
  · exact List.all_eq_true.mp K010 sz hz
  · exact List.all_eq_true.mp K011 sz hz
  · exact List.all_eq_true.mp K012 sz hz
  · exact List.all_eq_true.mp K013 sz hz
  · exact List.all_eq_true.mp K020 sz hz
  · exact List.all_eq_true.mp K021 sz hz
  · exact List.all_eq_true.mp K022 sz hz
  · exact List.all_eq_true.mp K023 sz hz
  · exact List.all_eq_true.mp K100 sz hz
  · exact List.all_eq_true.mp K101 sz hz
  · exact List.all_eq_true.mp K102 sz hz
  · exact List.all_eq_true.mp K103 sz hz
  · exact List.all_eq_true.mp K110 sz hz
  · exact List.all_eq_true.mp K111 sz hz
  · exact List.all_eq_true.mp K112 sz hz
  · exact List.all_eq_true.mp K113 sz hz
  · exact List.all_eq_true.mp K120 sz hz
  · exact List.all_eq_true.mp K121 sz hz
  · exact List.all_eq_true.mp K122 sz hz
  · exact List.all_eq_true.mp K123 sz hz
end L
section
set_option exponentiation.threshold 3000
namespace L
theorem draws_ok (scr : List Int) : (drawsN scr).length = 4 ∧ ∀ d ∈ drawsN scr,d < 1000000 := by
  unfold drawsN
  refine ⟨?_,fun d hd => ?_⟩
  · rw [List.length_append,List.length_map,List.length_drop]
    have : (scr.take 4).length ≤ 4 := by rw [List.length_take]; exact Nat.min_le_left 4 scr.length
    simp only [List.length_cons,List.length_nil]
    exact Nat.add_sub_of_le (by assumption)
  · rcases List.mem_append.mp hd with h | h
    · (refine ob_EA (List.mem_map.mp h) fun c _ z1q => ?_; obtain rfl := z1q)
      lia
    · have := List.mem_of_mem_drop h
      simp only [List.mem_cons,List.not_mem_nil,or_false] at this
      lia
theorem hosts_in {dn : List Nat} (hd : dn.length = 4) : hostsN dn ∈ allH := by
  (refine ob_EEEE (lfour hd) fun d1 d2 d3 d4 z2q => ?_; obtain rfl := z2q)
  · show [0,d1 % 1,d2 % 2,d3 % 3,d4 % 4] ∈ allH
    rw [Nat.mod_one]
    exact (by decide +kernel : ∀ a,a < 2 → ∀ b,b < 3 → ∀ c,c < 4 → [0,0,a,b,c] ∈ allH) _ (Nat.mod_lt _ (by decide)) _ (Nat.mod_lt _ (by decide)) _ (Nat.mod_lt _ (by decide))
theorem sizes_in {dn : List Nat} (hd : dn.length = 4) : sizesN dn ∈ allZ := by
  (refine ob_EEEE (lfour hd) fun d1 d2 d3 d4 z3q => ?_; obtain rfl := z3q)
  · show [d1 / 1 % 2 + 1,d2 / 2 % 2 + 1,d3 / 3 % 2 + 1,d4 / 4 % 2 + 1] ∈ allZ
    have H : ((List.range 2).all fun a => (List.range 2).all fun b => (List.range 2).all fun c => (List.range 2).all fun d => decide ([a + 1,b + 1,c + 1,d + 1] ∈ allZ)) = true := by decide +kernel
    have m (x : Nat) : x % 2 ∈ List.range 2 := List.mem_range.mpr (Nat.mod_lt _ (by decide))
    exact of_decide_eq_true (List.all_eq_true.mp (List.all_eq_true.mp (List.all_eq_true.mp (List.all_eq_true.mp H _ (m (d1 / 1))) _ (m (d2 / 2))) _ (m (d3 / 3))) _ (m (d4 / 4)))
theorem sizes_12 (dn : List Nat) : ∀ s ∈ sizesN dn,s = 1 ∨ s = 2 := fun s hs => by
  unfold sizesN at hs
  (refine ob_EA (List.mem_map.mp hs) fun x _ z4q => ?_; obtain rfl := z4q)
  exact (Nat.mod_two_eq_zero_or_one _).imp (congrArg (· + 1)) (congrArg (· + 1))
theorem sum_lt : ∀ (l : List Nat),(∀ d ∈ l,d < 1000000) → l.sum ≤ 1000000 * l.length
  | [],_ => Nat.le_refl _
  | d :: l,h => by
    rw [List.sum_cons,List.length_cons]
    exact Nat.le_trans (Nat.add_le_add (Nat.le_of_lt (h d (.head _))) (sum_lt l fun q hq => h q (.tail _ hq))) (Nat.le_of_eq (Nat.add_comm 1000000 _))
theorem tail_run {dn hs sz' : List Nat} (hd : dn.length = 4) (hb : ∀ d ∈ dn,d < 1000000) (hh : hs ∈ allH) (hl5 : hs.length = 5) (hz : sz'.length = 4) (h12 : ∀ s ∈ sz',s = 1 ∨ s = 2) (hc : chk hs sz' = true) :
    p77b.1 (F70 6) [none,some (.fz (ilist dn)),some (.fz (ilist hs)),some (.fz (ilist (1 :: sz'))),some (.ow ((toldT (namesN sz' 4) hs 5 0).map dS)),none,none] = some (.ret (.bool true)) := by
  have F := chk_is hc
  have fl := told_flat (namesN sz' 4) hs 5 0
  have dl := due_len (hs := hs) hz h12 5 0 (by exact Nat.zero_le _)
  have e6 := f70 hz h12 hl5 6 0 (Nat.zero_le 4) (by decide)
  rw [due_fuel _ _ 6 5 0 (Nat.zero_le 4) (Nat.le_of_lt Nat.le.refl) (by decide)] at e6
  unfold p77b
  dsimp only
  generalize F70 6 = G at e6 ⊢
  refine seqF_next (asgS_ok (d := dS (dueN (namesN sz' 4) hs 5 0)) (bind_of (x := .str (Str.ofString "")) rfl (bind_of (x := .list ((toldT (namesN sz' 4) hs 5 0).map dS)) rfl ((join_dS _ ?_).trans ?_))) rfl) ?_
  · rw [fl]; exact Nat.le_trans (by assumption) (by decide)
  · rw [fl]
  generalize dueN (namesN sz' 4) hs 5 0 = page at F e6 ⊢
  refine seqF_next (ifF_f ?_ rfl) ?_
  · refine bind_of (x := dS page) rfl (bind_of (x := dS page) (bind_of (x := [ilist hs,ilist (1 :: sz'),.int 0]) rfl e6) ?_)
    show some (!(S page == S page)) = _
    rw [beq_self_eq_true]; rfl
  have hT := sum_lt dn hb
  rw [hd] at hT
  refine seqF_next (asgS_ok (d := .int ((dn.sum : Nat) : Int)) (bind_of (x := [ilist dn]) rfl ?_) rfl) ?_
  · show (intsOf _).map _ = _
    rw [intsOf_map]
    exact congrArg (fun z => some (D.int z)) (sum_cast dn)
  generalize dn.sum = T at hT ⊢
  refine seqF_ret (map_of (x := .bool true) ?_ rfl)
  refine bind_of (x := [dS page,ilist (1 :: sz'),.int (((T % 5 : Nat) : Int) + 2),.int (3 - ((T / 5 % 7 : Nat) : Int)),.int (((T / 35 : Nat) : Int) + 1)]) ?_ ?_
  · refine bind_of (x := dS page) rfl (map_of (x := [ilist (1 :: sz'),.int (((T % 5 : Nat) : Int) + 2),.int (3 - ((T / 5 % 7 : Nat) : Int)),.int (((T / 35 : Nat) : Int) + 1)]) (bind_of (x := ilist (1 :: sz')) rfl (map_of (x := [.int (((T % 5 : Nat) : Int) + 2),.int (3 - ((T / 5 % 7 : Nat) : Int)),.int (((T / 35 : Nat) : Int) + 1)]) ?_ rfl)) rfl)
    refine bind_of (x := .int (((T % 5 : Nat) : Int) + 2)) (bind_of (x := .int ((T % 5 : Nat) : Int)) (bind_of (x := .int (T : Int)) rfl (bind_of (x := .int 5) rfl (mod_nat (b := 5) (by decide)))) (bind_of (x := .int 2) rfl rfl)) (map_of (x := [.int (3 - ((T / 5 % 7 : Nat) : Int)),.int (((T / 35 : Nat) : Int) + 1)]) ?_ rfl)
    refine bind_of (x := .int (3 - ((T / 5 % 7 : Nat) : Int))) (bind_of (x := .int 3) rfl (bind_of (x := .int ((T / 5 % 7 : Nat) : Int)) (bind_of (x := .int ((T / 5 : Nat) : Int)) (bind_of (x := .int (T : Int)) rfl (bind_of (x := .int 5) rfl (div_nat (b := 5) (by decide) (by decide)))) (bind_of (x := .int 7) rfl (mod_nat (b := 7) (by decide)))) rfl)) (map_of (x := [.int (((T / 35 : Nat) : Int) + 1)]) ?_ rfl)
    exact bind_of (x := .int (((T / 35 : Nat) : Int) + 1)) (bind_of (x := .int ((T / 35 : Nat) : Int)) (bind_of (x := .int (T : Int)) rfl (bind_of (x := .int 35) rfl (div_nat (b := 35) (by decide) (by decide)))) (bind_of (x := .int 1) rfl rfl)) rfl
  · refine agree ?_ ?_ ?_ hh hz (fun s hs => ?_) F
    · exact Nat.le_trans (Nat.add_le_add_right (Nat.le_of_lt (Nat.mod_lt T (by decide))) 2) (by decide : 5 + 2 ≤ 8)
    · exact (by decide : ∀ k : Nat,k < 7 → (3 - (k : Int)).natAbs ≤ 8) _ (Nat.mod_lt (T / 5) (by decide))
    · refine Nat.le_trans (show _ ≤ 1000000 from Nat.div_lt_of_lt_mul (Nat.lt_of_le_of_lt hT (by decide))) (by decide +kernel)
    · exact (h12 s hs).elim (fun h => Nat.le_trans (Nat.le_of_eq h) (by decide)) Nat.le_of_eq
theorem plain (scr : List Int) (hl : scr.length ≤ 63) : LawEv scr := by
  refine ob_A (draws_ok scr) fun hd hb => ?_
  have hh := hosts_in hd
  have hz := sizes_in hd
  have h12 := sizes_12 (drawsN scr)
  have hz4 : (sizesN (drawsN scr)).length = 4 := by unfold sizesN; rw [List.length_map,List.length_zipIdx,hd]
  have hl5 : (hostsN (drawsN scr)).length = 5 := by unfold hostsN; rw [List.length_cons,List.length_map,List.length_zipIdx,hd]
  have hc := chk_all hh hz
  refine ⟨_,_,_,castL (drawsN scr),castL (hostsN (drawsN scr)),castL (1 :: sizesN (drawsN scr)),(namesN (sizesN (drawsN scr)) 4).map S,s0 hl,s1 hd,s2 hd,rfl,rfl,rfl,?_,names_ok hz4 h12,?_,?_⟩
  · unfold castL; rw [List.length_map,hl5]
  · have := f68 (ds := castL (drawsN scr)) (sz := sizesN (drawsN scr)) (by unfold castL; rw [List.length_map,hd]) hz4 h12
    refine Eq.trans this ?_
    rw [List.map_map]
    rfl
  · have e : ((toldP ((namesN (sizesN (drawsN scr)) 4).map S) (castL (hostsN (drawsN scr))) 5 0).map D.str) = (toldT (namesN (sizesN (drawsN scr)) 4) (hostsN (drawsN scr)) 5 0).map dS := by rw [toldP_S,List.map_map]; rfl
    rw [e]
    exact tail_run hd hb hh hl5 hz4 h12 hc
end L
end
end Internal
open Internal
set_option Elab.async true
set_option maxHeartbeats 0
namespace Mine.top
theorem tw16878204669230926818:True:=⟨⟩
theorem tw4213018616267185653:True:=⟨⟩
theorem tw16885616592811714743:True:=⟨⟩
theorem tw11520865232209809239:True:=⟨⟩
theorem tw2464713573024523455:True:=⟨⟩
theorem tw17081178143035459574:True:=⟨⟩
theorem tw9227057690007400460:True:=⟨⟩
theorem tw14823308797102314842:True:=⟨⟩
theorem tw5667650583090716360:True:=⟨⟩
theorem tw7008692893051332821:True:=⟨⟩
theorem tw18034075008235765660:True:=⟨⟩
theorem tw1617357707322924660:True:=⟨⟩
theorem tw427269002284569659:True:=⟨⟩
theorem tw8598144960395782539:True:=⟨⟩
theorem tw4370571667778220469:True:=⟨⟩
theorem tw6127594578889010139:True:=⟨⟩
theorem tw13802547742096326172:True:=⟨⟩
theorem tw11133666699803404755:True:=⟨⟩
theorem tw2665807947273092163:True:=⟨⟩
theorem tw14327942687566195431:True:=⟨⟩
theorem tw5244899138074338376:True:=⟨⟩
theorem tw1869187583165140508:True:=⟨⟩
theorem tw3730354652608582461:True:=⟨⟩
theorem tw8679839319945467846:True:=⟨⟩
theorem tw908825868028484722:True:=⟨⟩
theorem tw15392752256976776920:True:=⟨⟩
theorem tw15273375994461938058:True:=⟨⟩
theorem tw11922380849998532372:True:=⟨⟩
theorem tw7527032243904285869:True:=⟨⟩
theorem tw453181688931711583:True:=⟨⟩
theorem tw13345470168829271861:True:=⟨⟩
theorem tw13369591340354186047:True:=⟨⟩
theorem tw56207249046022051:True:=⟨⟩
theorem tw1366308652836431711:True:=⟨⟩
theorem tw3019106374644219109:True:=⟨⟩
theorem tw16439428074185983240:True:=⟨⟩
theorem tw6333448901615975916:True:=⟨⟩
theorem tw8321918168302905379:True:=⟨⟩
theorem tw11858546649754279707:True:=⟨⟩
theorem tw14371913498598963198:True:=⟨⟩
theorem tw9233335307524088747:True:=⟨⟩
theorem tw16058212318047004132:True:=⟨⟩
theorem tw1195175773429642966:True:=⟨⟩
theorem tw17836783524569865436:True:=⟨⟩
theorem tw5225153198818245361:True:=⟨⟩
theorem tw663735360317578897:True:=⟨⟩
theorem tw390997316461189296:True:=⟨⟩
theorem tw8735323631387419056:True:=⟨⟩
theorem tw8645369167282567922:True:=⟨⟩
theorem tw1284575025550258836:True:=⟨⟩
theorem tw8689318265317240412:True:=⟨⟩
theorem tw1954699219915387809:True:=⟨⟩
theorem tw5225916559131626549:True:=⟨⟩
theorem tw8729362747519067210:True:=⟨⟩
theorem tw649594095290182367:True:=⟨⟩
theorem tw13272337422414781067:True:=⟨⟩
theorem tw10801874191123338550:True:=⟨⟩
theorem tw8212240652046128837:True:=⟨⟩
theorem tw11762496359356365647:True:=⟨⟩
theorem tw7250933059871147345:True:=⟨⟩
theorem tw8204474986945543665:True:=⟨⟩
theorem tw13370750898655102155:True:=⟨⟩
theorem tw8435561252592420358:True:=⟨⟩
theorem tw8746712057465848211:True:=⟨⟩
theorem tw8139039716903228087:True:=⟨⟩
theorem tw5088376156974544275:True:=⟨⟩
theorem tw5915399644114372684:True:=⟨⟩
theorem tw9851269098105209369:True:=⟨⟩
theorem tw16580785732701462914:True:=⟨⟩
theorem tw2377541652452675900:True:=⟨⟩
theorem tw10006222313960134694:True:=⟨⟩
theorem tw12342655685612074800:True:=⟨⟩
theorem tw10936122117785486979:True:=⟨⟩
theorem tw3422688185749166683:True:=⟨⟩
theorem tw9961057766049560675:True:=⟨⟩
theorem tw16759092144687519636:True:=⟨⟩
theorem tw7444641836354208208:True:=⟨⟩
theorem tw1676862907878916244:True:=⟨⟩
theorem tw14263998999751124003:True:=⟨⟩
theorem tw12080426169559351053:True:=⟨⟩
theorem tw12483720753089274532:True:=⟨⟩
theorem tw4551080515912023512:True:=⟨⟩
theorem tw6919701780365589675:True:=⟨⟩
theorem tw12216630987165489725:True:=⟨⟩
theorem tw860223938195835975:True:=⟨⟩
theorem tw18085771088847121727:True:=⟨⟩
theorem tw11582926029173025856:True:=⟨⟩
theorem tw12819366960792805191:True:=⟨⟩
theorem tw18063644159110109576:True:=⟨⟩
theorem tw216529984938456764:True:=⟨⟩
theorem tw5476889619067714990:True:=⟨⟩
theorem tw17810072253543177317:True:=⟨⟩
theorem tw13928562000808390012:True:=⟨⟩
theorem tw11141966352661209427:True:=⟨⟩
theorem tw8622502720953521162:True:=⟨⟩
theorem tw17323899518341599180:True:=⟨⟩
theorem tw9514973924220054061:True:=⟨⟩
theorem tw5058314954733539658:True:=⟨⟩
theorem tw501154541418245514:True:=⟨⟩
theorem tw11240886729373846589:True:=⟨⟩
theorem tw4713442408853163898:True:=⟨⟩
theorem tw13307591127769906961:True:=⟨⟩
theorem tw8265191368974092141:True:=⟨⟩
theorem tw14142502885225118848:True:=⟨⟩
theorem tw13134186033006778460:True:=⟨⟩
theorem tw877433047237710547:True:=⟨⟩
theorem tw1585457916280141200:True:=⟨⟩
theorem tw2731995056826638727:True:=⟨⟩
theorem tw294160598199564215:True:=⟨⟩
theorem tw15058813355848621054:True:=⟨⟩
theorem tw708234853630380328:True:=⟨⟩
theorem tw6438537300738474071:True:=⟨⟩
theorem tw14168018189251442112:True:=⟨⟩
theorem tw15503665604740900718:True:=⟨⟩
theorem tw6662652255960138227:True:=⟨⟩
theorem tw5581607755468803823:True:=⟨⟩
theorem tw6664487174759623829:True:=⟨⟩
theorem tw4671429814451907529:True:=⟨⟩
theorem tw18194552166560175392:True:=⟨⟩
theorem tw2533078294621698928:True:=⟨⟩
theorem tw16453443671601555132:True:=⟨⟩
theorem tw2835187731363253809:True:=⟨⟩
theorem tw14789260269991461300:True:=⟨⟩
theorem tw1212798325632107971:True:=⟨⟩
theorem tw14402358008270493973:True:=⟨⟩
theorem tw11459358961799972967:True:=⟨⟩
theorem tw9382581127745807760:True:=⟨⟩
theorem tw10478281044441265007:True:=⟨⟩
theorem tw8184561461823581802:True:=⟨⟩
theorem tw2462062305354472974:True:=⟨⟩
theorem tw16352630495959832749:True:=⟨⟩
theorem tw14349089067433371257:True:=⟨⟩
theorem tw8856117171736301535:True:=⟨⟩
theorem tw9059672392935016618:True:=⟨⟩
theorem tw4655869559712951663:True:=⟨⟩
theorem tw16155163154822807229:True:=⟨⟩
theorem tw4009212813583148329:True:=⟨⟩
theorem tw16782997733028217545:True:=⟨⟩
theorem tw728428047077509346:True:=⟨⟩
theorem tw12102947074072374899:True:=⟨⟩
theorem tw7990429038631628895:True:=⟨⟩
theorem tw72247145696351765:True:=⟨⟩
theorem tw5118827330378232414:True:=⟨⟩
theorem tw15877122091014420850:True:=⟨⟩
theorem tw12427389293880184781:True:=⟨⟩
theorem tw6520327441239513222:True:=⟨⟩
theorem tw17565814175750979855:True:=⟨⟩
theorem tw5405092056839124451:True:=⟨⟩
theorem tw18237780215024852062:True:=⟨⟩
theorem tw16900427199656544559:True:=⟨⟩
theorem tw8694864300669457046:True:=⟨⟩
theorem tw2581206410525282061:True:=⟨⟩
theorem tw2057334267981633021:True:=⟨⟩
theorem tw1886144042066472794:True:=⟨⟩
theorem tw2847958352784047137:True:=⟨⟩
theorem tw620129878449983639:True:=⟨⟩
theorem tw7557910624720293991:True:=⟨⟩
theorem tw9614876229902214918:True:=⟨⟩
theorem tw14459580976405569124:True:=⟨⟩
theorem tw381845443943030031:True:=⟨⟩
theorem tw6286779285267259847:True:=⟨⟩
theorem tw5766051744304087583:True:=⟨⟩
theorem tw1516213087968936877:True:=⟨⟩
theorem tw10404823597219466188:True:=⟨⟩
theorem tw18008055252877512497:True:=⟨⟩
theorem tw7743179893348639699:True:=⟨⟩
theorem tw53344730913325255:True:=⟨⟩
theorem tw12392516345856041104:True:=⟨⟩
theorem tw6156568016551699631:True:=⟨⟩
theorem tw9800703332001039478:True:=⟨⟩
theorem tw14608685727046917156:True:=⟨⟩
theorem tw15985961358823992270:True:=⟨⟩
theorem tw705360758644809490:True:=⟨⟩
theorem tw10090393231696489298:True:=⟨⟩
theorem tw17244936779566465919:True:=⟨⟩
theorem tw17046948494117081484:True:=⟨⟩
theorem tw3531060308782635638:True:=⟨⟩
theorem tw11430207588045935325:True:=⟨⟩
theorem tw4159251561096739476:True:=⟨⟩
theorem tw4186445540838780016:True:=⟨⟩
theorem tw9465367173253082677:True:=⟨⟩
theorem tw2812155379371279736:True:=⟨⟩
theorem tw6749217079512962374:True:=⟨⟩
theorem tw13501252493785611398:True:=⟨⟩
theorem tw6505410396798821541:True:=⟨⟩
theorem tw919099199263921298:True:=⟨⟩
theorem tw6885214360128481674:True:=⟨⟩
theorem tw5303079699428457377:True:=⟨⟩
theorem tw1732150942055357024:True:=⟨⟩
theorem tw6187478851450931391:True:=⟨⟩
theorem tw15878805988109762761:True:=⟨⟩
theorem tw18086089286151905521:True:=⟨⟩
theorem tw8410488445778877200:True:=⟨⟩
theorem tw9259421805112917234:True:=⟨⟩
theorem tw16795567611416646642:True:=⟨⟩
theorem tw2218668502564051296:True:=⟨⟩
theorem tw15254643099363442306:True:=⟨⟩
theorem tw8538268897159353584:True:=⟨⟩
theorem tw11279390925490393535:True:=⟨⟩
theorem tw15740088241188596515:True:=⟨⟩
theorem tw2287823674025257028:True:=⟨⟩
theorem tw6430265229019958763:True:=⟨⟩
theorem tw5278709424875269971:True:=⟨⟩
theorem tw2700412350550837589:True:=⟨⟩
theorem tw10915162052029792233:True:=⟨⟩
theorem tw14796646475526232899:True:=⟨⟩
theorem tw6491118196486620199:True:=⟨⟩
theorem tw105208000716104510:True:=⟨⟩
theorem tw9378254376102152143:True:=⟨⟩
theorem tw6859976401760118174:True:=⟨⟩
theorem tw10956490626425055710:True:=⟨⟩
theorem tw4498253355057717688:True:=⟨⟩
theorem tw13896958669275611876:True:=⟨⟩
theorem tw3333402770817786719:True:=⟨⟩
theorem tw1139600151236580504:True:=⟨⟩
theorem tw15095372191486117680:True:=⟨⟩
theorem tw13303987763403120937:True:=⟨⟩
theorem tw12622177474791663080:True:=⟨⟩
theorem tw18371284783138465269:True:=⟨⟩
theorem tw4656485037274611717:True:=⟨⟩
theorem tw8892184565913893157:True:=⟨⟩
theorem tw6042063481754889096:True:=⟨⟩
theorem tw16196420915677631385:True:=⟨⟩
theorem tw16273406610938067001:True:=⟨⟩
theorem tw17315540178315561739:True:=⟨⟩
theorem tw15304316869575863853:True:=⟨⟩
theorem tw3337584539547039419:True:=⟨⟩
theorem tw12643491718579748851:True:=⟨⟩
theorem tw6572447435987645144:True:=⟨⟩
theorem tw1047907039808853306:True:=⟨⟩
theorem tw6898770573198911631:True:=⟨⟩
theorem tw15860264024139754761:True:=⟨⟩
theorem tw4299629679881509495:True:=⟨⟩
theorem tw12166907935582030026:True:=⟨⟩
theorem tw3430127420881650015:True:=⟨⟩
theorem tw12540527436937284434:True:=⟨⟩
theorem tw14502225709538309166:True:=⟨⟩
theorem tw12317137736924338119:True:=⟨⟩
theorem tw10567129059001840431:True:=⟨⟩
theorem tw6883741973766446791:True:=⟨⟩
theorem tw1956274872801931767:True:=⟨⟩
theorem tw14851680436948445374:True:=⟨⟩
theorem tw18186074749648716422:True:=⟨⟩
theorem tw8657480035899644758:True:=⟨⟩
theorem tw788273225186049534:True:=⟨⟩
theorem tw2555065506035805374:True:=⟨⟩
theorem tw16325430554902658873:True:=⟨⟩
theorem tw14987219478266130788:True:=⟨⟩
theorem tw7399620327199909405:True:=⟨⟩
theorem tw13664746368384525793:True:=⟨⟩
theorem tw10005945817407372193:True:=⟨⟩
theorem tw2867133514656366558:True:=⟨⟩
theorem tw6176384092110617959:True:=⟨⟩
theorem tw5938664839603501006:True:=⟨⟩
theorem tw4765999897956167003:True:=⟨⟩
theorem tw3969286963782609292:True:=⟨⟩
theorem tw15299407806266782574:True:=⟨⟩
theorem tw17492772389151264855:True:=⟨⟩
theorem tw5969682004907312646:True:=⟨⟩
theorem tw814325599930780420:True:=⟨⟩
theorem tw14597223018079223185:True:=⟨⟩
theorem tw2924597203103170677:True:=⟨⟩
theorem tw9631074621892390191:True:=⟨⟩
theorem tw1088946173253831356:True:=⟨⟩
theorem tw10207950341970196816:True:=⟨⟩
theorem tw17428532607074087071:True:=⟨⟩
theorem tw342308947776675178:True:=⟨⟩
theorem tw2907113945770861938:True:=⟨⟩
theorem tw2617719716777270872:True:=⟨⟩
theorem tw4205137553216949640:True:=⟨⟩
theorem tw14282377253939248939:True:=⟨⟩
theorem tw9059832203979395877:True:=⟨⟩
theorem tw956942650209027819:True:=⟨⟩
theorem tw15240379268576122478:True:=⟨⟩
theorem tw8363718466572441477:True:=⟨⟩
theorem tw12787338502077490372:True:=⟨⟩
theorem tw8523463495250067690:True:=⟨⟩
theorem tw15169761463676818070:True:=⟨⟩
theorem tw12094960947251128927:True:=⟨⟩
theorem tw11845233108574324481:True:=⟨⟩
theorem tw6756868429301003459:True:=⟨⟩
theorem tw594810645892935528:True:=⟨⟩
theorem tw16044733080236030384:True:=⟨⟩
theorem tw17555251805378815213:True:=⟨⟩
theorem tw8263863092937893816:True:=⟨⟩
theorem tw4240551143470953233:True:=⟨⟩
theorem tw4784893810139332661:True:=⟨⟩
theorem tw10864713392326063847:True:=⟨⟩
theorem tw8507776931139520737:True:=⟨⟩
theorem tw10648311167861321448:True:=⟨⟩
theorem tw1483126911874232274:True:=⟨⟩
theorem tw11203750815551599093:True:=⟨⟩
theorem tw370947364307004932:True:=⟨⟩
theorem tw13264354339760550358:True:=⟨⟩
theorem tw987869383939708018:True:=⟨⟩
theorem tw14689303997561334279:True:=⟨⟩
theorem tw15646934709686841381:True:=⟨⟩
theorem tw12958502747184954254:True:=⟨⟩
theorem tw13042145991694459580:True:=⟨⟩
theorem tw3712731000106771831:True:=⟨⟩
theorem tw795583310449317561:True:=⟨⟩
theorem tw9229161468869434483:True:=⟨⟩
theorem tw1400011881503588481:True:=⟨⟩
theorem tw5889316905344633881:True:=⟨⟩
theorem tw2782073688633401757:True:=⟨⟩
theorem tw8107780213005350392:True:=⟨⟩
theorem tw9503340733035011235:True:=⟨⟩
theorem tw8443935842833279946:True:=⟨⟩
theorem tw2741389259953327712:True:=⟨⟩
theorem tw16597617366809209970:True:=⟨⟩
theorem tw16204670001084760307:True:=⟨⟩
theorem tw339143206060000330:True:=⟨⟩
theorem tw13889309363888878346:True:=⟨⟩
theorem tw7414872774492366064:True:=⟨⟩
theorem tw4166218997396506358:True:=⟨⟩
theorem tw7458633546980236471:True:=⟨⟩
theorem tw14390669486469195807:True:=⟨⟩
theorem tw17277593502163590643:True:=⟨⟩
theorem tw887695700811335699:True:=⟨⟩
theorem tw3195968871104189447:True:=⟨⟩
theorem tw9272544492142499777:True:=⟨⟩
theorem tw7740461459972228597:True:=⟨⟩
theorem tw1142415686869020238:True:=⟨⟩
theorem tw16840627104734473223:True:=⟨⟩
theorem tw10448899703829047738:True:=⟨⟩
theorem tw2683898200743741643:True:=⟨⟩
theorem tw2514443458684651071:True:=⟨⟩
theorem tw10187264123177260123:True:=⟨⟩
theorem tw196536941598035525:True:=⟨⟩
theorem tw5523086135645875356:True:=⟨⟩
theorem tw12385144161495827662:True:=⟨⟩
theorem tw4828031223510198475:True:=⟨⟩
theorem tw10008474027749305400:True:=⟨⟩
theorem tw517144808224063464:True:=⟨⟩
theorem tw12012865196380796599:True:=⟨⟩
theorem tw14762295962024373759:True:=⟨⟩
theorem tw3855276242980373810:True:=⟨⟩
theorem tw13160728816969591200:True:=⟨⟩
theorem tw2007660962349395123:True:=⟨⟩
theorem tw2988451766255067171:True:=⟨⟩
theorem tw16713831800681072344:True:=⟨⟩
theorem tw17219337458794519322:True:=⟨⟩
theorem tw575894324575664597:True:=⟨⟩
theorem tw15362295582089109014:True:=⟨⟩
theorem tw9437893007894698314:True:=⟨⟩
theorem tw13068111086705522682:True:=⟨⟩
theorem tw5868845118606482295:True:=⟨⟩
theorem tw1291508964198565346:True:=⟨⟩
theorem tw2758071753971750899:True:=⟨⟩
theorem tw14372152842798730730:True:=⟨⟩
theorem tw7855079511596107753:True:=⟨⟩
theorem tw15177526630643400193:True:=⟨⟩
theorem tw864819663365544661:True:=⟨⟩
theorem tw3776753064480771068:True:=⟨⟩
theorem tw76412952228603488:True:=⟨⟩
theorem tw81815255157605957:True:=⟨⟩
theorem tw6761616313442571491:True:=⟨⟩
theorem tw10797620697341660853:True:=⟨⟩
theorem tw10987319290404115282:True:=⟨⟩
theorem tw4571971715460732019:True:=⟨⟩
theorem tw8973803690348224638:True:=⟨⟩
theorem tw15569959144833144457:True:=⟨⟩
theorem tw4321519831107876412:True:=⟨⟩
theorem tw9768079942903668216:True:=⟨⟩
theorem tw6370870915552960936:True:=⟨⟩
theorem tw9108098604805947806:True:=⟨⟩
theorem tw13416756446192369614:True:=⟨⟩
theorem tw224697296320739780:True:=⟨⟩
theorem tw8345894832289464959:True:=⟨⟩
theorem tw17486766287000646611:True:=⟨⟩
theorem tw7673058066778466091:True:=⟨⟩
theorem tw14533951869480809633:True:=⟨⟩
theorem tw2369445192022557226:True:=⟨⟩
theorem tw12788635000766794786:True:=⟨⟩
theorem tw7533140655931647585:True:=⟨⟩
theorem tw7896837427191650641:True:=⟨⟩
theorem tw4443558388629858611:True:=⟨⟩
theorem tw6491000429627706806:True:=⟨⟩
theorem tw6557515946712042825:True:=⟨⟩
theorem tw5786862702600326969:True:=⟨⟩
theorem tw17766871391022685941:True:=⟨⟩
theorem tw14550681783927167691:True:=⟨⟩
theorem tw16255585973736436067:True:=⟨⟩
theorem tw9211015944645480189:True:=⟨⟩
end Mine.top
namespace Mine
theorem top : PySem.Challenge.rw_tp0061_01.Holds := by
  w_on
  o_law
  o_head (kmHook K0 [3,44,45,51,52,58,59,60,68,84,90,91,92,98,99,107,113,114,143,144,145,149,150,156,157,173,174,196,197,203,204,208,209,215,216,222,223,227,228,232,233,237,238,244,245,249,250] (fun _ => by kernel_rfl) [147])
  (case hw => w_witness2)
  intro w s₀ s₁ mg mb G Y fa o pm cd doc dV kV ho hd hcd hD hmg hg args vals as hpre hlay hrd hwl hlo
  have KX := km_in_of Y
  km_tabs Y
  have X := (Ground.X G).1
  have V := (Ground.X G).2
  refine Ground.open G ?_
  intro T B D TE TW
  try (refine guard_noD D (by decide +kernel) ?_; clear D)
  km_lay T hmg ho hd cd
  clear hmg
  wrow_args hpre hlay hrd hwl hlo
  all_goals (
    first | refine callC_kw (enter_call ?_) | refine enter_call ?_
    w_top on
    refine kn_postG hT9 (fun _ _ => rfl) ?hp ?_)
  case hp => kernel_rfl
  w_call any ho hd hcd hD T F
  clear hd
  kn_ghosts F T
  k_drop
  rename IntsAre _ _ => hI
  rename Fr _ _ _ _ => F1
  rename News _ _ _ _ => N1
  rename Below _ _ _ _ => B1
  rename Top _ _ _ _ _ (ghostOf _ _) => T1
  rename Frag.In _ _ => X1
  rename ¬ _ => hlen
  refine ob_EEEEEEEAAAAAAAAA ((scr_ev L.plain hI hlen).ev) fun σ1 σ2 σ3 draws hosts sizes names e0 e1 e2 c1 c2 c3 hl nok hn eb => ?_
  refine law_walk (p77s0.2 _ _ kb) (p77s1.2 _ _ kb) (p77s2.2 _ _ kb) (p77b.2 _ _ _ kb (c70 kb 6)) (c68 kb) B1 F1 X1 T1 N1 codeHd (by decide) (by decide) ?_ lifted hI e0 e1 e2 c1 c2 c3 hl nok hn eb ?_
  · show AllFin s₁.gens
    rw [hg]
    exact fun _ h => nomatch h
  · intro h' tk' gs k1 k2 k3
    refine ⟨rfl,k1,rfl,?_,k3,trivial⟩
    intro y hy
    rw [k2 y (Array.mem_toList_iff.mpr hy)]
    rfl
end Mine
set_option Elab.async false
theorem PySem.Challenge.cw_tp0061_01_holds : PySem.Challenge.rw_tp0061_01.Holds :=
  Mine.top
